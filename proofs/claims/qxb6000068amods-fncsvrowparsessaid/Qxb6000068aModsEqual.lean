/- Reading bytes; b1BytesEqual; ZZcsvField; the bound of FnCsvFieldInjective. -/
import Derived.Test.Qxb6000068aModsField
import Derived.Test.Qxb6000068aModsInj
namespace Go.Proofs.Qxb6000068aMods
open Go.RowKit Go.PlainAid

/-- The slice '.slice a n c' reads as the bytes l. -/
structure Rd (w : World) (a : Option Addr) (n : Nat) (l : List Int) : Prop where
  len : n = l.length
  at' : 0 < n → ∃ b o, a = some ⟨b, o, none⟩ ∧ ∀ i, i < n → w.cell? ⟨b, o + i, none⟩ = some (.int .u8 (nth l i))

theorem rd_of_own {w : World} {base : Nat} {v : Value} {l : List Int} (h : w.ownsRow base 5 1 v l.length (B l)) : ∃ a c, v = .slice a l.length c ∧ l.length ≤ c ∧ c ≤ maxLen ∧ Rd w a l.length l := by
  rcases h.2 with ⟨rfl, h0⟩ | ⟨g, cap, cur, rfl, _, hh, hl, hm, hcs, ht⟩
  · exact ⟨none, 0, by rw [h0], by omega, Nat.zero_le _, ⟨rfl, fun h => absurd h (by omega)⟩⟩
  · refine ⟨_, cap, rfl, hl, hm, ⟨rfl, fun _ => ⟨g, 0, rfl, fun i hi => ?_⟩⟩⟩
    have := h.cells (g := g) rfl i _ (B_get l hi)
    rw [WideShapes.add_plain] at this
    exact this

/-- Nothing but draws lies between. -/
structure Qt (W wr : World) : Prop where
  out : ∃ q, wr = W.drewN q
theorem Qt.refl (W : World) : Qt W W := ⟨0, rfl⟩
theorem Qt.drewN {W wr : World} (h : Qt W wr) (n : Nat) : Qt W (wr.drewN n) := by
  obtain ⟨q, rfl⟩ := h.out
  exact ⟨q + n, by simp [World.drewN, Nat.add_assoc]⟩
theorem Qt.cell {W wr : World} (h : Qt W wr) {a : Addr} {v : Value} (hc : W.cell? a = some v) : wr.cell? a = some v := by
  obtain ⟨q, rfl⟩ := h.out
  exact hc

def eqL (a b : List Int) : Bool := decide (a = b)
structure P17 (w : World) (l1 l2 : List Int) (e : Ending) (w' : World) : Prop where
  out : e = .returned (.bool (eqL l1 l2)) ∧ Qt w w'

set_option maxHeartbeats 1000000 in
theorem f17_any (a1 a2 : Option Addr) (n1 n2 c1 c2 : Nat) (l1 l2 : List Int) (w : World) (h1 : Rd w a1 n1 l1) (h2 : Rd w a2 n2 l2) (hn : n1 ≤ 9223372036854775807) :
    Calls Trym.prog 17 #[.slice a1 n1 c1, .slice a2 n2 c2] w (P17 w l1 l2) := by
  by_cases hne : n1 = n2
  · subst hne
    rcases Nat.eq_zero_or_pos n1 with h0 | h0
    · have e1 : eqL l1 l2 = true := by
        have := h1.len; have := h2.len
        rw [List.eq_nil_of_length_eq_zero (l := l1) (by omega), List.eq_nil_of_length_eq_zero (l := l2) (by omega)]; rfl
      have HE := hide e1
      subst h0
      clear e1
      go_enter Trym.func17, Trym.ntmps17
      go_wp2
      go_rounds 1
      go_ret
      exact ⟨⟨ret_bool (unhide HE).symm, Qt.refl _⟩⟩
    · obtain ⟨b1, o1, rfl, g1⟩ := h1.at' h0
      obtain ⟨b2, o2, rfl, g2⟩ := h2.at' h0
      have G1 := hide g1
      have G2 := hide g2
      have HL1 := hide h1.len
      have HL2 := hide h2.len
      clear g1 g2 h1 h2
      go_enter Trym.func17, Trym.ntmps17
      go_wp2
      go_loopw [5] (fun i wr => ∃ k : Nat, k ≤ n1 ∧ i = .int .i64 k ∧ Qt w wr ∧ ∀ j, j < k → nth l1 j = nth l2 j) (fun i _ => n1 - (intOf i).toNat)
      case atStart => exact ⟨0, Nat.zero_le _, rfl, Qt.refl _, fun j hj => absurd hj (by omega)⟩
      case round =>
        obtain ⟨k, hk, rfl, hQ, hj⟩ := hrel
        have HJ := hide hj
        clear hj
        by_cases hlt : k < n1
        · have c1 := hQ.cell (unhide G1 k hlt)
          have c2 := hQ.cell (unhide G2 k hlt)
          by_cases he : nth l1 k = nth l2 k
          · have hb : (nth l1 k != nth l2 k) = false := by simpa using he
            have HE := hide he
            clear he
            go_wp2
            go_quiet (fail)
            go_wp2
            go_roundw
            case rel => exact ⟨k + 1, by omega, by go_num, hQ.drewN nq, fun j hj => by
              rcases Nat.lt_succ_iff_lt_or_eq.1 hj with h | h
              · exact unhide HJ j h
              · subst h; exact unhide HE⟩
            case measure => simp [intOf]; omega
          · have hb : (nth l1 k != nth l2 k) = true := by simpa using he
            have HE : Hid (eqL l1 l2 = false) := by
              show _ = _
              exact decide_eq_false (fun e => he (by rw [e]))
            clear he
            go_wp2
            go_quiet (fail)
            go_wp2
            go_ret
            exact ⟨⟨ret_bool (unhide HE).symm, hQ.drewN nq⟩⟩
        · have HE : Hid (eqL l1 l2 = true) := by
            show _ = _
            have e1 := unhide HL1; have e2 := unhide HL2
            exact decide_eq_true (list_eq_of_nth (by omega) (fun i hi => unhide HJ i (by omega)))
          go_wp2
          go_ret
          exact ⟨⟨ret_bool (unhide HE).symm, hQ⟩⟩
  · have hb : ((n1 : Int) != (n2 : Int)) = true := by rw [bne_iff_ne]; omega
    have HE : Hid (eqL l1 l2 = false) := by
      show _ = _
      exact decide_eq_false (fun e => hne (by rw [h1.len, h2.len, e]))
    clear hne h1 h2
    go_enter Trym.func17, Trym.ntmps17
    go_wp2
    go_ret
    exact ⟨⟨ret_bool (unhide HE).symm, Qt.refl _⟩⟩

theorem f11_any (v : Value) (xs : List Int) (s : ByteArray) (w : World) (hown : w.ownsRow 0 5 1 v xs.length (B xs)) (hn : xs.length ≤ 549755813888) (hs : s.size ≤ 1048576) :
    Calls Trym.prog 11 #[v, .string s] w (P29 w v xs s) := by
  have H := hide (f29_any v xs s w hown hn hs)
  clear hown
  go_enter Trym.func11, Trym.ntmps11
  go_wp2_with fail
  refine (unhide H).mono ?_
  rintro e w' ⟨v', rfl, hO⟩
  have HO := hide hO
  clear hO H
  go_wp2
  go_ret
  exact ⟨⟨v', rfl, unhide HO⟩⟩

theorem f16_yes (a b : ByteArray) (w : World) (h : a.size + b.size ≤ 1048576) : Calls Trym.prog 16 #[.string a, .string b] w fun e w' => e = .returned (.bool true) ∧ w' = w := by
  go_enter Trym.func16, Trym.ntmps16
  go_wp2
  go_ret
  exact ⟨rfl, rfl⟩
theorem f16_no (a b : ByteArray) (w : World) (ha : a.size ≤ 9223372036854775807) (hb : b.size ≤ 9223372036854775807) (h : ¬ a.size + b.size ≤ 1048576) : Calls Trym.prog 16 #[.string a, .string b] w fun e w' => e = .returned (.bool false) ∧ w' = w := by
  go_enter Trym.func16, Trym.ntmps16
  go_wp2
  all_goals go_ret
  all_goals exact ⟨rfl, rfl⟩
end Go.Proofs.Qxb6000068aMods
