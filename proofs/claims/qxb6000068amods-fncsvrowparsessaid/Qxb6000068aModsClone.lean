/- b1CloneBytes, b1HasBytePrefix, b1NeedsQuotes, b1BytesIsString. -/
import Derived.Test.Qxb6000068aModsEqual
import Derived.Test.Qxb6000068aModsPos
namespace Go.Proofs.Qxb6000068aMods
open Go.RowKit Go.PlainAid

theorem cell_of_block {w w' : World} {b o : Nat} {v : Value} (h : w'.heap[b]? = w.heap[b]?) (hc : w.cell? ⟨b, o, none⟩ = some v) : w'.cell? ⟨b, o, none⟩ = some v :=
  (World.cell?_of_block (w := w) (a := ⟨b, o, none⟩) h).trans hc
theorem grown_cell {w w' : World} {b o : Nat} {v : Value} (h : w.grownBy w' none) (hc : w.cell? ⟨b, o, none⟩ = some v) : w'.cell? ⟨b, o, none⟩ = some v :=
  cell_of_block (h.block b (block_lt_of_cell hc) (by simp)) hc
theorem Rd.grown {w w' : World} {a : Option Addr} {n : Nat} {l : List Int} (h : Rd w a n l) (hg : w.grownBy w' none) : Rd w' a n l :=
  ⟨h.len, fun h0 => by
    obtain ⟨b, o, e, hc⟩ := h.at' h0
    exact ⟨b, o, e, fun i hi => grown_cell hg (hc i hi)⟩⟩

structure P10 (w : World) (l : List Int) (e : Ending) (w' : World) : Prop where
  out : ∃ v', e = .returned v' ∧ Owns w w' none v' l

/-- The clone when k bytes have gone over. -/
structure CloneAt (w wr : World) (l : List Int) (k : Nat) : Prop where
  kept : w.grownBy wr none
  row : wr.rowIs w.heap.size 5 l.length (fun i => if i < k then .int .u8 (nth l i) else .int .u8 0)

theorem clone_start (w : World) (l : List Int) : CloneAt w (w.alloc (.cells (madeCells #[.int .u8 0] l.length) 5)) l 0 :=
  ⟨World.grownBy_alloc w _ none, (World.rowIs_made w _ l.length 5).congr (fun i _ => by simp)⟩
theorem clone_step {w wr : World} {l : List Int} {k : Nat} (h : CloneAt w wr l k) : CloneAt w (wr.setCell ⟨w.heap.size, k, none⟩ (.int .u8 (nth l k))) l (k + 1) := by
  refine ⟨⟨h.kept.os, h.kept.tape, h.kept.output, by simpa using h.kept.size, fun j hj hne => ?_⟩, (h.row.set k _).congr (fun i _ => ?_)⟩
  · rw [Below.heap_setCell _ _ _ _ (by show j ≠ w.heap.size; omega)]; exact h.kept.block j hj hne
  · by_cases e : i = k
    · subst e; simp
    · by_cases hlt : i < k
      · have h3 : i < k + 1 := by omega
        simp [hlt, h3, e]
      · have h3 : ¬ i < k + 1 := by omega
        simp [hlt, h3, e]
theorem B_nth (l : List Int) : B l = (List.range l.length).map (fun i => .int .u8 (nth l i)) := by
  apply List.ext_getElem?
  intro i
  by_cases hi : i < l.length
  · rw [B_get l hi]; simp [hi]
  · rw [List.getElem?_eq_none (by rw [B_length]; omega), List.getElem?_eq_none (by simp; omega)]
theorem clone_done {w wr : World} {l : List Int} (h : CloneAt w wr l l.length) (hm : l.length ≤ maxLen) : Owns w wr none (.slice (some ⟨w.heap.size, 0, none⟩) l.length l.length) l := by
  obtain ⟨c, hb, hn, hc⟩ := h.row
  refine ⟨⟨by simp [B_length], .inr ⟨w.heap.size, l.length, c, rfl, Nat.zero_le _, hb, Nat.le_refl _, hm, by omega, ?_⟩⟩, h.kept, .inr (.inr ⟨w.heap.size, rfl, Nat.le_refl _⟩)⟩
  rw [B_nth]
  apply List.ext_getElem?
  intro i
  by_cases hi : i < l.length
  · have this : c[i]? = some (if i < l.length then .int .u8 (nth l i) else .int .u8 0) := hc i hi
    rw [if_pos hi] at this
    have e2 : c.toList[i]? = some (.int .u8 (nth l i)) := by rw [Array.getElem?_toList]; exact this
    rw [List.getElem?_take, if_pos (by omega), e2]
    simp [hi]
  · rw [List.getElem?_eq_none (by simp; omega), List.getElem?_eq_none (by simp; omega)]

set_option maxHeartbeats 1000000 in
theorem f10_any (a : Option Addr) (n c : Nat) (l : List Int) (w : World) (h : Rd w a n l) (hnil : a = none → n = 0 ∧ c = 0) (hn : n ≤ 1048576) :
    Calls Trym.prog 10 #[.slice a n c] w (P10 w l) := by
  have q1 := fun wx => Lib.run_eql_slice_nil (P := Trym.prog) wx 22 5 a n c 0 0 Trym.underlying22
  cases a with
  | none =>
    obtain ⟨rfl, rfl⟩ := hnil rfl
    have hl : l = [] := List.eq_nil_of_length_eq_zero h.len.symm
    subst hl
    have HO : Hid (Owns w w none (.slice none 0 0) []) := ⟨World.ownsRow_nil _ _ _ _, grownBy_refl _ _, .inl rfl⟩
    go_enter Trym.func10, Trym.ntmps10
    go_wp2
    go_ret
    exact ⟨⟨_, rfl, unhide HO⟩⟩
  | some x =>
    obtain ⟨rfl⟩ := h.len
    have hmk := run_make_row' (P := Trym.prog) 22 5 (.int .u8 0) 1 Trym.underlying22 Trym.info5 rfl .i64 .i64 l.length (by omega) (by omega)
    by_cases h0 : l.length ≤ 0
    · have HO := hide (clone_done (w := w) (l := l) (wr := w.alloc (.cells (madeCells #[.int .u8 0] l.length) 5)) (by
        have := clone_start w l
        rw [show l.length = 0 from by omega] at this ⊢
        simpa using this) (by unfold maxLen; omega))
      clear h
      go_enter Trym.func10, Trym.ntmps10
      go_wp2
      go_rounds 1
      go_ret
      exact ⟨⟨_, rfl, unhide HO⟩⟩
    · obtain ⟨b, o, e, hc⟩ := h.at' (by omega)
      cases e
      have HC := hide hc
      clear hc h
      go_enter Trym.func10, Trym.ntmps10
      go_wp2
      clear q1 hmk
      go_loopw [4] (fun i wr => ∃ k : Nat, k ≤ l.length ∧ i = .int .i64 k ∧ CloneAt w wr l k) (fun i _ => l.length - (intOf i).toNat)
      case atStart => exact ⟨0, Nat.zero_le _, rfl, clone_start w l⟩
      case round =>
        obtain ⟨k, hk, rfl, hI⟩ := hrel
        by_cases hlt : k < l.length
        · have g1 := grown_cell hI.kept (unhide HC k hlt)
          obtain ⟨v0, g2⟩ : ∃ v0, wr.cell? ⟨w.heap.size, k, none⟩ = some v0 := ⟨_, hI.row.cell hlt⟩
          have g3 := hI.row.frozen k
          have HS := hide (clone_step hI)
          clear hI
          go_wp2
          go_roundw
          case rel => exact ⟨k + 1, by omega, by go_num, unhide HS⟩
          case measure => simp [intOf]; omega
        · have hk' : k = l.length := by omega
          subst hk'
          have HO := hide (clone_done hI (by unfold maxLen; omega))
          clear hI
          go_wp2
          go_ret
          exact ⟨⟨_, rfl, unhide HO⟩⟩

structure PT (w : World) (b : Bool) (e : Ending) (w' : World) : Prop where
  out : e = .returned (.bool b) ∧ Qt w w'

set_option maxHeartbeats 1000000 in
/-- b1HasBytePrefix where the one begins with the other: true. -/
theorem f12_yes (a1 a2 : Option Addr) (n1 n2 c1 c2 : Nat) (l2 t : List Int) (w : World) (h1 : Rd w a1 n1 (l2 ++ t)) (h2 : Rd w a2 n2 l2) (hn : n1 ≤ 9223372036854775807) :
    Calls Trym.prog 12 #[.slice a1 n1 c1, .slice a2 n2 c2] w (PT w true) := by
  have hle : n2 ≤ n1 := by have := h1.len; have := h2.len; simp at *; omega
  by_cases h0 : n2 ≤ 0
  · clear h1 h2
    go_enter Trym.func12, Trym.ntmps12
    go_wp2
    go_rounds 1
    go_ret
    exact ⟨⟨rfl, Qt.refl _⟩⟩
  · obtain ⟨b1, o1, rfl, g1⟩ := h1.at' (by omega)
    obtain ⟨b2, o2, rfl, g2⟩ := h2.at' (by omega)
    have G1 := hide g1
    have G2 := hide g2
    have HL2 := hide h2.len
    clear g1 g2 h1 h2
    go_enter Trym.func12, Trym.ntmps12
    go_wp2
    go_loopw [5] (fun i wr => ∃ k : Nat, k ≤ n2 ∧ i = .int .i64 k ∧ Qt w wr) (fun i _ => n2 - (intOf i).toNat)
    case atStart => exact ⟨0, Nat.zero_le _, rfl, Qt.refl _⟩
    case round =>
      obtain ⟨k, hk, rfl, hQ⟩ := hrel
      by_cases hlt : k < n2
      · have c1 := hQ.cell (unhide G1 k (by omega))
        have c2 := hQ.cell (unhide G2 k hlt)
        rw [nth_append_left l2 t (by have := unhide HL2; omega)] at c1
        go_wp2
        go_quiet (fail)
        go_wp2
        go_roundw
        case rel => exact ⟨k + 1, by omega, by go_num, hQ.drewN nq⟩
        case measure => simp [intOf]; omega
      · go_wp2
        go_ret
        exact ⟨⟨rfl, hQ⟩⟩

structure P13 (w : World) (s : ByteArray) (e : Ending) (w' : World) : Prop where
  out : e = .returned (.bool (needs (sl s))) ∧ w' = w

set_option maxHeartbeats 1000000 in
theorem f13_any (s : ByteArray) (w : World) (hs : s.size ≤ 9223372036854775807) : Calls Trym.prog 13 #[.string s] w (P13 w s) := by
  have hb := get_bt s
  go_enter Trym.func13, Trym.ntmps13
  go_wp2
  go_loop [3] (fun i => ∃ k : Nat, k ≤ s.size ∧ i = .int .i64 k ∧ needs ((sl s).take k) = false) (fun i => s.size - (intOf i).toNat)
  case atStart => exact ⟨0, Nat.zero_le _, rfl, rfl⟩
  case round =>
    obtain ⟨k, hk, rfl, hno⟩ := hrel
    have HN := hide hno
    clear hno
    by_cases hlt : k < s.size
    · by_cases hsp : spec (bt s k) = true
      · have HY := hide (needs_of_spec hlt hsp)
        rcases spec_cases hsp with h | h | h | h
        all_goals
          clear hsp
          go_wp2
          go_ret
          exact ⟨⟨ret_bool (unhide HY).symm, rfl⟩⟩
      · obtain ⟨h1, h2, h3, h4⟩ := spec_none hsp
        have HNX : Hid (needs ((sl s).take (k + 1)) = false) := by
          show _ = _
          rw [needs_take hlt, unhide HN]; simpa using hsp
        clear hsp
        go_wp2
        go_round
        case rel => exact ⟨k + 1, by omega, by go_num, unhide HNX⟩
        case measure => simp [intOf]; omega
    · have HY : Hid (needs (sl s) = false) := by
        show _ = _
        have := unhide HN
        rwa [List.take_of_length_le (by rw [sl_length]; omega)] at this
      go_wp2
      go_ret
      exact ⟨⟨ret_bool (unhide HY).symm, rfl⟩⟩

set_option maxHeartbeats 1000000 in
/-- b1BytesIsString where the bytes are the string's: true. -/
theorem f14_yes (a1 : Option Addr) (n1 c1 : Nat) (s : ByteArray) (w : World) (h1 : Rd w a1 n1 (sl s)) (hs : s.size ≤ 9223372036854775807) :
    Calls Trym.prog 14 #[.slice a1 n1 c1, .string s] w (PT w true) := by
  have hb := get_bt s
  have hlen : n1 = s.size := by rw [h1.len, sl_length]
  subst hlen
  by_cases h0 : s.size ≤ 0
  · clear h1
    go_enter Trym.func14, Trym.ntmps14
    go_wp2
    go_rounds 1
    go_ret
    exact ⟨⟨rfl, Qt.refl _⟩⟩
  · obtain ⟨b1, o1, rfl, g1⟩ := h1.at' (by omega)
    have G1 := hide g1
    clear g1 h1
    go_enter Trym.func14, Trym.ntmps14
    go_wp2
    go_loopw [5] (fun i wr => ∃ k : Nat, k ≤ s.size ∧ i = .int .i64 k ∧ Qt w wr) (fun i _ => s.size - (intOf i).toNat)
    case atStart => exact ⟨0, Nat.zero_le _, rfl, Qt.refl _⟩
    case round =>
      obtain ⟨k, hk, rfl, hQ⟩ := hrel
      by_cases hlt : k < s.size
      · have c1 := hQ.cell (unhide G1 k (by omega))
        rw [nth_sl s hlt] at c1
        go_wp2
        go_quiet (fail)
        go_wp2
        go_roundw
        case rel => exact ⟨k + 1, by omega, by go_num, hQ.drewN nq⟩
        case measure => simp [intOf]; omega
      · go_wp2
        go_ret
        exact ⟨⟨rfl, hQ⟩⟩
end Go.Proofs.Qxb6000068aMods
