/- The law's own walk. -/
import Derived.Test.Qxb6000048aModsIn
import Derived.Test.Qxb6000048aModsExport
namespace Go.Proofs.Qxb6000048aMods
open Go.RowKit

structure P3 (w : World) (e : Ending) (w' : World) : Prop where
  out : e = .returned (.bool true) ∧ Below w.heap.size w w'

/-- Nothing but draws lies between. -/
structure Qt (W wr : World) : Prop where
  out : ∃ q, wr = W.drewN q
theorem Qt.refl (W : World) : Qt W W := ⟨0, rfl⟩
theorem Qt.drewN {W wr : World} (h : Qt W wr) (n : Nat) : Qt W (wr.drewN n) := by
  obtain ⟨q, rfl⟩ := h.out
  exact ⟨q + n, by simp [World.drewN, Nat.add_assoc]⟩
theorem Qt.cell {W wr : World} (h : Qt W wr) {a : Addr} {v : Value} (hc : W.cell? a = some v) : wr.cell? a = some v := by
  obtain ⟨q, rfl⟩ := h.out
  exact hc
theorem Qt.tab {W wr : World} (h : Qt W wr) {a : Option Addr} {len : Nat} {A : Nat → Option Addr} {L C : Nat → Nat} {Z : Nat → Nat → Int} (ht : Tab W a len A L C Z) : Tab wr a len A L C Z := by
  obtain ⟨q, rfl⟩ := h.out
  exact ht.drewN q

theorem Below.drewN {B : Nat} {a w : World} (h : Below B a w) (n : Nat) : Below B a (w.drewN n) := ⟨h.os, h.tape, h.output, h.size, h.block⟩

set_option maxHeartbeats 4000000 in
theorem f3_any (n : Int) (a : Option Addr) (len cap : Nat) (A : Nat → Option Addr) (L C : Nat → Nat) (Z : Nat → Nat → Int) (w : World) (h : Tab w a len A L C Z)
    (hlen : len ≤ 9223372036854775807) (hL : ∀ r, r < len → L r ≤ 9223372036854775807) :
    Calls Trym.prog 3 #[.int .i64 n, .slice a len cap] w (P3 w) := by
  have H8 := hide (f8_any n a len cap A L C Z w h hlen hL)
  have HT := hide h
  clear h hL
  go_enter Trym.func3, Trym.ntmps3
  go_wp2_with fail
  refine (unhide H8).mono ?_
  rintro e w' ⟨b, rfl, hw, hb⟩
  obtain rfl := hw.symm
  clear H8 hlen
  cases b with
  | false =>
    go_wp2
    go_ret
    exact ⟨⟨rfl, Below.refl _ _⟩⟩
  | true =>
    obtain ⟨hlen, hL⟩ := hb rfl
    have HL := hide hL
    clear hb hL
    go_wp2_with fail
    refine (f9_any _ _ _ A L C Z _ (unhide HT) hlen (unhide HL)).mono ?_
    rintro e w' ⟨t, rfl, hw⟩
    obtain rfl := hw.symm
    by_cases ht : 1048576 < t
    · go_wp2
      go_ret
      exact ⟨⟨rfl, Below.refl _ _⟩⟩
    · go_wp2_with fail
      refine (f10_any _ _ _ _ A L C Z _ (unhide HT) hlen (unhide HL)).mono ?_
      rintro e w' ⟨b, m, rfl, rfl, hb⟩
      cases b with
      | false =>
        go_wp2
        go_ret
        exact ⟨⟨rfl, Below.drewN (Below.refl _ _) _⟩⟩
      | true =>
        obtain ⟨hn0, hn1, hZ⟩ := hb rfl
        have HZ := hide hZ
        clear hb hZ
        go_wp2_with fail
        refine (f11_any _ _ _ A L C Z _ ((unhide HT).drewN m) hlen (unhide HL)).mono ?_
        rintro e w1 ⟨a', A', C', rfl, hT1, hB1⟩
        have HT1 := hide hT1
        have HB1 := hide hB1
        clear hT1 hB1
        obtain ⟨N, rfl⟩ := Int.eq_ofNat_of_zero_le hn0
        have hN : N ≤ 65536 := by omega
        go_wp2_with fail
        refine (f12_any N _ _ _ A' L C' Z _ (unhide HT1) hlen (unhide HL) hN (unhide HZ)).mono ?_
        rintro e W ⟨Bm, Bk, Ba, Bl, M, rfl, hB2, hmay, hrows, hk, ha, hl⟩
        have hT2 := (unhide HT1).below hB2 (Nat.le_refl _)
        have hB3 : Below w.heap.size w W := (Below.drewN (Below.refl _ w) m).trans ((unhide HB1).trans (hB2.mono (unhide HB1).size))
        have HT2 := hide hT2
        have HB3 := hide hB3
        have HM := hide hmay
        have HR := hide hrows
        have HK := hide hk
        have HA := hide ha
        have HLD := hide hl
        clear HT1 HB1 hT2 hB2 hB3 hmay hrows hk ha hl
        go_wp2
        go_loopw [58] (fun i wr => ∃ c : Nat, c ≤ len ∧ i = .int .i64 c ∧ Qt W wr) (fun i _ => len - (intOf i).toNat)
        case atStart => exact ⟨0, Nat.zero_le _, rfl, Qt.refl _⟩
        case round =>
          obtain ⟨c, hc, rfl, hQ⟩ := hrel
          by_cases hlt : c < len
          · obtain ⟨b, o, rfl, hcell⟩ := (unhide HT2).top (by omega)
            have hce := hQ.cell (hcell c hlt)
            have HCE := hide (hcell c hlt)
            have hm1 := hQ.cell ((unhide HM).cell hlt)
            have hLc := unhide HL c hlt
            clear hcell
            go_wp2
            clear hce hm1
            go_loopw [69] (fun i wr => ∃ j : Nat, j ≤ N ∧ i = .int .i64 j ∧ Qt W wr) (fun i _ => N - (intOf i).toNat)
            case atStart => exact ⟨0, Nat.zero_le _, rfl, hQ⟩
            case round =>
              obtain ⟨j, hj, rfl, hQ2⟩ := hrel
              by_cases hjl : j < N
              · have hce := hQ2.cell (unhide HCE)
                have hm1 := hQ2.cell ((unhide HM).cell hlt)
                have hm2 := hQ2.cell ((unhide HR c hlt).cell hjl)
                have H13 := hide (fun nq => f13_any (A' c) (L c) (C' c) (Z c) j (wr.drewN nq) (by omega) ((hQ2.tab (unhide HT2)).drewN nq |>.row c hlt))
                go_wp2
                go_quiet ((go_at_call 13; exact Calls.quiet_of_same (unhide H13 _)))
                go_wp2
                go_roundw
                case rel => exact ⟨j + 1, by omega, by go_num, hQ2.drewN nq⟩
                case measure => simp [intOf]; omega
              · go_wp2
                go_roundw
                case rel => exact ⟨c + 1, by omega, by go_num, hQ2⟩
                case measure => simp [intOf]; omega
          · go_wp2
            go_loopw [89] (fun i wr => ∃ j : Nat, j ≤ N ∧ i = .int .i64 j ∧ Qt W wr) (fun i _ => N - (intOf i).toNat)
            case atStart => exact ⟨0, Nat.zero_le _, rfl, hQ⟩
            case round =>
              obtain ⟨j, hj, rfl, hQ2⟩ := hrel
              by_cases hjl : j < N
              · have z1 := hQ2.cell ((unhide HK).cell hjl)
                have z2 := hQ2.cell ((unhide HA).cell hjl)
                have z3 := hQ2.cell ((unhide HLD).cell hjl)
                go_wp2
                go_roundw
                case rel => exact ⟨j + 1, by omega, by go_num, hQ2⟩
                case measure => simp [intOf]; omega
              · have hB : Below w.heap.size w wr := by
                  obtain ⟨q, rfl⟩ := hQ2.out
                  exact Below.drewN (unhide HB3) q
                go_wp2
                go_ret
                exact ⟨⟨rfl, hB⟩⟩
end Go.Proofs.Qxb6000048aMods
