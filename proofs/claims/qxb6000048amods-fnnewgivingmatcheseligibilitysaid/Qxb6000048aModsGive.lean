/- newGiving: the walk. -/
import Derived.Test.Qxb6000048aModsGiveMem
import Derived.Deep.DeepCutAuto
import Derived.Deep.Light
namespace Go.Proofs.Qxb6000048aMods
open Go.RowKit

set_option maxHeartbeats 4000000 in
theorem f37_any (N : Nat) (a : Option Addr) (len cap : Nat) (A : Nat → Option Addr) (L C : Nat → Nat) (Z : Nat → Nat → Int) (w : World) (h : Tab w a len A L C Z)
    (hlen : len ≤ 1048576) (hL : ∀ r, r < len → L r ≤ 1048576) (hN : N ≤ 65536) (hZ : ∀ r, r < len → ∀ c, c < L r → 0 ≤ Z r c ∧ Z r c < N) :
    Calls Trym.prog 37 #[.int .i64 N, .slice a len cap] w (P37 w a len cap N L Z) := by
  have hmk1 := run_make_row' (P := Trym.prog) 26 30 (.slice none 0 0) 24 Trym.underlying26 Trym.info30 rfl .i64 .i64 len (by omega) (by omega)
  have hmk2 := run_make_row' (P := Trym.prog) 56 59 (.map none) 8 Trym.underlying56 Trym.info59 rfl .i64 .i64 N (by omega) (by omega)
  have hmk3 := run_make_row' (P := Trym.prog) 27 3 (.int .i64 0) 8 Trym.underlying27 Trym.info3 rfl .i64 .i64 N (by omega) (by omega)
  have HT := hide h
  have HL := hide hL
  have HZ := hide hZ
  clear h hL hZ
  go_enter Trym.func37, Trym.ntmps37
  go_upto_region 1 with fail
  go_cut [5] (fun p wc => Fresh w wc a len cap N p)
  case first =>
    go_region
    all_goals (go_wp2_with fail; go_meet; clear HT HL HZ hmk1 hmk2 hmk3; go_light)
    all_goals refine fresh_mk w a len cap N _ _ _ _ _ _ _ _ _ (by omega) ?_ ?_ ?_ ?_ (by omega)
    all_goals first | (refine ⟨0, ?_, rfl⟩; omega) | (refine ⟨1, ?_, rfl⟩; omega) | (refine ⟨2, ?_, rfl⟩; omega) | (refine ⟨3, ?_, rfl⟩; omega)
  case rest =>
    obtain ⟨s, rfl, hG⟩ := ng_start L Z hcut
    clear hcut hmk1 hmk2 hmk3
    go_wp2
    go_loopw [25] (fun i wr => ∃ c : Nat, c ≤ len ∧ i = .int .i64 c ∧ NG w wr a len cap N c L Z s) (fun i _ => len - (intOf i).toNat)
    case atStart => exact ⟨0, Nat.zero_le _, rfl, hG⟩
    case round =>
      obtain ⟨c, hc, rfl, hI⟩ := hrel
      clear hG
      by_cases hlt : c < len
      · obtain ⟨b, o, rfl, hcell⟩ := (unhide HT).top (by omega)
        have hce : wr.cell? ⟨b, o + c, none⟩ = some (.slice (A c) (L c) (C c)) := Below.cellOf hI.still.below (Nat.le_refl _) (hcell c hlt)
        clear hcell
        have hsize := hI.size
        have hmk4 := run_make_row' (P := Trym.prog) 30 4 (.bool false) 1 Trym.underlying30 Trym.info4 rfl .i64 .i64 N (by omega) (by omega)
        have g1 : wr.cell? ⟨w.heap.size + 4, 1, none⟩ = some (.slice (some ⟨s.m, 0, none⟩) len len) := hI.still.g.cell (i := 1) (by omega)
        have g1' : ∀ o, (wr.alloc o).cell? ⟨w.heap.size + 4, 1, none⟩ = some (.slice (some ⟨s.m, 0, none⟩) len len) := fun o => (hI.still.g.alloc o).cell (i := 1) (by omega)
        have g2 : ∀ o, (wr.alloc o).cell? ⟨s.m, c, none⟩ = some (mayTop w.heap.size N c c) := fun o => (hI.may.alloc o).cell hlt
        have g3 : ∀ o, (wr.alloc o).frozen? ⟨s.m, c, none⟩ = false := fun o => (hI.may.alloc o).frozen c
        have hLc := unhide HL c hlt
        rcases Nat.eq_zero_or_pos (L c) with hz | hz
        · rw [hz] at hce
          have HN : Hid (NG w ((wr.alloc (.cells (madeCells #[.bool false] N) 4)).setCell ⟨s.m, c, none⟩ (.slice (some ⟨w.heap.size + 5 + c, 0, none⟩) N N)) (some ⟨b, o, none⟩) len cap N (c + 1) L Z s) := by
            refine ni_done ?_
            rw [hz]
            exact ni_start hI
          clear hz hLc hI
          go_wp2
          go_region
          all_goals go_wp2
          go_rounds 1
          go_roundw
          case rel => exact ⟨c + 1, by omega, by go_num, (unhide HN).drew⟩
          case measure => simp [intOf]; omega
        · obtain ⟨b', o', hA, hcc⟩ := (unhide HT).row c hlt hz
          rw [hA] at hce
          have HCC := hide hcc
          have HI := hide hI
          have HI0 := hide (ni_start hI)
          clear hA hcc hI
          go_wp2
          go_region
          all_goals go_wp2
          clear g1 g1' g2 g3 hmk4 hsize hce
          go_loopw [40] (fun i wi => ∃ j : Nat, j ≤ L c ∧ i = .int .i64 j ∧ NI w wi (some ⟨b, o, none⟩) len cap N c j L Z s) (fun i _ => L c - (intOf i).toNat)
          case atStart => exact ⟨0, Nat.zero_le _, rfl, (unhide HI0).drew⟩
          case round =>
            obtain ⟨j, hj, rfl, hJ⟩ := hrel
            clear HI0
            by_cases hjl : j < L c
            · have hz1 := unhide HZ c hlt j hjl
              obtain ⟨zi, hzi⟩ := Int.eq_ofNat_of_zero_le hz1.1
              have hcj : wr.cell? ⟨b', o' + j, none⟩ = some (.int .i64 (zi : Int)) := by rw [← hzi]; exact Below.cellOf hJ.still.below (Nat.le_refl _) (unhide HCC j hjl)
              have hzl : zi < N := by omega
              have k1 : wr.cell? ⟨w.heap.size + 4, 1, none⟩ = some (.slice (some ⟨s.m, 0, none⟩) len len) := hJ.still.g.cell (i := 1) (by omega)
              have k2 : wr.cell? ⟨s.m, c, none⟩ = some (.slice (some ⟨w.heap.size + 5 + c, 0, none⟩) N N) := by
                rw [hJ.may.cell hlt]; simp [mayTop]
              obtain ⟨v0, k3⟩ : ∃ v0, wr.cell? ⟨w.heap.size + 5 + c, zi, none⟩ = some v0 := ⟨_, hJ.cur.cell hzl⟩
              have k4 : wr.frozen? ⟨w.heap.size + 5 + c, zi, none⟩ = false := hJ.cur.frozen zi
              have HJ := hide (ni_step hJ hzi)
              clear hJ hzi hz1
              go_wp2
              go_roundw
              case rel => exact ⟨j + 1, by omega, by go_num, unhide HJ⟩
              case measure => simp [intOf]; omega
            · have hj' : j = L c := by omega
              subst hj'
              go_wp2
              go_roundw
              case rel => exact ⟨c + 1, by omega, by go_num, ni_done hJ⟩
              case measure => simp [intOf]; omega
      · have hc' : c = len := by omega
        subst hc'
        have hM := nm_start hI
        clear hI
        go_wp2
        go_loopw [56] (fun i wr => ∃ k : Nat, k ≤ N ∧ i = .int .i64 k ∧ NM w wr a c cap N k L Z s) (fun i _ => N - (intOf i).toNat)
        case atStart => exact ⟨0, Nat.zero_le _, rfl, hM⟩
        case round =>
          obtain ⟨k, hk, rfl, hJ⟩ := hrel
          clear hM
          by_cases hkN : k < N
          · have hmm := @run_makeMap Trym.prog
            have g2 : wr.cell? ⟨w.heap.size + 4, 2, none⟩ = some (.slice (some ⟨s.k, 0, none⟩) N N) := hJ.still.g.cell (i := 2) (by omega)
            have g3 : wr.cell? ⟨w.heap.size + 4, 3, none⟩ = some (.slice (some ⟨s.a, 0, none⟩) N N) := hJ.still.g.cell (i := 3) (by omega)
            obtain ⟨fk, hfk, _⟩ := hJ.kept
            obtain ⟨fa, hfa, _⟩ := hJ.added
            have k1 : wr.cell? ⟨s.k, k, none⟩ = some (fk k) := hfk.cell hkN
            have k2 : wr.frozen? ⟨s.k, k, none⟩ = false := hfk.frozen k
            have a1 : wr.cell? ⟨s.a, k, none⟩ = some (fa k) := hfa.cell hkN
            have a2 : wr.frozen? ⟨s.a, k, none⟩ = false := hfa.frozen k
            have kl := hfk.lt
            have al := hfa.lt
            have gl := hJ.still.g.lt
            have hne := hJ.still.ne
            have hne' : s.a ≠ s.k := fun e => hne e.symm
            have HJ := hide hJ
            clear hJ hfk hfa
            go_wp2
            go_region
            all_goals go_wp2
            all_goals go_roundw
            all_goals first
              | (simp [intOf]; omega)
              | exact ⟨k + 1, by omega, by go_num, (nm_step' (unhide HJ) (.inl ⟨rfl, rfl⟩)).drew⟩
              | exact ⟨k + 1, by omega, by go_num, (nm_step' (unhide HJ) (.inr ⟨rfl, rfl⟩)).drew⟩
          · have hk' : k = N := by omega
            subst hk'
            go_wp2
            go_ret
            exact ⟨⟨s, rfl, hJ⟩⟩
end Go.Proofs.Qxb6000048aMods
