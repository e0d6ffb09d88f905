/- b1DecodeQuoted at a quoted field. -/
import Derived.Test.Qxb6000068aModsClone
namespace Go.Proofs.Qxb6000068aMods
open Go.RowKit Go.PlainAid

structure P15 (w : World) (m : List Int) (e : Ending) (w' : World) : Prop where
  out : ∃ v', e = .returned (.tuple #[v', .bool true]) ∧ Owns w w' none v' m

/-- 'make([]byte, 0, n)'. -/
theorem make0 (n : Nat) (hn : n ≤ 281474976710656) (w : World) :
    (Instr.makeSlice 22 (.int .i64 0) (.int .i64 (n : Int))).run Trym.prog w = .ok (.slice (some ⟨w.heap.size, 0, none⟩) 0 n) (w.alloc (.cells (madeCells #[.int .u8 0] n) 5)) := by
  obtain ⟨i0, hi, hz0, hz1, hz2⟩ := info_parts Trym.info5
  have hr := run_make (P := Trym.prog) w 22 5 i0 (.int .u8 0) Trym.underlying22 hi hz0 .i64 .i64 0 n (by omega) (by omega) (by rw [hz2]; omega) (by omega)
  simp only [Int.toNat_natCast, hz1, Nat.mul_one] at hr
  exact hr
theorem owns_make0 (w : World) (n : Nat) (hn : n ≤ maxLen) : Owns w (w.alloc (.cells (madeCells #[.int .u8 0] n) 5)) none (.slice (some ⟨w.heap.size, 0, none⟩) 0 n) [] :=
  ⟨World.ownsRow_made w _ n (Nat.zero_le _) hn (by simp [size_madeCells]), World.grownBy_alloc w _ none, .inr (.inr ⟨_, rfl, Nat.le_refl _⟩)⟩

set_option maxHeartbeats 1000000 in
theorem f15_any (a : Option Addr) (n c : Nat) (m : List Int) (w : World) (h : Rd w a n (34 :: (dbl m ++ [34]))) (hn : m.length ≤ 1048576) :
    Calls Trym.prog 15 #[.slice a n c] w (P15 w m) := by
  have hdl := dbl_len m
  have hlen : n = (dbl m).length + 2 := by rw [h.len]; simp
  obtain ⟨b, o, rfl, hc⟩ := h.at' (by omega)
  have hc0 : w.cell? ⟨b, o, none⟩ = some (.int .u8 34) := by
    have := hc 0 (by omega)
    simpa [nth] using this
  have hcl : w.cell? ⟨b, o + (n - 1), none⟩ = some (.int .u8 34) := by
    have h2 := hc (n - 1) (by omega)
    rw [show n - 1 = 1 + (dbl m).length from by omega, nth_cons_succ, nth_dbl_end] at h2
    rw [show n - 1 = 1 + (dbl m).length from by omega]
    exact h2
  have hmk := make0 n (by omega)
  have HO := hide (owns_make0 w n (by unfold maxLen; omega))
  have HC := hide hc
  have HN := hide hlen
  have hn2 : 2 ≤ n := by omega
  have hnb : n ≤ 4194304 := by omega
  clear hc h hlen
  go_enter Trym.func15, Trym.ntmps15
  go_wp2
  go_loopw [5, 6] (fun v i wr => ∃ k j : Nat, k ≤ m.length ∧ j = 1 + dlen m k ∧ i = .int .i64 j ∧ Owns w wr none v (m.take k)) (fun _ i _ => n - (intOf i).toNat)
  case atStart => exact ⟨0, 1, Nat.zero_le _, rfl, rfl, unhide HO⟩
  case round =>
    obtain ⟨k, j, hk, hj, rfl, hO⟩ := hrel
    have HJ := hide hj
    have HOk := hide hO
    have hle := dlen_le m k
    have htl : (m.take k).length ≤ 1099511627776 := by have := List.length_take_le k m; omega
    clear hj hO hmk HO hc0 hcl
    by_cases hlt : k < m.length
    · have g1 : wr.cell? ⟨b, o + j, none⟩ = some (.int .u8 (nth m k)) := by
        have h2 := unhide HC j (by have := unhide HJ; have := unhide HN; omega)
        rw [unhide HJ, nth_cons_succ, nth_dbl m _ hlt] at h2
        rw [unhide HJ]
        exact grown_cell (unhide HOk).kept h2
      have hle1 := dlen_le m (k + 1)
      have HT := hide (take_succ_nth m hlt)
      by_cases hq : nth m k = 34
      · have HQ : Hid (dlen m (k + 1) = dlen m k + 2) := dlen_q m hlt hq
        have hj2 : j + 2 < n := by have := unhide HJ; have := unhide HN; have := unhide HQ; omega
        have g2 : wr.cell? ⟨b, o + (j + 1), none⟩ = some (.int .u8 34) := by
          have h2 := unhide HC (j + 1) (by omega)
          rw [unhide HJ, Nat.add_assoc, nth_cons_succ, nth_dbl_q m _ hlt hq] at h2
          rw [unhide HJ, Nat.add_assoc 1]
          exact grown_cell (unhide HOk).kept h2
        rw [hq] at g1 HT
        clear hq hle hle1
        go_wp2_with (at_builtin; refine app1 rfl (.tmp 51) (.tmp 52) rfl w wr none _ _ 34 (unhide HOk) rfl rfl htl ?_; intro v2 w2 hO2)
        go_roundw
        case rel => exact ⟨k + 1, j + 2, by omega, by have := unhide HJ; have := unhide HQ; omega, by go_num, by rw [unhide HT]; exact unhide hO2⟩
        case measure => simp [intOf]; omega
      · have HQ : Hid (dlen m (k + 1) = dlen m k + 1) := dlen_n m hlt hq
        have hj2 : j + 1 < n := by have := unhide HJ; have := unhide HN; have := unhide HQ; omega
        have hqb : (nth m k == 34) = false := by simpa using hq
        clear hq hle hle1
        go_wp2_with (at_builtin; refine app1 rfl (.tmp 56) (.tmp 61) rfl w wr none _ _ (nth m k) (unhide HOk) rfl rfl htl ?_; intro v2 w2 hO2)
        go_roundw
        case rel => exact ⟨k + 1, j + 1, by omega, by have := unhide HJ; have := unhide HQ; omega, by go_num, by rw [unhide HT]; exact unhide hO2⟩
        case measure => simp [intOf]; omega
    · have hk' : k = m.length := by omega
      have hjn : n ≤ j + 1 := by
        have h1 := unhide HJ; have h2 := unhide HN
        rw [hk', dlen_all] at h1; omega
      have HF : Hid (m.take k = m) := List.take_of_length_le (by omega)
      clear hk' hle
      go_wp2
      go_ret2
      refine ⟨⟨_, rfl, ?_⟩⟩
      have := unhide HOk
      rwa [unhide HF] at this
end Go.Proofs.Qxb6000068aMods
