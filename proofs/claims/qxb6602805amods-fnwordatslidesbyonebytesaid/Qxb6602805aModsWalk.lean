/- wordAt, ZZwordAt, and the law's bound. -/
import Derived.Test.Qxb6602805aModsRows
import Derived.Test.Qxb6602805aModsWord
import Derived.ProofKit
import Derived.OpenShut
import Derived.Handy
import Derived.WalkSpells
import Derived.Deep.QuietTactic
import Derived.BigQuiet
namespace Go.Proofs.Qxb6602805aMods
open Go.RowKit Go.PlainAid

theorem hide {p : Prop} (h : p) : Hid p := h
theorem unhide {p : Prop} (h : Hid p) : p := h
theorem ret_int {k : IntKind} {a b : Int} (h : a = b) : Ending.returned (.int k a) = .returned (.int k b) := by rw [h]

/-- Nothing but draws lies between. -/
structure Qt (W wr : World) : Prop where
  out : ∃ q, wr = W.drewN q
theorem Qt.refl (W : World) : Qt W W := ⟨0, rfl⟩

structure P32 (s : ByteArray) (i : Nat) (w : World) (e : Ending) (w' : World) : Prop where
  out : e = .returned (.int .u64 (wordTo s i 8)) ∧ Qt w w'

theorem bt_extract (s : ByteArray) (i j : Nat) (hi : i + 8 ≤ s.size) (hj : j < 8) : bt (s.extract i (i + 8)) j = bt s (i + j) := by
  have h1 : j < (s.extract i (i + 8)).size := by simp; omega
  have h2 : i + j < s.size := by omega
  unfold bt
  rw [dif_pos h1, dif_pos h2]
  congr 2
  exact ByteArray.getElem_extract _

set_option maxHeartbeats 2000000 in
theorem f32_fast (s : ByteArray) (i : Nat) (w : World) (hs : s.size ≤ 1048576) (hi : i + 8 ≤ s.size) :
    Calls Trym.prog 32 #[.string s, .int .i64 (i : Int)] w (P32 s i w) := by
  have hb := get_bt s
  obtain ⟨t, ht⟩ : ∃ t, t = s.extract i (i + 8) := ⟨_, rfl⟩
  have hz : t.size = 8 := by rw [ht]; simp; omega
  have HV : Hid (∀ j, j < 8 → bt t j = bt s (i + j)) := fun j hj => by rw [ht]; exact bt_extract s i j hi hj
  have hb2 := get_bt t
  have q0 : (0 : Int) < (t.size : Int) := by omega
  have q1 : (1 : Int) < (t.size : Int) := by omega
  have q2 : (2 : Int) < (t.size : Int) := by omega
  have q3 : (3 : Int) < (t.size : Int) := by omega
  have q4 : (4 : Int) < (t.size : Int) := by omega
  have q5 : (5 : Int) < (t.size : Int) := by omega
  have q6 : (6 : Int) < (t.size : Int) := by omega
  have q7 : (7 : Int) < (t.size : Int) := by omega
  have HT := hide ht
  clear hz ht
  go_enter Trym.func32, Trym.ntmps32
  go_wp2
  rw [← unhide HT]
  go_quiet (fail)
  go_wp2
  go_ret
  refine ⟨⟨ret_int ?_, ⟨nq, rfl⟩⟩⟩
  refine (fast_eq _ _ _ _ _ _ _ _ (bt_bd t 0) (bt_bd t 1) (bt_bd t 2) (bt_bd t 3) (bt_bd t 4) (bt_bd t 5) (bt_bd t 6) (bt_bd t 7)).trans ?_
  rw [word_sum, unhide HV 0 (by omega), unhide HV 1 (by omega), unhide HV 2 (by omega), unhide HV 3 (by omega), unhide HV 4 (by omega), unhide HV 5 (by omega), unhide HV 6 (by omega), unhide HV 7 (by omega), Nat.add_zero]

set_option maxHeartbeats 2000000 in
theorem f32_slow (s : ByteArray) (i : Nat) (w : World) (hs : s.size ≤ 1048576) (hi : ¬ i + 8 ≤ s.size) (hi2 : i + 8 ≤ 9223372036854775807) :
    Calls Trym.prog 32 #[.string s, .int .i64 (i : Int)] w (P32 s i w) := by
  have hb := get_bt s
  go_enter Trym.func32, Trym.ntmps32
  go_wp2
  go_loop [5, 55] (fun x k => ∃ j : Nat, j ≤ 8 ∧ k = .int .i64 j ∧ x = .int .u64 (wordTo s i j)) (fun _ k => 8 - (intOf k).toNat)
  case atStart => exact ⟨0, by omega, rfl, rfl⟩
  case round =>
    obtain ⟨j, hj, rfl, rfl⟩ := hrel
    by_cases hlt : j < 8
    · have hx0 := (wordTo_bd s i j).1
      have hx1 := wordTo_lt7 s i j (by omega)
      have HW : Hid (wordTo s i (j + 1) = wordTo s i j * 256 + bt s (i + j)) := rfl
      generalize wordTo s i j = x at *
      have hbd := bt_bd s (i + j)
      by_cases hin : i + j < s.size
      · go_wp2
        go_round
        case rel => exact ⟨j + 1, by omega, by go_num, by rw [unhide HW, or8 _ _ (by omega) (by omega) (by omega) (by omega) (by omega)]⟩
        case measure => simp [intOf]; omega
      · have HE := hide (bt_end s (k := i + j) (by omega))
        go_wp2
        go_round
        case rel => exact ⟨j + 1, by omega, by go_num, by rw [unhide HW, unhide HE, Int.add_zero]⟩
        case measure => simp [intOf]; omega
    · have HJ : Hid (j = 8) := by show _ = _; omega
      go_wp2
      go_ret
      exact ⟨⟨ret_int (by rw [unhide HJ]), Qt.refl _⟩⟩
end Go.Proofs.Qxb6602805aMods
