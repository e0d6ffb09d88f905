/- PLAIN: where the k-th character of a quoted field stands. -/
import Derived.Test.Qxb6000068aModsCsv
namespace Go.Proofs.Qxb6000068aMods

/-- The length that a doubled text's first k characters take. -/
def dlen (m : List Int) (k : Nat) : Nat := (dbl (m.take k)).length
theorem dlen_zero (m : List Int) : dlen m 0 = 0 := rfl
theorem dlen_all (m : List Int) : dlen m m.length = (dbl m).length := by simp [dlen]
theorem take_succ_nth (m : List Int) {k : Nat} (h : k < m.length) : m.take (k + 1) = m.take k ++ [nth m k] := by
  rw [List.take_add_one, List.getElem?_eq_getElem h]
  simp [nth, h]
theorem drop_nth (m : List Int) {k : Nat} (h : k < m.length) : m.drop k = nth m k :: m.drop (k + 1) := by
  rw [List.drop_eq_getElem_cons h]
  simp [nth, h]
theorem dbl_split (m : List Int) (k : Nat) : dbl m = dbl (m.take k) ++ dbl (m.drop k) := by
  rw [← dbl_append, List.take_append_drop]
theorem dlen_q (m : List Int) {k : Nat} (h : k < m.length) (hq : nth m k = 34) : dlen m (k + 1) = dlen m k + 2 := by
  simp [dlen, take_succ_nth m h, dbl_append, dbl, hq]
theorem dlen_n (m : List Int) {k : Nat} (h : k < m.length) (hq : ¬ nth m k = 34) : dlen m (k + 1) = dlen m k + 1 := by
  simp [dlen, take_succ_nth m h, dbl_append, dbl, hq]
theorem dlen_le (m : List Int) (k : Nat) : dlen m k ≤ (dbl m).length := by
  rw [dbl_split m k, List.length_append]; exact Nat.le_add_right _ _

theorem nth_append_right (a b : List Int) (i : Nat) : nth (a ++ b) (a.length + i) = nth b i := by
  simp [nth, List.getElem?_append_right]
theorem nth_append_left (a b : List Int) {i : Nat} (h : i < a.length) : nth (a ++ b) i = nth a i := by
  simp [nth, List.getElem?_append_left h]
theorem nth_cons_succ (c : Int) (a : List Int) (i : Nat) : nth (c :: a) (1 + i) = nth a i := by
  rw [Nat.add_comm]; simp [nth]

/-- What stands where the k-th character begins, whatever follows the doubled text. -/
theorem nth_dbl (m t : List Int) {k : Nat} (h : k < m.length) : nth (dbl m ++ t) (dlen m k) = nth m k := by
  have e : dbl m ++ t = dbl (m.take k) ++ (dbl (nth m k :: m.drop (k + 1)) ++ t) := by rw [dbl_split m k, drop_nth m h, List.append_assoc]
  have h2 : nth (dbl (m.take k) ++ (dbl (nth m k :: m.drop (k + 1)) ++ t)) (dbl (m.take k)).length = nth (dbl (nth m k :: m.drop (k + 1)) ++ t) 0 := nth_append_right (dbl (m.take k)) (dbl (nth m k :: m.drop (k + 1)) ++ t) 0
  rw [e, dlen, h2]
  generalize nth m k = c
  simp only [dbl]
  split
  · rename_i hq; simp [nth, hq]
  · simp [nth]
theorem nth_dbl_q (m t : List Int) {k : Nat} (h : k < m.length) (hq : nth m k = 34) : nth (dbl m ++ t) (dlen m k + 1) = 34 := by
  have e : dbl m ++ t = dbl (m.take k) ++ (dbl (nth m k :: m.drop (k + 1)) ++ t) := by rw [dbl_split m k, drop_nth m h, List.append_assoc]
  have := nth_append_right (dbl (m.take k)) (dbl (nth m k :: m.drop (k + 1)) ++ t) 1
  rw [e, dlen, this, hq]
  simp [dbl, nth]
theorem nth_dbl_end (m t : List Int) : nth (dbl m ++ t) (dbl m).length = nth t 0 := by
  exact nth_append_right (dbl m) t 0
end Go.Proofs.Qxb6000068aMods
