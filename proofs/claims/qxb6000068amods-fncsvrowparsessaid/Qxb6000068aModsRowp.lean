/- PLAIN: a row of fields. -/
import Derived.Test.Qxb6000068aModsPos
namespace Go.Proofs.Qxb6000068aMods

/-- What stands ahead of field k. -/
def sep (k : Nat) : List Int := if 0 < k then [44] else []
/-- The first k fields, as a row. -/
def rowTo (S : Nat → ByteArray) : Nat → List Int
  | 0 => []
  | k + 1 => rowTo S k ++ sep k ++ csv (sl (S k))
/-- The sum of the first k lengths. -/
def sumS (S : Nat → ByteArray) : Nat → Nat
  | 0 => 0
  | k + 1 => sumS S k + (S k).size

theorem sep_len (k : Nat) : (sep k).length ≤ 1 := by unfold sep; split <;> simp
theorem rowTo_len (S : Nat → ByteArray) : ∀ k, (rowTo S k).length ≤ 2 * sumS S k + 3 * k
  | 0 => by simp [rowTo]
  | k + 1 => by
    have h1 := rowTo_len S k
    have h2 := sep_len k
    have h3 := csv_len (sl (S k))
    rw [sl_length] at h3
    simp only [rowTo, sumS, List.length_append]
    omega
theorem sumS_mono (S : Nat → ByteArray) {k n : Nat} (h : k ≤ n) : sumS S k ≤ sumS S n := by
  induction n with
  | zero => rw [show k = 0 from by omega]; exact Nat.le_refl _
  | succ n ih =>
    rcases Nat.lt_or_ge k (n + 1) with h1 | h1
    · exact Nat.le_trans (ih (by omega)) (Nat.le_add_right _ _)
    · rw [show k = n + 1 from by omega]; exact Nat.le_refl _
theorem size_le_sum (S : Nat → ByteArray) {k n : Nat} (h : k < n) : (S k).size ≤ sumS S n :=
  Nat.le_trans (Nat.le_add_left _ _) (sumS_mono S (show k + 1 ≤ n from h))

/-- Field k within the row: what is behind it is nothing, or a comma. -/
theorem row_split (S : Nat → ByteArray) {k : Nat} : ∀ n, k < n → ∃ t, rowTo S n = rowTo S k ++ sep k ++ csv (sl (S k)) ++ t ∧ (t = [] ∧ n = k + 1 ∨ ∃ t', t = 44 :: t')
  | 0, h => absurd h (by omega)
  | n + 1, h => by
    by_cases e : k = n
    · subst e
      exact ⟨[], by simp [rowTo], .inl ⟨rfl, rfl⟩⟩
    · obtain ⟨t, ht, hc⟩ := row_split S (k := k) n (by omega)
      have hs : sep n = [44] := by unfold sep; rw [if_pos (by omega)]
      refine ⟨t ++ sep n ++ csv (sl (S n)), by rw [rowTo, ht]; simp only [List.append_assoc], .inr ?_⟩
      rcases hc with ⟨rfl, _⟩ | ⟨t', rfl⟩
      · exact ⟨csv (sl (S n)), by rw [hs]; rfl⟩
      · exact ⟨t' ++ sep n ++ csv (sl (S n)), by simp⟩

/-- ALL THAT THE PARSER SEES OF FIELD k: where it begins (q), what stands there. -/
structure At (S : Nat → ByteArray) (n k q : Nat) : Prop where
  start : q = (rowTo S k).length + (sep k).length
  next : (rowTo S (k + 1)).length = q + (csv (sl (S k))).length
  le : q + (csv (sl (S k))).length ≤ (rowTo S n).length
  comma : 0 < k → (rowTo S k).length < (rowTo S n).length ∧ nth (rowTo S n) (rowTo S k).length = 44
  inside : ∀ i, i < (csv (sl (S k))).length → nth (rowTo S n) (q + i) = nth (csv (sl (S k))) i
  behind : q + (csv (sl (S k))).length < (rowTo S n).length → nth (rowTo S n) (q + (csv (sl (S k))).length) = 44

theorem at_field (S : Nat → ByteArray) {n k : Nat} (h : k < n) : At S n k ((rowTo S k).length + (sep k).length) := by
  obtain ⟨t, ht, hc⟩ := row_split S n h
  have e1 : rowTo S n = (rowTo S k ++ sep k) ++ (csv (sl (S k)) ++ t) := by rw [ht]; simp only [List.append_assoc]
  have el : (rowTo S k ++ sep k).length = (rowTo S k).length + (sep k).length := List.length_append
  refine ⟨rfl, by simp only [rowTo, List.length_append], ?_, fun hk => ?_, fun i hi => ?_, fun hlt => ?_⟩
  · rw [ht]; simp only [List.length_append]; omega
  · have hs : sep k = [44] := by unfold sep; rw [if_pos hk]
    have e2 : rowTo S n = rowTo S k ++ (44 :: (csv (sl (S k)) ++ t)) := by rw [ht, hs]; simp
    refine ⟨by rw [e2]; simp, ?_⟩
    rw [e2]
    have := nth_append_right (rowTo S k) (44 :: (csv (sl (S k)) ++ t)) 0
    rw [show (rowTo S k).length + 0 = (rowTo S k).length from rfl] at this
    rw [this]; rfl
  · rw [e1, ← el, nth_append_right, nth_append_left _ _ hi]
  · rcases hc with ⟨rfl, _⟩ | ⟨t', rfl⟩
    · rw [ht] at hlt; simp at hlt; omega
    · rw [e1, ← el, nth_append_right]
      have := nth_append_right (csv (sl (S k))) (44 :: t') 0
      rw [show (csv (sl (S k))).length + 0 = (csv (sl (S k))).length from rfl] at this
      rw [this]; rfl
end Go.Proofs.Qxb6000068aMods
