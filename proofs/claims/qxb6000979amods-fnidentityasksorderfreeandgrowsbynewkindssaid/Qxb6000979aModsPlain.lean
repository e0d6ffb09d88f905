/- PLAIN: does a value stand among the first k? does none stand twice? -/
import Derived.PlainAid
namespace Go.Proofs.Qxb6000979aMods

/-- Is v among the first k values of g? -/
def hasN (g : Nat → Nat) : Nat → Nat → Bool
  | 0, _ => false
  | k + 1, v => hasN g k v || g k == v
theorem hasN_iff (g : Nat → Nat) (v : Nat) : ∀ k, hasN g k v = true ↔ ∃ i, i < k ∧ g i = v
  | 0 => by simp [hasN]
  | k + 1 => by
    simp only [hasN, Bool.or_eq_true, beq_iff_eq, hasN_iff g v k]
    constructor
    · rintro (⟨c, hc, e⟩ | e)
      · exact ⟨c, by omega, e⟩
      · exact ⟨k, by omega, e⟩
    · rintro ⟨c, hc, e⟩
      rcases Nat.lt_succ_iff_lt_or_eq.1 hc with h | h
      · exact .inl ⟨c, h, e⟩
      · subst h; exact .inr e
/-- No value stands twice among the first k. -/
def noRep (g : Nat → Nat) : Nat → Bool
  | 0 => true
  | k + 1 => noRep g k && !hasN g k (g k)
theorem noRep_iff (g : Nat → Nat) : ∀ n, noRep g n = true ↔ ∀ i j, i < j → j < n → g j ≠ g i
  | 0 => by simp [noRep]
  | n + 1 => by
    simp only [noRep, Bool.and_eq_true, Bool.not_eq_true', noRep_iff g n]
    constructor
    · rintro ⟨h1, h2⟩ i j hij hj
      rcases Nat.lt_succ_iff_lt_or_eq.1 hj with h | h
      · exact h1 i j hij h
      · subst h
        intro e
        have := (hasN_iff g (g j) j).2 ⟨i, hij, e.symm⟩
        rw [h2] at this; cases this
    · intro h
      refine ⟨fun i j hij hj => h i j hij (by omega), ?_⟩
      cases hh : hasN g n (g n) with
      | false => rfl
      | true =>
        obtain ⟨i, hi, e⟩ := (hasN_iff g (g n) n).1 hh
        exact absurd e.symm (h i n hi (by omega))
theorem noRep_false {g : Nat → Nat} {n i j : Nat} (hij : i < j) (hj : j < n) (e : g j = g i) : noRep g n = false := by
  cases h : noRep g n with
  | false => rfl
  | true => exact absurd e ((noRep_iff g n).1 h i j hij hj)
end Go.Proofs.Qxb6000979aMods
