/- The plain law: two texts give one field only if they are one. -/
import Derived.Test.Qxb6000068aModsCsv
namespace Go.Proofs.Qxb6000068aMods

theorem dbl_inj : ∀ a b : List Int, dbl a = dbl b → a = b
  | [], [], _ => rfl
  | [], c :: r, h => by simp only [dbl] at h; split at h <;> cases h
  | c :: r, [], h => by simp only [dbl] at h; split at h <;> cases h
  | c :: r, d :: q, h => by
    simp only [dbl] at h
    by_cases hc : c = 34
    · by_cases hd : d = 34
      · rw [if_pos hc, if_pos hd] at h
        simp only [List.cons.injEq, true_and] at h
        rw [hc, hd, dbl_inj r q h]
      · rw [if_pos hc, if_neg hd] at h
        simp only [List.cons.injEq] at h
        exact absurd h.1.symm hd
    · by_cases hd : d = 34
      · rw [if_neg hc, if_pos hd] at h
        simp only [List.cons.injEq] at h
        exact absurd h.1 hc
      · rw [if_neg hc, if_neg hd] at h
        simp only [List.cons.injEq] at h
        rw [h.1, dbl_inj r q h.2]

theorem needs_head {l r : List Int} (h : l = 34 :: r) : needs l = true := by
  subst h; simp [needs, spec]

theorem csv_inj {a b : List Int} (h : csv a = csv b) : a = b := by
  unfold csv at h
  by_cases ha : needs a = true
  · by_cases hb : needs b = true
    · rw [if_pos ha, if_pos hb] at h
      simp only [List.cons.injEq, true_and] at h
      exact dbl_inj a b (List.append_cancel_right h)
    · rw [if_pos ha, if_neg hb] at h
      exact absurd (needs_head h.symm) hb
  · by_cases hb : needs b = true
    · rw [if_neg ha, if_pos hb] at h
      exact absurd (needs_head h) ha
    · rw [if_neg ha, if_neg hb] at h
      exact h

theorem list_eq_of_nth {a b : List Int} (hl : a.length = b.length) (h : ∀ i, i < a.length → nth a i = nth b i) : a = b := by
  apply List.ext_getElem? 
  intro i
  by_cases hi : i < a.length
  · have := h i hi
    simp only [nth, List.getD_eq_getElem?_getD] at this
    rw [List.getElem?_eq_getElem hi, List.getElem?_eq_getElem (hl ▸ hi)] at this ⊢
    simpa using this
  · rw [List.getElem?_eq_none (by omega), List.getElem?_eq_none (by omega)]
end Go.Proofs.Qxb6000068aMods
