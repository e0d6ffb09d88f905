/- 'Rows.FnCsvFieldInjectiveSaid'. The frame is the guide's own (howto/shells), the world's limb by 'Below'. -/
import Derived.Test.Qxb6000068aModsEqual
import Derived.ShutString
import Derived.ChangeOld
namespace Go.Proofs.Qxb6000068aMods.fnCsvFieldInjective
open Go.ChangeShapes Go.WideShapes Go.ChangeAt Go.RowKit
open Go.ChangeMaps (open_string shut_string)
set_option linter.unusedVariables false

theorem own : ownKnob Trym.prog.godebug = none := by kernel_rfl

structure P4 (w : World) (e : Ending) (w' : World) : Prop where
  out : e = .returned (.bool true) ∧ Below w.heap.size w w'

/-- What was owned in w is read in a later world in which only new blocks have come. -/
theorem own_later {w w' : World} {v : Value} {n : Nat} {xs : List Value} (h : w.ownsRow 0 5 1 v n xs) (hg : w.grownBy w' none) : w'.ownsRow 0 5 1 v n xs :=
  h.kept hg (by cases hv : v.ownBlock <;> simp)
theorem below_of_grown {w w' : World} (h : w.grownBy w' none) : Below w.heap.size w w' := ⟨h.os, h.tape, h.output, h.size, fun k hk => h.block k hk (by simp)⟩

set_option maxHeartbeats 1000000 in
theorem f4_any (a b : ByteArray) (ha : a.size ≤ 9223372036854775807) (hb : b.size ≤ 9223372036854775807) (w : World) : Calls Trym.prog 4 #[.string a, .string b] w (P4 w) := by
  by_cases hsz : a.size + b.size ≤ 1048576
  · go_enter Trym.func4, Trym.ntmps4
    go_wp2_with fail
    refine (f16_yes _ _ _ hsz).mono ?_
    rintro e w' ⟨rfl, hw⟩
    obtain rfl := hw.symm
    go_wp2_with fail
    refine (f11_any (.slice none 0 0) [] a w (World.ownsRow_nil _ _ _ _) (by simp) (by omega)).mono ?_
    rintro e w1 ⟨v1, rfl, hO1⟩
    have HO1 := hide hO1
    clear hO1
    go_wp2_with fail
    refine (f11_any (.slice none 0 0) [] b w1 (World.ownsRow_nil _ _ _ _) (by simp) (by omega)).mono ?_
    rintro e w2 ⟨v2, rfl, hO2⟩
    obtain ⟨a2, c2, hv2, _, _, hR2⟩ := rd_of_own hO2.own
    obtain ⟨a1, c1, hv1, _, _, hR1⟩ := rd_of_own (own_later (unhide HO1).own hO2.kept)
    have hB : Below w.heap.size w w2 := (below_of_grown (unhide HO1).kept).trans ((below_of_grown hO2.kept).mono (unhide HO1).kept.size)
    have hl1 := csv_len (sl a)
    have hl2 := csv_len (sl b)
    rw [sl_length] at hl1 hl2
    have H17 := hide (fun x y => f17_any a1 a2 _ _ x y _ _ w2 hR1 hR2 (by simp; omega))
    have HB := hide hB
    rw [hv1, hv2]
    clear hv1 hv2 hR1 hR2 hO2 hB HO1
    go_wp2_with fail
    refine (unhide H17 _ _).mono ?_
    rintro e w3 ⟨rfl, hQ⟩
    have hq := hQ.out
    have hE : eqL ([] ++ csv (sl a)) ([] ++ csv (sl b)) = decide (a = b) := by
      by_cases e : a = b
      · subst e; simp [eqL]
      · rw [decide_eq_false e]
        exact decide_eq_false (fun h => e (sl_inj (csv_inj (by simpa using h))))
    rw [hE]
    clear hE H17 hq
    have HQ := hide hQ
    clear hQ
    have hB3 : Below w.heap.size w w3 := by
      obtain ⟨q, rfl⟩ := (unhide HQ).out
      exact ⟨(unhide HB).os, (unhide HB).tape, (unhide HB).output, (unhide HB).size, (unhide HB).block⟩
    have HB3 := hide hB3
    clear hB3
    by_cases e : a = b
    · subst e
      go_wp2
      go_ret
      exact ⟨⟨rfl, unhide HB3⟩⟩
    · have hf : decide (a = b) = false := decide_eq_false e
      have hne : (a.toList == b.toList) = false := by
        refine beq_eq_false_iff_ne.2 (fun h => e (sl_inj ?_))
        rw [Go.ByteArray.toList_eq, Go.ByteArray.toList_eq] at h
        rw [sl, sl, h]
      rw [hf]
      clear hf e
      go_wp2
      go_ret
      exact ⟨⟨rfl, unhide HB3⟩⟩
  · go_enter Trym.func4, Trym.ntmps4
    go_wp2_with fail
    refine (f16_no _ _ _ ha hb hsz).mono ?_
    rintro e w' ⟨rfl, hw⟩
    obtain rfl := hw.symm
    go_wp2
    go_ret
    exact ⟨⟨rfl, Below.refl _ _⟩⟩

theorem walk (a0 : ByteArray) (a1 : ByteArray) (w0 : a0.size ≤ maxLen) (w1 : a1.size ≤ maxLen) (w : World) :
    Calls Trym.prog 4 #[.string a0, .string a1] w fun e w' => e = .returned (.bool true) ∧ Below w.heap.size w w' :=
  (f4_any a0 a1 (by unfold maxLen at w0; omega) (by unfold maxLen at w1; omega) w).mono fun _ _ h => h.out

/-! ### THE ROW's STEP: WRITTEN OUT: LEAVE IT -/
set_option maxRecDepth 100000 in
theorem lifted (os : Os) (started : os.Started) (H : Type) (enc : TypeId × Value → H) :
    ReturnsInHanded {} Trym.checked os 4 .any (Rows.fnCsvFieldInjectiveSpec.pre6 enc Trym.prog Trym.f4 Rows.fnCsvFieldInjectiveRow.domain false) (Rows.fnCsvFieldInjectiveSpec.post enc Trym.prog Trym.f4 false true false false) := by
  refine returnsInHanded_of_change (C := Trym.checked) own started (by kernel_rfl) Trym.func4
    (ChangeSpec.witness6 (enc := enc) (C := Trym.checked) false ⟨#[], #[.string ByteArray.empty, .string ByteArray.empty], []⟩ 8 (by kernel_rfl) (by kernel_rfl) (by kernel_rfl) (by kernel_rfl)) ?_
  intro W base args ds gs before hval0 hW hcnd _
  have hval : ∀ (j : Nat) t v, Trym.f4.params[j]? = some t → args[j]? = some v → Value.okWide Trym.prog W .any base t v := hval0
  have hW' := hW
  obtain ⟨p, q, hA0, hV, rfl, hfz, hnd⟩ := hW
  have hA : DataW.TrodAll enc Trym.prog W 0 (fun _ => true) true Trym.f4.params.toList args.toList ds p := hA0
  rw [Trym.params4] at hA hval
  obtain ⟨v0, vs0, d0, ds0, p0, q0, hargs, rfl, rfl, h0, r0⟩ := trodAll_cons hA
  obtain ⟨v1, vs1, d1, ds1, p1, q1, rfl, rfl, rfl, h1, r1⟩ := trodAll_cons r0
  obtain ⟨rfl, rfl, rfl⟩ := trodAll_nil r1
  obtain rfl : args = #[v0, v1] := by cases args; simp_all
  obtain ⟨rfl, rfl⟩ := trodVars_none hV
  obtain ⟨a0, rfl, rfl, rfl, w0⟩ := open_string Trym.underlying9 (hval 0 9 v0 rfl rfl) h0
  obtain ⟨a1, rfl, rfl, rfl, w1⟩ := open_string Trym.underlying9 (hval 1 9 v1 rfl rfl) h1
  clear hA0 hval0
  refine (walk a0 a1 w0 w1 W).mono fun e W' ⟨he, bel⟩ => ?_
  subst he
  exact ⟨_, rfl, _, _, _, [], _, [], hW', trodAll_mk1 (shut_bool Trym.underlying4 _), (trodAll_cons_mk (shut_string Trym.underlying9 w0) (trodAll_cons_mk (shut_string Trym.underlying9 w1) trodAll_mk0)), rfl, bel.frame _, fun h => by cases h⟩

theorem over : Rows.fnCsvFieldInjectiveRow.holds Trym.pinned (OpenSpec.ofChange Rows.fnCsvFieldInjectiveSpec) :=
  OpenClaim.holds_of_wide 4 Trym.f4 rfl rfl rfl rfl rfl rfl rfl ⟨rfl, rfl, rfl, rfl, rfl⟩ rfl rfl rfl rfl rfl (by kernel_rfl) Trym.func4 (by kernel_rfl)
    (of_decide_eq_true (by kernel_rfl)) (by unfold Func.isWrapper; first | (rw [if_pos (by decide +kernel)]; kernel_rfl) | (rw [if_neg (by decide +kernel)]; exact ⟨rfl, rfl⟩))
    (fun os started H enc _ => lifted os started H enc)

/-- THE STATEMENT -/
theorem proved : Rows.FnCsvFieldInjectiveSaid :=
  over
end Go.Proofs.Qxb6000068aMods.fnCsvFieldInjective
