/- 'Rows.FnNewGivingMatchesEligibilitySaid': the row out of the walk. After the guide's own frame for a law (howto/shells), its slice argument opened by Derived/Deep/Matrix.lean's law for a slice of slices of integers. -/
import Derived.Test.Qxb6000048aModsLaw
import Derived.ShutString
import Derived.ChangeOld
import Derived.Deep.Matrix
namespace Go.Proofs.Qxb6000048aMods.fnNewGivingMatchesEligibility
open Go.ChangeShapes Go.WideShapes Go.ChangeAt Go.RowKit
set_option linter.unusedVariables false

theorem own : ownKnob Trym.prog.godebug = none := by kernel_rfl
theorem laidOut : laidOutB Trym.prog = true := by kernel_rfl

/-- A '[][]int' that came in, as the walks want it. -/
theorem tab_of_trod {H : Type} {enc : TypeId × Value → H} {W : World} {a : Option Addr} {len cap : Nat} {d : DataW H} {p : List MemPlace} (h : DataW.Trod enc Trym.prog W 0 (fun _ => true) true 22 (.slice a len cap) d p) :
    ∃ A L C Z, Tab W a len A L C Z ∧ len ≤ 9223372036854775807 ∧ ∀ r, r < len → L r ≤ 9223372036854775807 := by
  obtain ⟨fuel, hf⟩ := h
  rcases Deep.open_int_rows Trym.underlying22 Trym.underlying27 Trym.underlying3 (by kernel_rfl) (by kernel_rfl) hf with ⟨hcs, _⟩ | ⟨x, l, c, A, L, C, Z, hcs, _, hl, hm, _, hr⟩
  · simp [Value.cells] at hcs
    obtain ⟨rfl, rfl, rfl⟩ := hcs
    exact ⟨fun _ => none, fun _ => 0, fun _ => 0, fun _ _ => 0, ⟨fun h => absurd h (by omega), fun r hr => absurd hr (by omega)⟩, by omega, fun r hr => absurd hr (by omega)⟩
  · simp [Value.cells] at hcs
    obtain ⟨rfl, rfl, rfl⟩ := hcs
    unfold maxLen at hm hr
    refine ⟨A, L, C, fun r c => (Z r).getD c 0, ⟨fun h0 => ?_, fun r hr1 h0 => ?_⟩, by omega, fun r hr1 => ?_⟩
    · obtain ⟨b, o, spot⟩ := x
      have hspot : spot = none := by simpa [Addr.add] using World.cell?_spot (hr 0 (by omega)).1
      subst hspot
      exact ⟨b, o, rfl, fun r hr1 => by have := (hr r (by omega)).1; rwa [add_plain] at this⟩
    · obtain ⟨_, h1, _, h3, _, h5, h6⟩ := hr r (by omega)
      cases hA : A r with
      | none => have := h5 hA; omega
      | some y =>
        obtain ⟨b, o, spot⟩ := y
        have h7 := (h6 _ hA).2
        have hspot : spot = none := by simpa [Addr.add] using World.cell?_spot (h7 0 (by omega))
        subst hspot
        exact ⟨b, o, rfl, fun c hc => by have := h7 c (by omega); rwa [add_plain] at this⟩
    · obtain ⟨_, h1, h2, _⟩ := hr r (by omega)
      omega

theorem walk (a0 : Int) (a1 : Option Addr) (len1 cap1 : Nat) (A : Nat → Option Addr) (L C : Nat → Nat) (Z : Nat → Nat → Int) (w : World) (h : Tab w a1 len1 A L C Z) (hl : len1 ≤ 9223372036854775807) (hL : ∀ r, r < len1 → L r ≤ 9223372036854775807) :
    Calls Trym.prog 3 #[.int .i64 a0, .slice a1 len1 cap1] w fun e w' => e = .returned (.bool true) ∧ Below w.heap.size w w' :=
  (f3_any a0 a1 len1 cap1 A L C Z w h hl hL).mono fun _ _ h => h.out

set_option maxRecDepth 100000 in
theorem lifted (os : Os) (started : os.Started) (H : Type) (enc : TypeId × Value → H) :
    ReturnsInHanded {} Trym.checked os 3 .any (Rows.fnNewGivingMatchesEligibilitySpec.pre6 enc Trym.prog Trym.f3 Rows.fnNewGivingMatchesEligibilityRow.domain false) (Rows.fnNewGivingMatchesEligibilitySpec.post enc Trym.prog Trym.f3 false true false false) := by
  refine returnsInHanded_of_change (C := Trym.checked) own started (by kernel_rfl) Trym.func3
    (ChangeSpec.witness6 (enc := enc) (C := Trym.checked) false ⟨#[], #[.int .i64 0, .slice none 0 0], []⟩ 8 (by kernel_rfl) (by kernel_rfl) (by kernel_rfl) (by kernel_rfl)) ?_
  intro W base args ds gs before hval0 hW hcnd _
  have hval : ∀ (j : Nat) t v, Trym.f3.params[j]? = some t → args[j]? = some v → Value.okWide Trym.prog W .any base t v := hval0
  have hW' := hW
  obtain ⟨p, q, hA0, hV, rfl, hfz, hnd⟩ := hW
  have hA : DataW.TrodAll enc Trym.prog W 0 (fun _ => true) true Trym.f3.params.toList args.toList ds p := hA0
  rw [Trym.params3] at hA hval
  obtain ⟨v0, vs0, d0, ds0, p0, q0, hargs, rfl, rfl, h0, r0⟩ := trodAll_cons hA
  obtain ⟨v1, vs1, d1, ds1, p1, q1, rfl, rfl, rfl, h1, r1⟩ := trodAll_cons r0
  obtain ⟨rfl, rfl, rfl⟩ := trodAll_nil r1
  obtain rfl : args = #[v0, v1] := by cases args; simp_all
  obtain ⟨rfl, rfl⟩ := trodVars_none hV
  obtain ⟨a0, rfl, rfl, rfl, w0⟩ := open_int Trym.underlying3 (hval 0 3 v0 rfl rfl) h0
  obtain ⟨a1, len1, cap1, rfl⟩ := okWide_slice Trym.underlying22 (hval 1 22 v1 rfl rfl)
  have k1 := h1
  have lt1 : ∀ x ∈ p1, x.block < W.heap.size := by obtain ⟨m, hm⟩ := k1; exact DataW.trod_lt m _ _ _ hm
  obtain ⟨A, L, C, Z, ht, hl, hL⟩ := tab_of_trod h1
  clear hA0 hval0
  refine (walk a0 a1 len1 cap1 A L C Z W ht hl hL).mono fun e W' ⟨he, bel⟩ => ?_
  subst he
  exact ⟨_, rfl, _, _, _, [], _, [], hW', trodAll_mk1 (shut_bool Trym.underlying4 _), (trodAll_cons_mk (shut_int Trym.underlying3 w0) (trodAll_cons_mk (Below.trod laidOut (by kernel_rfl) (of_decide_eq_true (by kernel_rfl)) k1 bel lt1) trodAll_mk0)), rfl, bel.frame _, fun h => by cases h⟩

theorem over : Rows.fnNewGivingMatchesEligibilityRow.holds Trym.pinned (OpenSpec.ofChange Rows.fnNewGivingMatchesEligibilitySpec) :=
  OpenClaim.holds_of_wide 3 Trym.f3 rfl rfl rfl rfl rfl rfl rfl ⟨rfl, rfl, rfl, rfl, rfl⟩ rfl rfl rfl rfl rfl (by kernel_rfl) Trym.func3 (by kernel_rfl)
    (of_decide_eq_true (by kernel_rfl)) (by unfold Func.isWrapper; first | (rw [if_pos (by decide +kernel)]; kernel_rfl) | (rw [if_neg (by decide +kernel)]; exact ⟨rfl, rfl⟩))
    (fun os started H enc _ => lifted os started H enc)

/-- THE STATEMENT -/
theorem proved : Rows.FnNewGivingMatchesEligibilitySaid := over
end Go.Proofs.Qxb6000048aMods.fnNewGivingMatchesEligibility
