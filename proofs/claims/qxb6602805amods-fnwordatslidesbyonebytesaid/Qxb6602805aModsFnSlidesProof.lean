/- 'Rows.FnWordAtSlidesByOneByteSaid'. The frame is the guide's own (howto/shells), the world's limb by 'Below'. -/
import Derived.Test.Qxb6602805aModsWalk
import Derived.ShutString
import Derived.ChangeOld
namespace Go.Proofs.Qxb6602805aMods.fnWordAtSlidesByOneByte
open Go.ChangeShapes Go.WideShapes Go.ChangeAt Go.RowKit Go.PlainAid
open Go.ChangeMaps (open_string shut_string)
set_option linter.unusedVariables false

theorem own : ownKnob Trym.prog.godebug = none := by kernel_rfl

theorem f32_any (s : ByteArray) (i : Nat) (w : World) (hs : s.size ≤ 1048576) (hi2 : i + 8 ≤ 9223372036854775807) :
    Calls Trym.prog 32 #[.string s, .int .i64 (i : Int)] w (P32 s i w) := by
  by_cases hi : i + 8 ≤ s.size
  · exact f32_fast s i w hs hi
  · exact f32_slow s i w hs hi hi2

theorem f26_any (s : ByteArray) (x : Int) (i : Nat) (hx : x = (i : Int)) (w : World) (hs : s.size ≤ 1048576) (hi2 : i + 8 ≤ 9223372036854775807) :
    Calls Trym.prog 26 #[.string s, .int .i64 x] w (P32 s i w) := by
  subst hx
  have H := hide (f32_any s i w hs hi2)
  go_enter Trym.func26, Trym.ntmps26
  go_wp2_with fail
  refine (unhide H).mono ?_
  rintro e w' ⟨rfl, hQ⟩
  have HQ := hide hQ
  clear hQ H
  go_wp2
  go_ret
  exact ⟨⟨rfl, unhide HQ⟩⟩

theorem f25_yes (s : ByteArray) (i : Int) (w : World) (h : s.size ≤ 1048576) : Calls Trym.prog 25 #[.string s, .int .i64 i] w fun e w' => e = .returned (.bool true) ∧ w' = w := by
  go_enter Trym.func25, Trym.ntmps25
  go_wp2
  go_ret
  exact ⟨rfl, rfl⟩
theorem f25_no (s : ByteArray) (i : Int) (w : World) (h : ¬ s.size ≤ 1048576) (hs : s.size ≤ 9223372036854775807) : Calls Trym.prog 25 #[.string s, .int .i64 i] w fun e w' => e = .returned (.bool false) ∧ w' = w := by
  go_enter Trym.func25, Trym.ntmps25
  go_wp2
  go_ret
  exact ⟨rfl, rfl⟩

structure P8 (w : World) (e : Ending) (w' : World) : Prop where
  out : e = .returned (.bool true) ∧ Below w.heap.size w w'

theorem Below.qt {B : Nat} {w w1 w2 : World} (h : Below B w w1) (q : Qt w1 w2) : Below B w w2 := by
  obtain ⟨n, rfl⟩ := q.out
  exact ⟨h.os, h.tape, h.output, h.size, h.block⟩

set_option maxHeartbeats 2000000 in
theorem f8_any (s : ByteArray) (i : Int) (w : World) (hs : s.size ≤ 9223372036854775807) : Calls Trym.prog 8 #[.string s, .int .i64 i] w (P8 w) := by
  have hb := get_bt s
  by_cases hsz : s.size ≤ 1048576
  · by_cases h0 : i < 0
    · go_enter Trym.func8, Trym.ntmps8
      go_wp2_with (go_at_call 25; refine (f25_yes _ _ _ hsz).mono ?_; rintro e w' ⟨rfl, hw⟩; obtain rfl := hw.symm)
      go_ret
      exact ⟨⟨rfl, Below.refl _ _⟩⟩
    by_cases h1 : 9223372036854775798 < i
    · go_enter Trym.func8, Trym.ntmps8
      go_wp2_with (go_at_call 25; refine (f25_yes _ _ _ hsz).mono ?_; rintro e w' ⟨rfl, hw⟩; obtain rfl := hw.symm)
      go_ret
      exact ⟨⟨rfl, Below.refl _ _⟩⟩
    obtain ⟨n, rfl⟩ := Int.eq_ofNat_of_zero_le (show 0 ≤ i by omega)
    have hn : n ≤ 9223372036854775798 := by omega
    have HLAW := hide (slides s n)
    clear h0 h1
    by_cases hin : n + 8 < s.size
    · have hbd := bt_bd s (n + 8)
      go_enter Trym.func8, Trym.ntmps8
      go_wp2_with fail
      refine (f25_yes _ _ _ hsz).mono ?_
      rintro e w' ⟨rfl, hw⟩
      obtain rfl := hw.symm
      go_wp2_with fail
      refine (f26_any s _ (n + 1) (by omega) _ hsz (by omega)).mono ?_
      rintro e w1 ⟨rfl, hQ1⟩
      have HQ1 := hide hQ1
      clear hQ1
      go_wp2_with fail
      refine (f26_any s _ n rfl _ hsz (by omega)).mono ?_
      rintro e w2 ⟨rfl, hQ2⟩
      have HBF := hide (Below.qt (Below.qt (Below.refl w.heap.size w) (unhide HQ1)) hQ2)
      clear hQ2 HQ1 hb
      generalize wordTo s (n + 1) 8 = W1 at *
      generalize wordTo s n 8 = W0 at *
      generalize bt s (n + 8) = y at *
      have hq : (W1 == bits .or .u64 (IntKind.u64.wrap (W0 * 256)) y) = true := by rw [unhide HLAW]; simp
      clear HLAW
      go_wp2
      go_ret
      exact ⟨⟨rfl, unhide HBF⟩⟩
    · have hy : bt s (n + 8) = 0 := bt_end s (by omega)
      rw [hy] at HLAW
      clear hy
      go_enter Trym.func8, Trym.ntmps8
      go_wp2_with fail
      refine (f25_yes _ _ _ hsz).mono ?_
      rintro e w' ⟨rfl, hw⟩
      obtain rfl := hw.symm
      go_wp2_with fail
      refine (f26_any s _ (n + 1) (by omega) _ hsz (by omega)).mono ?_
      rintro e w1 ⟨rfl, hQ1⟩
      have HQ1 := hide hQ1
      clear hQ1
      go_wp2_with fail
      refine (f26_any s _ n rfl _ hsz (by omega)).mono ?_
      rintro e w2 ⟨rfl, hQ2⟩
      have HBF := hide (Below.qt (Below.qt (Below.refl w.heap.size w) (unhide HQ1)) hQ2)
      clear hQ2 HQ1 hb
      generalize wordTo s (n + 1) 8 = W1 at *
      generalize wordTo s n 8 = W0 at *
      have hq : (W1 == bits .or .u64 (IntKind.u64.wrap (W0 * 256)) 0) = true := by rw [unhide HLAW]; simp
      clear HLAW
      go_wp2
      go_ret
      exact ⟨⟨rfl, unhide HBF⟩⟩
  · go_enter Trym.func8, Trym.ntmps8
    go_wp2_with (go_at_call 25; refine (f25_no _ _ _ hsz hs).mono ?_; rintro e w' ⟨rfl, hw⟩; obtain rfl := hw.symm)
    go_ret
    exact ⟨⟨rfl, Below.refl _ _⟩⟩

theorem walk (a0 : ByteArray) (a1 : Int) (w0 : a0.size ≤ maxLen) (w1 : (Lit.int .i64 a1).wf = true) (w : World) :
    Calls Trym.prog 8 #[.string a0, .int .i64 a1] w fun e w' => e = .returned (.bool true) ∧ Below w.heap.size w w' :=
  (f8_any a0 a1 w (by unfold maxLen at w0; omega)).mono fun _ _ h => h.out

/-! ### THE ROW's STEP: WRITTEN OUT: LEAVE IT -/
set_option maxRecDepth 100000 in
theorem lifted (os : Os) (started : os.Started) (H : Type) (enc : TypeId × Value → H) :
    ReturnsInHanded {} Trym.checked os 8 .any (Rows.fnWordAtSlidesByOneByteSpec.pre6 enc Trym.prog Trym.f8 Rows.fnWordAtSlidesByOneByteRow.domain false) (Rows.fnWordAtSlidesByOneByteSpec.post enc Trym.prog Trym.f8 false true false false) := by
  refine returnsInHanded_of_change (C := Trym.checked) own started (by kernel_rfl) Trym.func8
    (ChangeSpec.witness6 (enc := enc) (C := Trym.checked) false ⟨#[], #[.string ByteArray.empty, .int .i64 0], []⟩ 8 (by kernel_rfl) (by kernel_rfl) (by kernel_rfl) (by kernel_rfl)) ?_
  intro W base args ds gs before hval0 hW hcnd _
  have hval : ∀ (j : Nat) t v, Trym.f8.params[j]? = some t → args[j]? = some v → Value.okWide Trym.prog W .any base t v := hval0
  have hW' := hW
  obtain ⟨p, q, hA0, hV, rfl, hfz, hnd⟩ := hW
  have hA : DataW.TrodAll enc Trym.prog W 0 (fun _ => true) true Trym.f8.params.toList args.toList ds p := hA0
  rw [Trym.params8] at hA hval
  obtain ⟨v0, vs0, d0, ds0, p0, q0, hargs, rfl, rfl, h0, r0⟩ := trodAll_cons hA
  obtain ⟨v1, vs1, d1, ds1, p1, q1, rfl, rfl, rfl, h1, r1⟩ := trodAll_cons r0
  obtain ⟨rfl, rfl, rfl⟩ := trodAll_nil r1
  obtain rfl : args = #[v0, v1] := by cases args; simp_all
  obtain ⟨rfl, rfl⟩ := trodVars_none hV
  obtain ⟨a0, rfl, rfl, rfl, w0⟩ := open_string Trym.underlying9 (hval 0 9 v0 rfl rfl) h0
  obtain ⟨a1, rfl, rfl, rfl, w1⟩ := open_int Trym.underlying3 (hval 1 3 v1 rfl rfl) h1
  clear hA0 hval0
  refine (walk a0 a1 w0 w1 W).mono fun e W' ⟨he, bel⟩ => ?_
  subst he
  exact ⟨_, rfl, _, _, _, [], _, [], hW', trodAll_mk1 (shut_bool Trym.underlying4 _), (trodAll_cons_mk (shut_string Trym.underlying9 w0) (trodAll_cons_mk (shut_int Trym.underlying3 w1) trodAll_mk0)), rfl, bel.frame _, fun h => by cases h⟩

theorem over : Rows.fnWordAtSlidesByOneByteRow.holds Trym.pinned (OpenSpec.ofChange Rows.fnWordAtSlidesByOneByteSpec) :=
  OpenClaim.holds_of_wide 8 Trym.f8 rfl rfl rfl rfl rfl rfl rfl ⟨rfl, rfl, rfl, rfl, rfl⟩ rfl rfl rfl rfl rfl (by kernel_rfl) Trym.func8 (by kernel_rfl)
    (of_decide_eq_true (by kernel_rfl)) (by unfold Func.isWrapper; first | (rw [if_pos (by decide +kernel)]; kernel_rfl) | (rw [if_neg (by decide +kernel)]; exact ⟨rfl, rfl⟩))
    (fun os started H enc _ => lifted os started H enc)

/-- THE STATEMENT -/
theorem proved : Rows.FnWordAtSlidesByOneByteSaid :=
  over
end Go.Proofs.Qxb6602805aMods.fnWordAtSlidesByOneByte
