/- 'Rows.FnIdentityAsksCountsAskKindsSaid'. -/
import Derived.Test.Qxb6000979aModsAsks
import Derived.ShutString
import Derived.ChangeOld
namespace Go.Proofs.Qxb6000979aMods.fnIdentityAsksCountsAskKinds
open Go.ChangeShapes Go.WideShapes Go.ChangeAt Go.RowKit
set_option linter.unusedVariables false

theorem own : ownKnob Trym.prog.godebug = none := by kernel_rfl
theorem laidOut : laidOutB Trym.prog = true := by kernel_rfl

structure P9 (w : World) (e : Ending) (w' : World) : Prop where
  out : ∃ b, e = .returned (.bool b) ∧ w' = w
theorem f9_any (a : Option Addr) (n c : Nat) (w : World) (h : n ≤ 9223372036854775807) : Calls Trym.prog 9 #[.slice a n c] w (P9 w) := by
  go_enter Trym.func9, Trym.ntmps9
  go_wp2
  all_goals go_ret
  all_goals exact ⟨⟨_, rfl, rfl⟩⟩

structure P3 (w : World) (e : Ending) (w' : World) : Prop where
  out : e = .returned (.bool true) ∧ Below w.heap.size w w'

theorem asks_eq (g : Nat → Nat) (n : Nat) : asks g n = b2n (hasN g n 10) + b2n (hasN g n 17) + b2n (hasN g n 13) := by
  simp [asks, cnt, kind]

set_option maxHeartbeats 4000000 in
theorem f3_any (a : Option Addr) (n c : Nat) (g : Nat → Nat) (w : World) (h : Rw .u8 w a n g) (hnil : a = none → n = 0 ∧ c = 0) (hn : n ≤ 9223372036854775807) :
    Calls Trym.prog 3 #[.slice a n c] w (P3 w) := by
  have HR := hide h
  clear h
  go_enter Trym.func3, Trym.ntmps3
  go_wp2_with fail
  refine (f9_any _ _ _ _ hn).mono ?_
  rintro e w' ⟨b, rfl, hw⟩
  obtain rfl := hw.symm
  cases b with
  | false =>
    go_wp2
    go_ret
    exact ⟨⟨rfl, Below.refl _ _⟩⟩
  | true =>
    by_cases hb1 : 16384 < n
    · go_wp2
      go_ret
      exact ⟨⟨rfl, Below.refl _ _⟩⟩
    go_wp2_with fail
    refine (f10_any a n c g w (unhide HR) hnil (by omega)).mono ?_
    rintro e w1 ⟨al, cl, rfl, hcl, hcl2, hRl, hB1⟩
    have HRl := hide hRl
    have HB1 := hide hB1
    clear hRl hB1 HR
    go_wp2
    go_loop [3, 4, 5, 6] (fun p f y i => ∃ k : Nat, k ≤ n ∧ i = .int .i64 k ∧ p = .bool (hasN g k 10) ∧ f = .bool (hasN g k 17) ∧ y = .bool (hasN g k 13)) (fun _ _ _ i => n - (intOf i).toNat)
    case atStart => exact ⟨0, Nat.zero_le _, rfl, rfl, rfl, rfl⟩
    case round =>
      obtain ⟨k, hk, rfl, rfl, rfl, rfl⟩ := hrel
      by_cases hlt : k < n
      · obtain ⟨b, o, rfl, hc⟩ := (unhide HRl).at' (by omega)
        obtain ⟨x, hx⟩ : ∃ x, x = g k := ⟨_, rfl⟩
        have g1 : w1.cell? ⟨b, o + k, none⟩ = some (.int .u8 (x : Int)) := by rw [hx]; exact hc k hlt
        have HST : Hid (∀ v, hasN g (k + 1) v = (hasN g k v || x == v)) := fun v => by rw [hx]; rfl
        clear hc hx
        by_cases h10 : x = 10
        · subst h10
          go_wp2
          go_round
          case rel => exact ⟨k + 1, by omega, by go_num, by rw [unhide HST]; simp, by rw [unhide HST]; simp, by rw [unhide HST]; simp⟩
          case measure => simp [intOf]; omega
        by_cases h17 : x = 17
        · subst h17
          go_wp2
          go_round
          case rel => exact ⟨k + 1, by omega, by go_num, by rw [unhide HST]; simp, by rw [unhide HST]; simp, by rw [unhide HST]; simp⟩
          case measure => simp [intOf]; omega
        by_cases h13 : x = 13
        · subst h13
          go_wp2
          go_round
          case rel => exact ⟨k + 1, by omega, by go_num, by rw [unhide HST]; simp, by rw [unhide HST]; simp, by rw [unhide HST]; simp⟩
          case measure => simp [intOf]; omega
        have b10 : ((x : Int) == 10) = false := by simp; omega
        have b17 : ((x : Int) == 17) = false := by simp; omega
        have b13 : ((x : Int) == 13) = false := by simp; omega
        have e10 : (x == 10) = false := by simpa using h10
        have e17 : (x == 17) = false := by simpa using h17
        have e13 : (x == 13) = false := by simpa using h13
        have HE := hide (And.intro e10 (And.intro e17 e13))
        clear h10 h17 h13 e10 e17 e13
        go_wp2
        go_round
        case rel => exact ⟨k + 1, by omega, by go_num, by rw [unhide HST, (unhide HE).1]; simp, by rw [unhide HST, (unhide HE).2.1]; simp, by rw [unhide HST, (unhide HE).2.2]; simp⟩
        case measure => simp [intOf]; omega
      · have hk' : k = n := by omega
        subst hk'
        have HA := hide (asks_eq g k)
        generalize hasN g k 10 = p at HA ⊢
        generalize hasN g k 17 = q at HA ⊢
        generalize hasN g k 13 = r at HA ⊢
        have H12 := hide (f12_any al k cl g w1 (unhide HRl) (by omega))
        cases p <;> cases q <;> cases r
        all_goals
          simp only [b2n, if_true] at HA
          go_wp2_with fail
          refine (unhide H12).mono ?_
          rintro e w2 ⟨pp, rfl, hP, hB2⟩
          have H11 := hide (f11_any pp k g w2 hP (by omega))
          have HB2 := hide hB2
          clear hP hB2 H12
          go_wp2_with fail
          refine (unhide H11).mono ?_
          rintro e w3 ⟨rfl, hB3⟩
          have HBF := hide ((unhide HB1).trans (((unhide HB2).trans (hB3.mono (unhide HB2).size)).mono (unhide HB1).size))
          clear hB3 H11
          rw [unhide HA]
          clear HA
          go_wp2
          go_ret
          exact ⟨⟨rfl, unhide HBF⟩⟩

theorem walk (a0 : Option Addr) (len0 cap0 : Nat) (z0 : List Int) (w : World) (w0 : IsRow .u8 w a0 len0 cap0 z0) :
    Calls Trym.prog 3 #[.slice a0 len0 cap0] w fun e w' => e = .returned (.bool true) ∧ Below w.heap.size w w' := by
  obtain ⟨g0, r0, n0, b0, _⟩ := rw_of_row 256 (fun n h => by have := bounds_u8 h; omega) (by omega) w0
  exact (f3_any a0 len0 cap0 g0 w r0 n0 b0).mono fun _ _ h => h.out

/-! ### THE ROW's STEP: WRITTEN OUT: LEAVE IT -/
set_option maxRecDepth 100000 in
theorem lifted (os : Os) (started : os.Started) (H : Type) (enc : TypeId × Value → H) :
    ReturnsInHanded {} Trym.checked os 3 .any (Rows.fnIdentityAsksCountsAskKindsSpec.pre6 enc Trym.prog Trym.f3 Rows.fnIdentityAsksCountsAskKindsRow.domain false) (Rows.fnIdentityAsksCountsAskKindsSpec.post enc Trym.prog Trym.f3 false true false false) := by
  refine returnsInHanded_of_change (C := Trym.checked) own started (by kernel_rfl) Trym.func3
    (ChangeSpec.witness6 (enc := enc) (C := Trym.checked) false ⟨#[], #[.slice none 0 0], []⟩ 8 (by kernel_rfl) (by kernel_rfl) (by kernel_rfl) (by kernel_rfl)) ?_
  intro W base args ds gs before hval0 hW hcnd _
  have hval : ∀ (j : Nat) t v, Trym.f3.params[j]? = some t → args[j]? = some v → Value.okWide Trym.prog W .any base t v := hval0
  have hW' := hW
  obtain ⟨p, q, hA0, hV, rfl, hfz, hnd⟩ := hW
  have hA : DataW.TrodAll enc Trym.prog W 0 (fun _ => true) true Trym.f3.params.toList args.toList ds p := hA0
  rw [Trym.params3] at hA hval
  obtain ⟨v0, vs0, d0, ds0, p0, q0, hargs, rfl, rfl, h0, r0⟩ := trodAll_cons hA
  obtain ⟨rfl, rfl, rfl⟩ := trodAll_nil r0
  obtain rfl : args = #[v0] := by cases args; simp_all
  obtain ⟨rfl, rfl⟩ := trodVars_none hV
  obtain ⟨a0, len0, cap0, rfl⟩ := okWide_slice Trym.underlying22 (hval 0 22 v0 rfl rfl)
  have k0 := h0
  have lt0 : ∀ x ∈ p0, x.block < W.heap.size := by obtain ⟨m, hm⟩ := k0; exact DataW.trod_lt m _ _ _ hm
  obtain ⟨z0, w0⟩ : ∃ zs, IsRow .u8 W a0 len0 cap0 zs := by
    obtain ⟨fuel, hf⟩ := h0
    rcases open_ints Trym.underlying22 Trym.underlying5 (by kernel_rfl) hf with ⟨hcs, _⟩ | ⟨x, l, c, zs, hcs, _, hl, hm, hz, _, hcell, hwz⟩
    · simp [Value.cells] at hcs
      obtain ⟨rfl, rfl, rfl⟩ := hcs
      exact ⟨[], .inl ⟨rfl, rfl, rfl, rfl⟩⟩
    · simp [Value.cells] at hcs
      obtain ⟨rfl, rfl, rfl⟩ := hcs
      exact ⟨zs, .inr ⟨_, rfl, hl, hm, by simpa using hz, hcell, hwz⟩⟩
  clear hA0 hval0
  refine (walk a0 len0 cap0 z0 W w0).mono fun e W' ⟨he, bel⟩ => ?_
  subst he
  exact ⟨_, rfl, _, _, _, [], _, [], hW', trodAll_mk1 (shut_bool Trym.underlying4 _), (trodAll_cons_mk (Below.trod laidOut (by kernel_rfl) (of_decide_eq_true (by kernel_rfl)) k0 bel lt0) trodAll_mk0), rfl, bel.frame _, fun h => by cases h⟩

theorem over : Rows.fnIdentityAsksCountsAskKindsRow.holds Trym.pinned (OpenSpec.ofChange Rows.fnIdentityAsksCountsAskKindsSpec) :=
  OpenClaim.holds_of_wide 3 Trym.f3 rfl rfl rfl rfl rfl rfl rfl ⟨rfl, rfl, rfl, rfl, rfl⟩ rfl rfl rfl rfl rfl (by kernel_rfl) Trym.func3 (by kernel_rfl)
    (of_decide_eq_true (by kernel_rfl)) (by unfold Func.isWrapper; first | (rw [if_pos (by decide +kernel)]; kernel_rfl) | (rw [if_neg (by decide +kernel)]; exact ⟨rfl, rfl⟩))
    (fun os started H enc _ => lifted os started H enc)

/-- THE STATEMENT -/
theorem proved : Rows.FnIdentityAsksCountsAskKindsSaid := over
end Go.Proofs.Qxb6000979aMods.fnIdentityAsksCountsAskKinds
