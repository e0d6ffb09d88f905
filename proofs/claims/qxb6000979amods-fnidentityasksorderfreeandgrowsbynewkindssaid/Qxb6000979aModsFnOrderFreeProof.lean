/- 'Rows.FnIdentityAsksOrderFreeAndGrowsByNewKindsSaid'. -/
import Derived.Test.Qxb6000979aModsAsks
import Derived.ShutString
import Derived.ChangeOld
namespace Go.Proofs.Qxb6000979aMods.fnIdentityAsksOrderFreeAndGrowsByNewKinds
open Go.ChangeShapes Go.WideShapes Go.ChangeAt Go.RowKit
set_option linter.unusedVariables false

theorem own : ownKnob Trym.prog.godebug = none := by kernel_rfl
theorem laidOut : laidOutB Trym.prog = true := by kernel_rfl

/-! ### The plain law -/
/-- The types behind one another, t last. -/
def more (g : Nat → Nat) (n t i : Nat) : Nat := if i < n then g i else t
theorem more_lt {g : Nat → Nat} {n t i : Nat} (h : i < n) : more g n t i = g i := by unfold more; rw [if_pos h]
theorem more_at (g : Nat → Nat) (n t : Nat) : more g n t n = t := by unfold more; rw [if_neg (by omega)]
theorem bool_ext {a b : Bool} (h : a = true ↔ b = true) : a = b := by cases a <;> cases b <;> simp_all
theorem hasN_rev (g : Nat → Nat) (n v : Nat) : hasN (fun i => g (n - 1 - i)) n v = hasN g n v := by
  apply bool_ext
  rw [hasN_iff, hasN_iff]
  constructor
  · rintro ⟨i, hi, e⟩
    exact ⟨n - 1 - i, by omega, e⟩
  · rintro ⟨i, hi, e⟩
    exact ⟨n - 1 - i, by omega, by show g (n - 1 - (n - 1 - i)) = v; rw [show n - 1 - (n - 1 - i) = i from by omega]; exact e⟩
theorem hasN_more (g : Nat → Nat) (n t v : Nat) : hasN (more g n t) (n + 1) v = (hasN g n v || t == v) := by
  apply bool_ext
  rw [hasN_iff, Bool.or_eq_true, hasN_iff, beq_iff_eq]
  constructor
  · rintro ⟨i, hi, e⟩
    rcases Nat.lt_succ_iff_lt_or_eq.1 hi with h | h
    · rw [more_lt h] at e; exact .inl ⟨i, h, e⟩
    · subst h; rw [more_at] at e; exact .inr e
  · rintro (⟨i, hi, e⟩ | e)
    · exact ⟨i, by omega, by rw [more_lt hi]; exact e⟩
    · exact ⟨n, by omega, by rw [more_at]; exact e⟩
theorem asks_eq (g : Nat → Nat) (n : Nat) : asks g n = b2n (hasN g n 10) + b2n (hasN g n 17) + b2n (hasN g n 13) := by
  simp [asks, cnt, kind]
theorem asks_rev (g : Nat → Nat) (n : Nat) : asks (fun i => g (n - 1 - i)) n = asks g n := by
  rw [asks_eq, asks_eq, hasN_rev, hasN_rev, hasN_rev]
theorem asks_more_new {g : Nat → Nat} {n t : Nat} (ht : t = 10 ∨ t = 17 ∨ t = 13) (h : hasN g n t = false) : asks (more g n t) (n + 1) = asks g n + 1 := by
  rw [asks_eq, asks_eq, hasN_more, hasN_more, hasN_more]
  rcases ht with rfl | rfl | rfl <;> simp [h, b2n] <;> omega
theorem asks_more_old {g : Nat → Nat} {n t : Nat} (h : hasN g n t = true ∨ (t ≠ 10 ∧ t ≠ 17 ∧ t ≠ 13)) : asks (more g n t) (n + 1) = asks g n := by
  rw [asks_eq, asks_eq, hasN_more, hasN_more, hasN_more]
  have e : ∀ v, v = 10 ∨ v = 17 ∨ v = 13 → (hasN g n v || t == v) = hasN g n v := fun v hv => by
    by_cases ev : t = v
    · subst ev
      rcases h with h | h
      · rw [h]; rfl
      · omega
    · have : (t == v) = false := by simpa using ev
      rw [this, Bool.or_false]
  rw [e 10 (by omega), e 17 (by omega), e 13 (by omega)]

/-! ### The walks -/
structure P13 (w : World) (e : Ending) (w' : World) : Prop where
  out : ∃ b, e = .returned (.bool b) ∧ w' = w
theorem f13_any (a : Option Addr) (n c : Nat) (t : Int) (w : World) (h : n ≤ 9223372036854775807) : Calls Trym.prog 13 #[.slice a n c, .int .u8 t] w (P13 w) := by
  go_enter Trym.func13, Trym.ntmps13
  go_wp2
  all_goals go_ret
  all_goals exact ⟨⟨_, rfl, rfl⟩⟩

set_option maxHeartbeats 1000000 in
theorem f14_any (a : Option Addr) (n c : Nat) (g : Nat → Nat) (w : World) (h : Rw .u8 w a n g) (hn : n ≤ 1048576) :
    Calls Trym.prog 14 #[.slice a n c] w (PC .u8 w n (fun i => g (n - 1 - i))) := by
  have hmk := run_make_row' (P := Trym.prog) 22 5 (.int .u8 0) 1 Trym.underlying22 Trym.info5 rfl .i64 .i64 n (by omega) (by omega)
  have HR := hide h
  clear h
  go_enter Trym.func14, Trym.ntmps14
  go_wp2
  clear hmk
  go_loopw [4] (fun i wr => ∃ k : Nat, k ≤ n ∧ i = .int .i64 k ∧ RowAt .u8 5 w wr n (fun i => g (n - 1 - i)) k) (fun i _ => n - (intOf i).toNat)
  case atStart => exact ⟨0, Nat.zero_le _, rfl, row_start .u8 5 w n _⟩
  case round =>
    obtain ⟨k, hk, rfl, hI⟩ := hrel
    by_cases hlt : k < n
    · obtain ⟨b, o, rfl, hc⟩ := (unhide HR).at' (by omega)
      have g1 := Below.cellOf hI.below (Nat.le_refl _) (hc (n - 1 - k) (by omega))
      obtain ⟨f, hf, _⟩ := hI.row
      have g2 : wr.cell? ⟨w.heap.size, k, none⟩ = some (f k) := hf.cell hlt
      have g3 := hf.frozen k
      have HS := hide (row_step hI)
      clear hI hf hc
      go_wp2
      go_roundw
      case rel => exact ⟨k + 1, by omega, by go_num, unhide HS⟩
      case measure => simp [intOf]; omega
    · have hk' : k = n := by omega
      subst hk'
      have HO := hide hI
      clear hI
      go_wp2
      go_ret
      exact ⟨⟨_, k, rfl, by omega, by omega, row_done (unhide HO), (unhide HO).below⟩⟩

structure P4 (w : World) (e : Ending) (w' : World) : Prop where
  out : e = .returned (.bool true) ∧ Below w.heap.size w w'

set_option maxHeartbeats 4000000 in
theorem f4_any (a : Option Addr) (n c : Nat) (g : Nat → Nat) (t : Nat) (w : World) (h : Rw .u8 w a n g) (hnil : a = none → n = 0 ∧ c = 0) (hn : n ≤ 9223372036854775807) :
    Calls Trym.prog 4 #[.slice a n c, .int .u8 (t : Int)] w (P4 w) := by
  have HR := hide h
  clear h
  go_enter Trym.func4, Trym.ntmps4
  go_wp2_with fail
  refine (f13_any _ _ _ _ _ hn).mono ?_
  rintro e w' ⟨b, rfl, hw⟩
  obtain rfl := hw.symm
  cases b with
  | false =>
    go_wp2
    go_ret
    exact ⟨⟨rfl, Below.refl _ _⟩⟩
  | true =>
    by_cases hb1 : 16384 < n
    · go_wp2
      go_ret
      exact ⟨⟨rfl, Below.refl _ _⟩⟩
    go_wp2_with fail
    refine (f10_any a n c g w (unhide HR) hnil (by omega)).mono ?_
    rintro e w1 ⟨al, cl, rfl, hcl, hcl2, hR1, hB1⟩
    have HR1 := hide hR1
    have HB1 := hide hB1
    clear hR1 hB1 HR
    go_wp2_with fail
    refine (f12_any al n cl g w1 (unhide HR1) (by omega)).mono ?_
    rintro e w2 ⟨p2, rfl, hP2, hB2⟩
    have HP2 := hide hP2
    have HB2 := hide hB2
    clear hP2 hB2
    go_wp2_with fail
    refine (f11_any p2 n g w2 (unhide HP2) (by omega)).mono ?_
    rintro e w3 ⟨rfl, hB3⟩
    have HB3 := hide ((unhide HB2).trans (hB3.mono (unhide HB2).size))
    clear hB3
    have HR3 := hide ((unhide HR1).below (unhide HB3) (Nat.le_refl _))
    go_wp2_with fail
    refine (f14_any al n cl g w3 (unhide HR3) (by omega)).mono ?_
    rintro e w4 ⟨ar, cr, rfl, _, _, hR4, hB4⟩
    have HR4 := hide hR4
    have HB4 := hide ((unhide HB3).trans (hB4.mono (unhide HB3).size))
    clear hR4 hB4
    go_wp2_with fail
    refine (f12_any ar n cr _ w4 (unhide HR4) (by omega)).mono ?_
    rintro e w5 ⟨p5, rfl, hP5, hB5⟩
    have HP5 := hide hP5
    have HB5 := hide ((unhide HB4).trans (hB5.mono (unhide HB4).size))
    clear hP5 hB5
    go_wp2_with fail
    refine (f11_any p5 n _ w5 (unhide HP5) (by omega)).mono ?_
    rintro e w6 ⟨rfl, hB6⟩
    have HB6 := hide ((unhide HB5).trans (hB6.mono (unhide HB5).size))
    clear hB6
    rw [asks_rev]
    obtain ⟨A, hA⟩ : ∃ A, A = asks g n := ⟨_, rfl⟩
    rw [← hA]
    have HA := hide hA
    have hAl : A ≤ 3 := by rw [hA]; exact cnt_le g n 3
    clear hA HP2 HP5 HR4 HB2 HB3 HB4 HB5 HR3
    have HR6 := hide ((unhide HR1).below (unhide HB6) (Nat.le_refl _))
    have hmk : ∀ wx : World, (Instr.makeSlice 22 (.int .i64 ((n : Int) + 1)) (.int .i64 ((n : Int) + 1))).run Trym.prog wx = .ok (.slice (some ⟨wx.heap.size, 0, none⟩) (n + 1) (n + 1)) (wx.alloc (.cells (madeCells #[.int .u8 0] (n + 1)) 5)) := fun wx => by
      have := run_make_row' (P := Trym.prog) 22 5 (.int .u8 0) 1 Trym.underlying22 Trym.info5 rfl .i64 .i64 (n + 1) (by omega) (by omega) wx
      simpa using this
    go_wp2
    clear hmk
    go_loopw [7] (fun i wr => ∃ k : Nat, k ≤ n ∧ i = .int .i64 k ∧ RowAt .u8 5 w6 wr (n + 1) (more g n t) k) (fun i _ => n - (intOf i).toNat)
    case atStart => exact ⟨0, Nat.zero_le _, rfl, row_start .u8 5 w6 (n + 1) _⟩
    case round =>
      obtain ⟨k, hk, rfl, hI⟩ := hrel
      by_cases hlt : k < n
      · obtain ⟨b, o, rfl, hc⟩ := (unhide HR6).at' (by omega)
        have g1 := Below.cellOf hI.below (Nat.le_refl _) (hc k hlt)
        obtain ⟨f, hf, _⟩ := hI.row
        have g2 : wr.cell? ⟨w6.heap.size, k, none⟩ = some (f k) := hf.cell (by omega)
        have g3 := hf.frozen k
        have HS : Hid (RowAt .u8 5 w6 (wr.setCell ⟨w6.heap.size, k, none⟩ (.int .u8 (g k : Int))) (n + 1) (more g n t) (k + 1)) := by
          have := row_step hI
          rw [more_lt hlt] at this
          exact this
        clear hI hf hc
        go_wp2
        go_roundw
        case rel => exact ⟨k + 1, by omega, by go_num, unhide HS⟩
        case measure => simp [intOf]; omega
      · have hk' : k = n := by omega
        subst hk'
        obtain ⟨f, hf, _⟩ := hI.row
        have g2 : wr.cell? ⟨w6.heap.size, k, none⟩ = some (f k) := hf.cell (by omega)
        have g3 := hf.frozen k
        have hS : RowAt .u8 5 w6 (wr.setCell ⟨w6.heap.size, k, none⟩ (.int .u8 (t : Int))) (k + 1) (more g k t) (k + 1) := by
          have := row_step hI
          rw [more_at] at this
          exact this
        have HS := hide hS
        have H12 := hide (fun cx => f12_any (some ⟨w6.heap.size, 0, none⟩) (k + 1) cx (more g k t) _ (row_done hS) (by omega))
        clear hI hf hS
        go_wp2_with fail
        refine (unhide H12 _).mono ?_
        rintro e w7 ⟨p7, rfl, hP7, hB7⟩
        have HP7 := hide hP7
        have HB7 := hide ((unhide HS).below.trans (hB7.mono (unhide HS).below.size))
        clear hP7 hB7 H12 HS g2 g3
        go_wp2_with fail
        refine (f11_any p7 (k + 1) _ w7 (unhide HP7) (by omega)).mono ?_
        rintro e w8 ⟨rfl, hB8⟩
        have HB8 := hide ((unhide HB7).trans (hB8.mono (unhide HB7).size))
        have HR8 := hide ((unhide HR6).below (unhide HB8) (Nat.le_refl _))
        have HBF := hide ((unhide HB1).trans (((unhide HB6).trans ((unhide HB8).mono (unhide HB6).size)).mono (unhide HB1).size))
        clear hB8 HP7 HB7
        obtain ⟨C, hC⟩ : ∃ C, C = asks (more g k t) (k + 1) := ⟨_, rfl⟩
        rw [← hC]
        have HC := hide hC
        clear hC
        go_wp2
        go_loop [9, 10] (fun p i => ∃ j : Nat, j ≤ k ∧ i = .int .i64 j ∧ p = .bool (hasN g j t)) (fun _ i => k - (intOf i).toNat)
        case atStart => exact ⟨0, Nat.zero_le _, rfl, rfl⟩
        case round =>
          obtain ⟨j, hj, rfl, rfl⟩ := hrel
          by_cases hjl : j < k
          · obtain ⟨b, o, rfl, hc⟩ := (unhide HR8).at' (by omega)
            obtain ⟨x, hx⟩ : ∃ x, x = g j := ⟨_, rfl⟩
            have g1 : w8.cell? ⟨b, o + j, none⟩ = some (.int .u8 (x : Int)) := by rw [hx]; exact hc j hjl
            have HST : Hid (hasN g (j + 1) t = (hasN g j t || x == t)) := by show _ = _; rw [hx]; rfl
            clear hc hx
            by_cases he : x = t
            · have hb : ((x : Int) == (t : Int)) = true := by simp [he]
              have HE : Hid ((x == t) = true) := by show _ = _; simpa using he
              clear he
              go_wp2
              go_round
              case rel => exact ⟨j + 1, by omega, by go_num, by rw [unhide HST, unhide HE, Bool.or_true]⟩
              case measure => simp [intOf]; omega
            · have hb : ((x : Int) == (t : Int)) = false := by simp; omega
              have HE : Hid ((x == t) = false) := by show _ = _; simpa using he
              clear he
              go_wp2
              go_round
              case rel => exact ⟨j + 1, by omega, by go_num, by rw [unhide HST, unhide HE, Bool.or_false]⟩
              case measure => simp [intOf]; omega
          · have hj' : j = k := by omega
            subst hj'
            cases hh : hasN g j t with
            | true =>
              have hCA : C = A := by rw [unhide HC, unhide HA]; exact asks_more_old (.inl hh)
              subst hCA
              clear hh
              go_wp2
              all_goals go_ret
              all_goals exact ⟨⟨rfl, unhide HBF⟩⟩
            | false =>
              by_cases ht : t = 10 ∨ t = 17 ∨ t = 13
              · have hCA : C = A + 1 := by rw [unhide HC, unhide HA]; exact asks_more_new ht hh
                subst hCA
                clear hh
                rcases ht with rfl | rfl | rfl
                all_goals
                  go_wp2
                  go_ret
                  exact ⟨⟨rfl, unhide HBF⟩⟩
              · have hCA : C = A := by rw [unhide HC, unhide HA]; exact asks_more_old (.inr (by omega))
                subst hCA
                have b10 : ((t : Int) == 10) = false := by simp; omega
                have b17 : ((t : Int) == 17) = false := by simp; omega
                have b13 : ((t : Int) == 13) = false := by simp; omega
                clear hh ht
                go_wp2
                go_ret
                exact ⟨⟨rfl, unhide HBF⟩⟩

theorem walk (a0 : Option Addr) (len0 cap0 : Nat) (z0 : List Int) (a1 : Int) (w : World) (w0 : IsRow .u8 w a0 len0 cap0 z0) (w1 : (Lit.int .u8 a1).wf = true) :
    Calls Trym.prog 4 #[.slice a0 len0 cap0, .int .u8 a1] w fun e w' => e = .returned (.bool true) ∧ Below w.heap.size w w' := by
  obtain ⟨g0, r0, n0, b0, _⟩ := rw_of_row 256 (fun n h => by have := bounds_u8 h; omega) (by omega) w0
  obtain ⟨t, rfl⟩ := Int.eq_ofNat_of_zero_le (bounds_u8 w1).1
  exact (f4_any a0 len0 cap0 g0 t w r0 n0 b0).mono fun _ _ h => h.out

/-! ### THE ROW's STEP: WRITTEN OUT: LEAVE IT -/
set_option maxRecDepth 100000 in
theorem lifted (os : Os) (started : os.Started) (H : Type) (enc : TypeId × Value → H) :
    ReturnsInHanded {} Trym.checked os 4 .any (Rows.fnIdentityAsksOrderFreeAndGrowsByNewKindsSpec.pre6 enc Trym.prog Trym.f4 Rows.fnIdentityAsksOrderFreeAndGrowsByNewKindsRow.domain false) (Rows.fnIdentityAsksOrderFreeAndGrowsByNewKindsSpec.post enc Trym.prog Trym.f4 false true false false) := by
  refine returnsInHanded_of_change (C := Trym.checked) own started (by kernel_rfl) Trym.func4
    (ChangeSpec.witness6 (enc := enc) (C := Trym.checked) false ⟨#[], #[.slice none 0 0, .int .u8 0], []⟩ 8 (by kernel_rfl) (by kernel_rfl) (by kernel_rfl) (by kernel_rfl)) ?_
  intro W base args ds gs before hval0 hW hcnd _
  have hval : ∀ (j : Nat) t v, Trym.f4.params[j]? = some t → args[j]? = some v → Value.okWide Trym.prog W .any base t v := hval0
  have hW' := hW
  obtain ⟨p, q, hA0, hV, rfl, hfz, hnd⟩ := hW
  have hA : DataW.TrodAll enc Trym.prog W 0 (fun _ => true) true Trym.f4.params.toList args.toList ds p := hA0
  rw [Trym.params4] at hA hval
  obtain ⟨v0, vs0, d0, ds0, p0, q0, hargs, rfl, rfl, h0, r0⟩ := trodAll_cons hA
  obtain ⟨v1, vs1, d1, ds1, p1, q1, rfl, rfl, rfl, h1, r1⟩ := trodAll_cons r0
  obtain ⟨rfl, rfl, rfl⟩ := trodAll_nil r1
  obtain rfl : args = #[v0, v1] := by cases args; simp_all
  obtain ⟨rfl, rfl⟩ := trodVars_none hV
  obtain ⟨a0, len0, cap0, rfl⟩ := okWide_slice Trym.underlying22 (hval 0 22 v0 rfl rfl)
  have k0 := h0
  have lt0 : ∀ x ∈ p0, x.block < W.heap.size := by obtain ⟨m, hm⟩ := k0; exact DataW.trod_lt m _ _ _ hm
  obtain ⟨z0, w0⟩ : ∃ zs, IsRow .u8 W a0 len0 cap0 zs := by
    obtain ⟨fuel, hf⟩ := h0
    rcases open_ints Trym.underlying22 Trym.underlying5 (by kernel_rfl) hf with ⟨hcs, _⟩ | ⟨x, l, c, zs, hcs, _, hl, hm, hz, _, hcell, hwz⟩
    · simp [Value.cells] at hcs
      obtain ⟨rfl, rfl, rfl⟩ := hcs
      exact ⟨[], .inl ⟨rfl, rfl, rfl, rfl⟩⟩
    · simp [Value.cells] at hcs
      obtain ⟨rfl, rfl, rfl⟩ := hcs
      exact ⟨zs, .inr ⟨_, rfl, hl, hm, by simpa using hz, hcell, hwz⟩⟩
  obtain ⟨a1, rfl, rfl, rfl, w1⟩ := open_int Trym.underlying5 (hval 1 5 v1 rfl rfl) h1
  clear hA0 hval0
  refine (walk a0 len0 cap0 z0 a1 W w0 w1).mono fun e W' ⟨he, bel⟩ => ?_
  subst he
  exact ⟨_, rfl, _, _, _, [], _, [], hW', trodAll_mk1 (shut_bool Trym.underlying4 _), (trodAll_cons_mk (Below.trod laidOut (by kernel_rfl) (of_decide_eq_true (by kernel_rfl)) k0 bel lt0) (trodAll_cons_mk (shut_int Trym.underlying5 w1) trodAll_mk0)), rfl, bel.frame _, fun h => by cases h⟩

theorem over : Rows.fnIdentityAsksOrderFreeAndGrowsByNewKindsRow.holds Trym.pinned (OpenSpec.ofChange Rows.fnIdentityAsksOrderFreeAndGrowsByNewKindsSpec) :=
  OpenClaim.holds_of_wide 4 Trym.f4 rfl rfl rfl rfl rfl rfl rfl ⟨rfl, rfl, rfl, rfl, rfl⟩ rfl rfl rfl rfl rfl (by kernel_rfl) Trym.func4 (by kernel_rfl)
    (of_decide_eq_true (by kernel_rfl)) (by unfold Func.isWrapper; first | (rw [if_pos (by decide +kernel)]; kernel_rfl) | (rw [if_neg (by decide +kernel)]; exact ⟨rfl, rfl⟩))
    (fun os started H enc _ => lifted os started H enc)

/-- THE STATEMENT -/
theorem proved : Rows.FnIdentityAsksOrderFreeAndGrowsByNewKindsSaid := over
end Go.Proofs.Qxb6000979aMods.fnIdentityAsksOrderFreeAndGrowsByNewKinds
