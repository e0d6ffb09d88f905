/- 'Rows.FnAllowsUnfixedIffNoRepeatsSaid'. -/
import Derived.Test.Qxb6000979aModsAllows
import Derived.ShutString
import Derived.ChangeOld
namespace Go.Proofs.Qxb6000979aMods.fnAllowsUnfixedIffNoRepeats
open Go.ChangeShapes Go.WideShapes Go.ChangeAt Go.RowKit
set_option linter.unusedVariables false

theorem own : ownKnob Trym.prog.godebug = none := by kernel_rfl
theorem laidOut : laidOutB Trym.prog = true := by kernel_rfl
theorem Trym.info4 : (Trym.prog.info? 4).map (fun i => (i.zero, i.size, i.bytes)) = some (some (.bool false), 1, 1) := by kernel_rfl

/-- What 'make([]bool, 1<<16)' lays. -/
def seen0 : Obj := .cells (madeCells #[.bool false] 65536) 4
theorem make_seen (w : World) : (Instr.makeSlice 36 (.int .i64 65536) (.int .i64 65536)).run Trym.prog w = .ok (.slice (some ⟨w.heap.size, 0, none⟩) 65536 65536) (w.alloc seen0) :=
  run_make_row' (P := Trym.prog) 36 4 (.bool false) 1 Trym.underlying36 Trym.info4 rfl .i64 .i64 65536 (by omega) (by omega) w

structure P7 (w : World) (e : Ending) (w' : World) : Prop where
  out : e = .returned (.bool true) ∧ Below w.heap.size w w'

/-- The table 'seen' when k numbers have been marked. -/
structure Seen (w wr : World) (g : Nat → Nat) (k : Nat) : Prop where
  below : Below w.heap.size w wr
  row : wr.rowIs w.heap.size 4 65536 (fun v => .bool (hasN g k v))
theorem seen_start (w : World) (g : Nat → Nat) : Seen w (w.alloc seen0) g 0 :=
  ⟨(Below.refl _ _).alloc (Nat.le_refl _) _, (World.rowIs_made w (.bool false) 65536 4).congr (fun v _ => rfl)⟩
theorem seen_step {w wr : World} {g : Nat → Nat} {k : Nat} (h : Seen w wr g k) : Seen w (wr.setCell ⟨w.heap.size, g k, none⟩ (.bool true)) g (k + 1) := by
  refine ⟨h.below.setCell (Nat.le_refl _) _, (h.row.set (g k) _).congr (fun v _ => ?_)⟩
  by_cases e : v = g k
  · subst e; simp [hasN]
  · have e2 : (g k == v) = false := by simp; exact fun x => e x.symm
    simp [e, hasN, e2]

set_option maxHeartbeats 2000000 in
theorem f7_any (a1 : Option Addr) (n1 c1 : Nat) (g1 : Nat → Nat) (a : Option Addr) (n c : Nat) (g : Nat → Nat) (w : World) (h1 : Rw .u16 w a1 n1 g1) (hnil1 : a1 = none → n1 = 0 ∧ c1 = 0) (hn1 : n1 ≤ 9223372036854775807)
    (h : Rw .u16 w a n g) (hnil : a = none → n = 0 ∧ c = 0) (hn : n ≤ 9223372036854775807) (hg : ∀ i, g i < 65536) :
    Calls Trym.prog 7 #[.slice a1 n1 c1, .slice a n c] w (P7 w) := by
  have HR1 := hide h1
  have HR := hide h
  have HGB := hide hg
  clear h1 h hg
  go_enter Trym.func7, Trym.ntmps7
  go_wp2_with fail
  refine (f20_any _ _ _ _ _ _ _ hn1 hn).mono ?_
  rintro e w' ⟨b, rfl, hw⟩
  obtain rfl := hw.symm
  cases b with
  | false =>
    go_wp2
    go_ret
    exact ⟨⟨rfl, Below.refl _ _⟩⟩
  | true =>
    by_cases hb1 : 4096 < n1
    · go_wp2
      go_ret
      exact ⟨⟨rfl, Below.refl _ _⟩⟩
    by_cases hb2 : 4096 < n
    · go_wp2
      go_ret
      exact ⟨⟨rfl, Below.refl _ _⟩⟩
    go_wp2_with fail
    refine (f16_any a1 n1 c1 g1 w (unhide HR1) hnil1 (by omega)).mono ?_
    rintro e w1 ⟨aw, cw, rfl, _, _, hRw, hB1⟩
    have HB1 := hide hB1
    clear hRw hB1
    go_wp2_with fail
    refine (f16_any a n c g w1 ((unhide HR).below (unhide HB1) (Nat.le_refl _)) hnil (by omega)).mono ?_
    rintro e w2 ⟨al, cl, rfl, hcl, hcl2, hRl, hB2⟩
    have HRl := hide hRl
    have HB2 := hide hB2
    have hmk := make_seen
    clear hRl hB2
    go_wp2
    have HS0 := hide (seen_start w2 g)
    clear hmk
    go_loopw [6, 7] (fun m i wr => ∃ k : Nat, k ≤ n ∧ i = .int .i64 k ∧ m = .bool (noRep g k) ∧ Seen w2 wr g k) (fun _ i _ => n - (intOf i).toNat)
    case atStart => exact ⟨0, Nat.zero_le _, rfl, rfl, unhide HS0⟩
    case round =>
      obtain ⟨k, hk, rfl, rfl, hI⟩ := hrel
      clear HS0
      by_cases hlt : k < n
      · obtain ⟨b, o, rfl, hc⟩ := (unhide HRl).at' (by omega)
        obtain ⟨x, hx⟩ : ∃ x, x = g k := ⟨_, rfl⟩
        have hxl : x < 65536 := by rw [hx]; exact unhide HGB k
        have g1 : wr.cell? ⟨b, o + k, none⟩ = some (.int .u16 (x : Int)) := by rw [hx]; exact Below.cellOf hI.below (Nat.le_refl _) (hc k hlt)
        have g2 : wr.cell? ⟨w2.heap.size, x, none⟩ = some (.bool (hasN g k x)) := hI.row.cell hxl
        have g3 : wr.frozen? ⟨w2.heap.size, x, none⟩ = false := hI.row.frozen x
        have HS : Hid (Seen w2 (wr.setCell ⟨w2.heap.size, x, none⟩ (.bool true)) g (k + 1)) := by
          have := seen_step hI
          rw [← hx] at this
          exact this
        cases hh : hasN g k x with
        | true =>
          have HM : Hid (noRep g (k + 1) = false) := by show _ = _; rw [noRep, ← hx, hh]; simp
          rw [hh] at g2
          clear hh hx hI hc
          go_wp2
          go_roundw
          case rel => exact ⟨k + 1, by omega, by go_num, by rw [unhide HM], unhide HS⟩
          case measure => simp [intOf]; omega
        | false =>
          have HM : Hid (noRep g (k + 1) = noRep g k) := by show _ = _; rw [noRep, ← hx, hh]; simp
          rw [hh] at g2
          clear hh hx hI hc
          go_wp2
          go_roundw
          case rel => exact ⟨k + 1, by omega, by go_num, by rw [unhide HM], unhide HS⟩
          case measure => simp [intOf]; omega
      · have hk' : k = n := by omega
        subst hk'
        have HI := hide hI
        have hRw := (unhide HRl).below hI.below (Nat.le_refl _)
        have HRW := hide hRw
        clear hI hRw
        go_wp2_with fail
        refine (f21_any _ _ _ _ _ _ g _ (unhide HRW) hcl (by omega)).mono ?_
        rintro e w3 ⟨rfl, hB3⟩
        have HB3 := hide hB3
        clear hB3
        go_wp2_with fail
        refine (f21_any _ _ _ _ _ _ g _ ((unhide HRW).below (unhide HB3) (Nat.le_refl _)) hcl (by omega)).mono ?_
        rintro e w4 ⟨rfl, hB4⟩
        have hBf : Below w.heap.size w w4 := by
          have s1 := (unhide HB1).size
          have s2 := (unhide HB2).size
          have s3 := (unhide HI).below.size
          have s4 := (unhide HB3).size
          exact (unhide HB1).trans (((unhide HB2).mono s1).trans (((unhide HI).below.mono (by omega)).trans (((unhide HB3).mono (by omega)).trans (hB4.mono (by omega)))))
        have HBF := hide hBf
        clear hBf hB4
        go_wp2
        go_ret
        exact ⟨⟨rfl, unhide HBF⟩⟩

theorem walk (a0 : Option Addr) (len0 cap0 : Nat) (z0 : List Int) (a1 : Option Addr) (len1 cap1 : Nat) (z1 : List Int) (w : World) (w0 : IsRow .u16 w a0 len0 cap0 z0) (w1 : IsRow .u16 w a1 len1 cap1 z1) :
    Calls Trym.prog 7 #[.slice a0 len0 cap0, .slice a1 len1 cap1] w fun e w' => e = .returned (.bool true) ∧ Below w.heap.size w w' := by
  obtain ⟨g0, r0, n0, b0, _⟩ := rw_of_row 65536 (fun n h => by have := bounds_u16 h; omega) (by omega) w0
  obtain ⟨g1, r1, n1, b1, l1⟩ := rw_of_row 65536 (fun n h => by have := bounds_u16 h; omega) (by omega) w1
  exact (f7_any a0 len0 cap0 g0 a1 len1 cap1 g1 w r0 n0 b0 r1 n1 b1 l1).mono fun _ _ h => h.out

/-! ### THE ROW's STEP: WRITTEN OUT: LEAVE IT -/
set_option maxRecDepth 100000 in
theorem lifted (os : Os) (started : os.Started) (H : Type) (enc : TypeId × Value → H) :
    ReturnsInHanded {} Trym.checked os 7 .any (Rows.fnAllowsUnfixedIffNoRepeatsSpec.pre6 enc Trym.prog Trym.f7 Rows.fnAllowsUnfixedIffNoRepeatsRow.domain false) (Rows.fnAllowsUnfixedIffNoRepeatsSpec.post enc Trym.prog Trym.f7 false true false false) := by
  refine returnsInHanded_of_change (C := Trym.checked) own started (by kernel_rfl) Trym.func7
    (ChangeSpec.witness6 (enc := enc) (C := Trym.checked) false ⟨#[], #[.slice none 0 0, .slice none 0 0], []⟩ 8 (by kernel_rfl) (by kernel_rfl) (by kernel_rfl) (by kernel_rfl)) ?_
  intro W base args ds gs before hval0 hW hcnd _
  have hval : ∀ (j : Nat) t v, Trym.f7.params[j]? = some t → args[j]? = some v → Value.okWide Trym.prog W .any base t v := hval0
  have hW' := hW
  obtain ⟨p, q, hA0, hV, rfl, hfz, hnd⟩ := hW
  have hA : DataW.TrodAll enc Trym.prog W 0 (fun _ => true) true Trym.f7.params.toList args.toList ds p := hA0
  rw [Trym.params7] at hA hval
  obtain ⟨v0, vs0, d0, ds0, p0, q0, hargs, rfl, rfl, h0, r0⟩ := trodAll_cons hA
  obtain ⟨v1, vs1, d1, ds1, p1, q1, rfl, rfl, rfl, h1, r1⟩ := trodAll_cons r0
  obtain ⟨rfl, rfl, rfl⟩ := trodAll_nil r1
  obtain rfl : args = #[v0, v1] := by cases args; simp_all
  obtain ⟨rfl, rfl⟩ := trodVars_none hV
  obtain ⟨a0, len0, cap0, rfl⟩ := okWide_slice Trym.underlying29 (hval 0 29 v0 rfl rfl)
  have k0 := h0
  have lt0 : ∀ x ∈ p0, x.block < W.heap.size := by obtain ⟨m, hm⟩ := k0; exact DataW.trod_lt m _ _ _ hm
  obtain ⟨z0, w0⟩ : ∃ zs, IsRow .u16 W a0 len0 cap0 zs := by
    obtain ⟨fuel, hf⟩ := h0
    rcases open_ints Trym.underlying29 Trym.underlying30 (by kernel_rfl) hf with ⟨hcs, _⟩ | ⟨x, l, c, zs, hcs, _, hl, hm, hz, _, hcell, hwz⟩
    · simp [Value.cells] at hcs
      obtain ⟨rfl, rfl, rfl⟩ := hcs
      exact ⟨[], .inl ⟨rfl, rfl, rfl, rfl⟩⟩
    · simp [Value.cells] at hcs
      obtain ⟨rfl, rfl, rfl⟩ := hcs
      exact ⟨zs, .inr ⟨_, rfl, hl, hm, by simpa using hz, hcell, hwz⟩⟩
  obtain ⟨a1, len1, cap1, rfl⟩ := okWide_slice Trym.underlying29 (hval 1 29 v1 rfl rfl)
  have k1 := h1
  have lt1 : ∀ x ∈ p1, x.block < W.heap.size := by obtain ⟨m, hm⟩ := k1; exact DataW.trod_lt m _ _ _ hm
  obtain ⟨z1, w1⟩ : ∃ zs, IsRow .u16 W a1 len1 cap1 zs := by
    obtain ⟨fuel, hf⟩ := h1
    rcases open_ints Trym.underlying29 Trym.underlying30 (by kernel_rfl) hf with ⟨hcs, _⟩ | ⟨x, l, c, zs, hcs, _, hl, hm, hz, _, hcell, hwz⟩
    · simp [Value.cells] at hcs
      obtain ⟨rfl, rfl, rfl⟩ := hcs
      exact ⟨[], .inl ⟨rfl, rfl, rfl, rfl⟩⟩
    · simp [Value.cells] at hcs
      obtain ⟨rfl, rfl, rfl⟩ := hcs
      exact ⟨zs, .inr ⟨_, rfl, hl, hm, by simpa using hz, hcell, hwz⟩⟩
  clear hA0 hval0
  refine (walk a0 len0 cap0 z0 a1 len1 cap1 z1 W w0 w1).mono fun e W' ⟨he, bel⟩ => ?_
  subst he
  exact ⟨_, rfl, _, _, _, [], _, [], hW', trodAll_mk1 (shut_bool Trym.underlying4 _), (trodAll_cons_mk (Below.trod laidOut (by kernel_rfl) (of_decide_eq_true (by kernel_rfl)) k0 bel lt0) (trodAll_cons_mk (Below.trod laidOut (by kernel_rfl) (of_decide_eq_true (by kernel_rfl)) k1 bel lt1) trodAll_mk0)), rfl, bel.frame _, fun h => by cases h⟩

theorem over : Rows.fnAllowsUnfixedIffNoRepeatsRow.holds Trym.pinned (OpenSpec.ofChange Rows.fnAllowsUnfixedIffNoRepeatsSpec) :=
  OpenClaim.holds_of_wide 7 Trym.f7 rfl rfl rfl rfl rfl rfl rfl ⟨rfl, rfl, rfl, rfl, rfl⟩ rfl rfl rfl rfl rfl (by kernel_rfl) Trym.func7 (by kernel_rfl)
    (of_decide_eq_true (by kernel_rfl)) (by unfold Func.isWrapper; first | (rw [if_pos (by decide +kernel)]; kernel_rfl) | (rw [if_neg (by decide +kernel)]; exact ⟨rfl, rfl⟩))
    (fun os started H enc _ => lifted os started H enc)

/-- THE STATEMENT -/
theorem proved : Rows.FnAllowsUnfixedIffNoRepeatsSaid := over
end Go.Proofs.Qxb6000979aMods.fnAllowsUnfixedIffNoRepeats
