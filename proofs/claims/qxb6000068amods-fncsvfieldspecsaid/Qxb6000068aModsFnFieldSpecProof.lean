/- 'Rows.FnCsvFieldSpecSaid'. -/
import Derived.Test.Qxb6000068aModsDecode
import Derived.ShutString
import Derived.ChangeOld
namespace Go.Proofs.Qxb6000068aMods.fnCsvFieldSpec
open Go.ChangeShapes Go.WideShapes Go.ChangeAt Go.RowKit
open Go.ChangeMaps (open_string shut_string)
set_option linter.unusedVariables false

theorem own : ownKnob Trym.prog.godebug = none := by kernel_rfl
theorem laidOut : laidOutB Trym.prog = true := by kernel_rfl

theorem rd_of_own2 {w : World} {base : Nat} {v : Value} {l : List Int} (h : w.ownsRow base 5 1 v l.length (B l)) : ∃ a n c, v = .slice a n c ∧ n ≤ c ∧ c ≤ 9223372036854775807 ∧ Rd w a n l := by
  obtain ⟨a, c, e, h1, h2, h3⟩ := rd_of_own h
  exact ⟨a, _, c, e, h1, by unfold maxLen at h2; omega, h3⟩

/-- 'out[len(want):]'. -/
theorem tail_rd {w w' : World} {a a1 : Option Addr} {n n1 c : Nat} {l t : List Int} (h : Rd w a n (l ++ t)) (h1 : Rd w' a1 n1 l) (hc : n ≤ c) :
    ∃ a4 n4 c4, (∀ wx : World, (Instr.slice 22 (.slice a n c) (some (.int .i64 (n1 : Int))) none none).run Trym.prog wx = .ok (.slice a4 n4 c4) wx) ∧ Rd w a4 n4 t := by
  have e1 := h.len
  have e2 := h1.len
  simp only [List.length_append] at e1
  obtain ⟨i0, hi, hz0, hz1, hz2⟩ := info_parts Trym.info5
  have hel : Trym.prog.elem 22 = 5 := by simp [Program.elem, Trym.underlying22]
  refine ⟨if c = n1 then a else a.map (·.add (n1 * 1)), n - n1, c - n1, fun wx => ?_, ⟨by omega, fun h0 => ?_⟩⟩
  · have hu : Trym.prog.underlying 22 = some (.slice (Trym.prog.elem 22)) := by rw [hel]; exact Trym.underlying22
    rw [run_slice_l wx 22 a n c hu .i64 n1 (by omega) (by omega), hel]
    simp [sizeOf, typeInfo, hi, hz1, sliced]
  · obtain ⟨b, o, rfl, hc'⟩ := h.at' (by omega)
    rw [if_neg (by omega)]
    refine ⟨b, o + n1, ?_, fun i hi' => ?_⟩
    · rw [Option.map_some, add_plain, Nat.mul_one]
    · have := hc' (n1 + i) (by omega)
      rw [e2, nth_append_right, ← e2] at this
      rw [Nat.add_assoc]
      exact this

structure P3 (w : World) (e : Ending) (w' : World) : Prop where
  out : e = .returned (.bool true) ∧ Below w.heap.size w w'

theorem below_of_grown {w w' : World} {b : Option Nat} {B : Nat} (h : w.grownBy w' b) (hB : B ≤ w.heap.size) (hb : ∀ k, b = some k → B ≤ k) : Below B w w' :=
  ⟨h.os, h.tape, h.output, h.size, fun k hk => h.block k (by omega) (fun e => by have := hb k e.symm; omega)⟩
theorem Below.qt {B : Nat} {w w1 w2 : World} (h : Below B w w1) (q : Qt w1 w2) : Below B w w2 := by
  obtain ⟨n, rfl⟩ := q.out
  exact ⟨h.os, h.tape, h.output, h.size, h.block⟩
theorem own_later {w w' : World} {v : Value} {n : Nat} {xs : List Value} (h : w.ownsRow 0 5 1 v n xs) (hg : w.grownBy w' none) : w'.ownsRow 0 5 1 v n xs :=
  h.kept hg (by cases hv : v.ownBlock <;> simp)
theorem spot_lo {w0 w : World} {v : Value} {l : List Int} (h : Owns w0 w none v l) : ∀ k, v.ownBlock = some k → w0.heap.size ≤ k := by
  intro k hk
  rcases h.spot with e | e | ⟨j, e, hj⟩
  · rw [hk] at e; cases e
  · rw [hk] at e; cases e
  · rw [hk] at e; cases e; exact hj

theorem f9_yes (a : Option Addr) (n c : Nat) (s : ByteArray) (w : World) (h : n + s.size ≤ 1048576) : Calls Trym.prog 9 #[.slice a n c, .string s] w fun e w' => e = .returned (.bool true) ∧ w' = w := by
  go_enter Trym.func9, Trym.ntmps9
  go_wp2
  go_ret
  exact ⟨rfl, rfl⟩
theorem f9_no (a : Option Addr) (n c : Nat) (s : ByteArray) (w : World) (ha : n ≤ 9223372036854775807) (hb : s.size ≤ 9223372036854775807) (h : ¬ n + s.size ≤ 1048576) : Calls Trym.prog 9 #[.slice a n c, .string s] w fun e w' => e = .returned (.bool false) ∧ w' = w := by
  go_enter Trym.func9, Trym.ntmps9
  go_wp2
  all_goals go_ret
  all_goals exact ⟨rfl, rfl⟩

set_option maxHeartbeats 2000000 in
theorem f3_any (a : Option Addr) (n c : Nat) (l : List Int) (s : ByteArray) (w : World) (h : Rd w a n l) (hnil : a = none → n = 0 ∧ c = 0) (hn : n ≤ 9223372036854775807) (hs : s.size ≤ 9223372036854775807) :
    Calls Trym.prog 3 #[.slice a n c, .string s] w (P3 w) := by
  by_cases hsz : n + s.size ≤ 1048576
  · have hln := h.len
    have HR := hide h
    clear h
    have HLN := hide hln
    clear hln
    go_enter Trym.func3, Trym.ntmps3
    go_wp2_with fail
    refine (f9_yes _ _ _ _ _ hsz).mono ?_
    rintro e w' ⟨rfl, hw⟩
    obtain rfl := hw.symm
    go_wp2_with fail
    refine (f10_any a n c l w (unhide HR) hnil (by omega)).mono ?_
    rintro e w1 ⟨v1, rfl, hO1⟩
    have HO1 := hide hO1
    clear hO1
    go_wp2_with fail
    refine (f10_any a n c l w1 ((unhide HR).grown (unhide HO1).kept) hnil (by omega)).mono ?_
    rintro e w2 ⟨v2, rfl, hO2⟩
    have HO2 := hide hO2
    clear hO2
    go_wp2_with fail
    refine (f11_any v2 l s w2 (unhide HO2).own (by have := unhide HLN; omega) (by omega)).mono ?_
    rintro e w3 ⟨v3, rfl, hO3⟩
    have hlo := spot_lo (unhide HO2)
    have hlo1 : ∀ k, v1.ownBlock = some k → k < w1.heap.size := fun k hk => ((unhide HO1).own.lt k hk).2
    have hB12 : Below w.heap.size w w2 := (below_of_grown (unhide HO1).kept (Nat.le_refl _) (fun k e => by cases e)).trans (below_of_grown (unhide HO2).kept (unhide HO1).kept.size (fun k e => by cases e))
    have hB3 : Below w.heap.size w w3 := hB12.trans (below_of_grown hO3.kept (Nat.le_trans (unhide HO1).kept.size (unhide HO2).kept.size) (fun k e => Nat.le_trans (unhide HO1).kept.size (hlo k e)))
    have hown1 : w3.ownsRow 0 5 1 v1 l.length (B l) := (own_later (unhide HO1).own (unhide HO2).kept).kept hO3.kept (by
      cases hv : v1.ownBlock with
      | none => exact .inl rfl
      | some k =>
        right
        intro e
        have := hlo k e.symm
        have := hlo1 k hv
        omega)
    obtain ⟨a1, n1, c1, rfl, hc1, hm1, hR1⟩ := rd_of_own2 hown1
    obtain ⟨a3, n3, c3, rfl, hc3, hm3, hR3⟩ := rd_of_own2 hO3.own
    obtain ⟨a4, n4, c4, hsl, hR4⟩ := tail_rd hR3 hR1 hc3
    have hle : n1 ≤ n3 := by have := hR1.len; have := hR3.len; simp at this; omega
    have HR1 := hide hR1
    have HR3 := hide hR3
    have HR4 := hide hR4
    have HB3 := hide hB3
    clear hR1 hR3 hR4 hB3 hB12 hown1 hlo hlo1 hO3 HO1 HO2
    go_wp2_with fail
    refine (f12_yes _ _ _ _ _ _ l (csv (sl s)) _ (unhide HR3) (unhide HR1) (by omega)).mono ?_
    rintro e w4 ⟨rfl, hQ⟩
    have HQ := hide hQ
    clear hQ
    have hR4' : Rd w4 a4 n4 (csv (sl s)) := by
      obtain ⟨q, rfl⟩ := (unhide HQ).out
      exact ⟨(unhide HR4).len, (unhide HR4).at'⟩
    have hB4 : Below w.heap.size w w4 := Below.qt (unhide HB3) (unhide HQ)
    have HR5 := hide hR4'
    have HB4 := hide hB4
    clear hR4' hB4 HR1 HR3 HR4 HB3 HQ
    go_wp2_with fail
    refine (f13_any s w4 (by omega)).mono ?_
    rintro e w' ⟨rfl, hw⟩
    obtain rfl := hw.symm
    by_cases hne : needs (sl s) = true
    · have hcsv : csv (sl s) = 34 :: (dbl (sl s) ++ [34]) := by unfold csv; rw [if_pos hne]
      rw [hcsv] at HR5
      rw [hne]
      clear hne hcsv
      go_wp2_with fail
      refine (f15_any _ _ _ (sl s) _ (unhide HR5) (by rw [sl_length]; omega)).mono ?_
      rintro e w5 ⟨v5, rfl, hO5⟩
      obtain ⟨a5, n5, c5, rfl, hc5, hm5, hR5⟩ := rd_of_own2 hO5.own
      have hB5 : Below w.heap.size w w5 := (unhide HB4).trans (below_of_grown hO5.kept (unhide HB4).size (fun k e => by cases e))
      have HB5 := hide hB5
      have HR6 := hide hR5
      clear hB5 hR5 hO5
      go_wp2_with fail
      refine (f14_yes _ _ _ s _ (unhide HR6) (by omega)).mono ?_
      rintro e w6 ⟨rfl, hQ6⟩
      have HF := hide (Below.qt (unhide HB5) hQ6)
      clear hQ6
      go_wp2
      go_ret
      exact ⟨⟨rfl, unhide HF⟩⟩
    · have hcsv : csv (sl s) = sl s := by unfold csv; rw [if_neg hne]
      have hnf : needs (sl s) = false := by simpa using hne
      rw [hcsv] at HR5
      rw [hnf]
      clear hne hcsv hnf
      go_wp2_with fail
      refine (f14_yes _ _ _ s _ (unhide HR5) (by omega)).mono ?_
      rintro e w6 ⟨rfl, hQ6⟩
      have HF := hide (Below.qt (unhide HB4) hQ6)
      clear hQ6
      go_wp2
      go_ret
      exact ⟨⟨rfl, unhide HF⟩⟩
  · clear h
    go_enter Trym.func3, Trym.ntmps3
    go_wp2_with fail
    refine (f9_no _ _ _ _ _ hn hs hsz).mono ?_
    rintro e w' ⟨rfl, hw⟩
    obtain rfl := hw.symm
    go_wp2
    go_ret
    exact ⟨⟨rfl, Below.refl _ _⟩⟩

/-- WHAT THE WALK IS TOLD OF A SLICE OF INTEGERS THAT CAME IN: it is nil; or it leads to a row of 'cap' cells, the numbers 'zs' (the first 'len' are its elements, the rest its spare room), each fitting its kind. -/
def IsRow (k : IntKind) (w : World) (a : Option Addr) (len cap : Nat) (zs : List Int) : Prop :=
  (a = none ∧ len = 0 ∧ cap = 0 ∧ zs = []) ∨
  ∃ x, a = some x ∧ len ≤ cap ∧ cap ≤ maxLen ∧ zs.length = cap ∧ (∀ i, i < zs.length → w.cell? (x.add i) = some (.int k (zs.getD i 0))) ∧ ∀ n ∈ zs, (Lit.int k n).wf = true

/-- From the shell's word to ours. -/
theorem rd_of_row {w : World} {a : Option Addr} {len cap : Nat} {zs : List Int} (h : IsRow .u8 w a len cap zs) : ∃ l, Rd w a len l ∧ (a = none → len = 0 ∧ cap = 0) ∧ len ≤ 9223372036854775807 := by
  rcases h with ⟨rfl, rfl, rfl, rfl⟩ | ⟨x, rfl, hl, hm, hz, hc, _⟩
  · exact ⟨[], ⟨rfl, fun h => absurd h (by omega)⟩, fun _ => ⟨rfl, rfl⟩, by omega⟩
  · unfold maxLen at hm
    refine ⟨zs.take len, ⟨by simp; omega, fun h0 => ?_⟩, (fun e => by cases e), by omega⟩
    obtain ⟨b, o, spot⟩ := x
    have hspot : spot = none := by simpa [Addr.add] using World.cell?_spot (hc 0 (by omega))
    subst hspot
    refine ⟨b, o, rfl, fun i hi => ?_⟩
    have := hc i (by omega)
    rw [add_plain] at this
    rw [this]
    simp [nth, hi]

theorem walk (a0 : Option Addr) (len0 cap0 : Nat) (z0 : List Int) (a1 : ByteArray) (w : World) (w0 : IsRow .u8 w a0 len0 cap0 z0) (w1 : a1.size ≤ maxLen) :
    Calls Trym.prog 3 #[.slice a0 len0 cap0, .string a1] w fun e w' => e = .returned (.bool true) ∧ Below w.heap.size w w' := by
  obtain ⟨l, h1, h2, h3⟩ := rd_of_row w0
  exact (f3_any a0 len0 cap0 l a1 w h1 h2 h3 (by unfold maxLen at w1; omega)).mono fun _ _ h => h.out

/-! ### THE ROW's STEP: WRITTEN OUT: LEAVE IT -/
set_option maxRecDepth 100000 in
theorem lifted (os : Os) (started : os.Started) (H : Type) (enc : TypeId × Value → H) :
    ReturnsInHanded {} Trym.checked os 3 .any (Rows.fnCsvFieldSpecSpec.pre6 enc Trym.prog Trym.f3 Rows.fnCsvFieldSpecRow.domain false) (Rows.fnCsvFieldSpecSpec.post enc Trym.prog Trym.f3 false true false false) := by
  refine returnsInHanded_of_change (C := Trym.checked) own started (by kernel_rfl) Trym.func3
    (ChangeSpec.witness6 (enc := enc) (C := Trym.checked) false ⟨#[], #[.slice none 0 0, .string ByteArray.empty], []⟩ 8 (by kernel_rfl) (by kernel_rfl) (by kernel_rfl) (by kernel_rfl)) ?_
  intro W base args ds gs before hval0 hW hcnd _
  have hval : ∀ (j : Nat) t v, Trym.f3.params[j]? = some t → args[j]? = some v → Value.okWide Trym.prog W .any base t v := hval0
  have hW' := hW
  obtain ⟨p, q, hA0, hV, rfl, hfz, hnd⟩ := hW
  have hA : DataW.TrodAll enc Trym.prog W 0 (fun _ => true) true Trym.f3.params.toList args.toList ds p := hA0
  rw [Trym.params3] at hA hval
  obtain ⟨v0, vs0, d0, ds0, p0, q0, hargs, rfl, rfl, h0, r0⟩ := trodAll_cons hA
  obtain ⟨v1, vs1, d1, ds1, p1, q1, rfl, rfl, rfl, h1, r1⟩ := trodAll_cons r0
  obtain ⟨rfl, rfl, rfl⟩ := trodAll_nil r1
  obtain rfl : args = #[v0, v1] := by cases args; simp_all
  obtain ⟨rfl, rfl⟩ := trodVars_none hV
  obtain ⟨a0, len0, cap0, rfl⟩ := okWide_slice Trym.underlying22 (hval 0 22 v0 rfl rfl)
  have k0 := h0
  have lt0 : ∀ x ∈ p0, x.block < W.heap.size := by obtain ⟨m, hm⟩ := k0; exact DataW.trod_lt m _ _ _ hm
  obtain ⟨z0, w0⟩ : ∃ zs, IsRow .u8 W a0 len0 cap0 zs := by
    obtain ⟨fuel, hf⟩ := h0
    rcases open_ints Trym.underlying22 Trym.underlying5 (by kernel_rfl) hf with ⟨hcs, _⟩ | ⟨x, l, c, zs, hcs, _, hl, hm, hz, _, hcell, hwz⟩
    · simp [Value.cells] at hcs
      obtain ⟨rfl, rfl, rfl⟩ := hcs
      exact ⟨[], .inl ⟨rfl, rfl, rfl, rfl⟩⟩
    · simp [Value.cells] at hcs
      obtain ⟨rfl, rfl, rfl⟩ := hcs
      exact ⟨zs, .inr ⟨_, rfl, hl, hm, by simpa using hz, hcell, hwz⟩⟩
  obtain ⟨a1, rfl, rfl, rfl, w1⟩ := open_string Trym.underlying9 (hval 1 9 v1 rfl rfl) h1
  clear hA0 hval0
  refine (walk a0 len0 cap0 z0 a1 W w0 w1).mono fun e W' ⟨he, bel⟩ => ?_
  subst he
  exact ⟨_, rfl, _, _, _, [], _, [], hW', trodAll_mk1 (shut_bool Trym.underlying4 _), (trodAll_cons_mk (Below.trod laidOut (by kernel_rfl) (of_decide_eq_true (by kernel_rfl)) k0 bel lt0) (trodAll_cons_mk (shut_string Trym.underlying9 w1) trodAll_mk0)), rfl, bel.frame _, fun h => by cases h⟩

theorem over : Rows.fnCsvFieldSpecRow.holds Trym.pinned (OpenSpec.ofChange Rows.fnCsvFieldSpecSpec) :=
  OpenClaim.holds_of_wide 3 Trym.f3 rfl rfl rfl rfl rfl rfl rfl ⟨rfl, rfl, rfl, rfl, rfl⟩ rfl rfl rfl rfl rfl (by kernel_rfl) Trym.func3 (by kernel_rfl)
    (of_decide_eq_true (by kernel_rfl)) (by unfold Func.isWrapper; first | (rw [if_pos (by decide +kernel)]; kernel_rfl) | (rw [if_neg (by decide +kernel)]; exact ⟨rfl, rfl⟩))
    (fun os started H enc _ => lifted os started H enc)

/-- THE STATEMENT -/
theorem proved : Rows.FnCsvFieldSpecSaid := over
end Go.Proofs.Qxb6000068aMods.fnCsvFieldSpec
