/- FnCsvRowParses: the walk. -/
import Derived.Test.Qxb6000068aModsStrs
import Derived.Test.Qxb6000068aModsDecode
namespace Go.Proofs.Qxb6000068aMods
open Go.RowKit Go.PlainAid

theorem rd_of_own2 {w : World} {base : Nat} {v : Value} {l : List Int} (h : w.ownsRow base 5 1 v l.length (B l)) : ∃ a n c, v = .slice a n c ∧ n ≤ c ∧ c ≤ 9223372036854775807 ∧ Rd w a n l := by
  obtain ⟨a, c, e, h1, h2, h3⟩ := rd_of_own h
  exact ⟨a, _, c, e, h1, by unfold maxLen at h2; omega, h3⟩

theorem elem22 : Trym.prog.elem 22 = 5 := by simp [Program.elem, Trym.underlying22]
theorem under22 : Trym.prog.underlying 22 = some (.slice (Trym.prog.elem 22)) := by rw [elem22]; exact Trym.underlying22

/-- 'out[len(want):]'. -/
theorem tail_rd {w w' : World} {a a1 : Option Addr} {n n1 c : Nat} {l t : List Int} (h : Rd w a n (l ++ t)) (h1 : Rd w' a1 n1 l) (hc : n ≤ c) (hm : c ≤ 9223372036854775807) :
    ∃ a4 n4 c4, (∀ wx : World, (Instr.slice 22 (.slice a n c) (some (.int .i64 (n1 : Int))) none none).run Trym.prog wx = .ok (.slice a4 n4 c4) wx) ∧ Rd w a4 n4 t ∧ n4 ≤ c4 ∧ c4 ≤ 9223372036854775807 := by
  have e1 := h.len
  have e2 := h1.len
  simp only [List.length_append] at e1
  obtain ⟨i0, hi, hz0, hz1, hz2⟩ := info_parts Trym.info5
  refine ⟨if c = n1 then a else a.map (·.add (n1 * 1)), n - n1, c - n1, fun wx => ?_, ⟨by omega, fun h0 => ?_⟩, by omega, by omega⟩
  · rw [run_slice_l wx 22 a n c under22 .i64 n1 (by omega) (by omega), elem22]
    simp [sizeOf, typeInfo, hi, hz1, sliced]
  · obtain ⟨b, o, rfl, hc'⟩ := h.at' (by omega)
    rw [if_neg (by omega)]
    refine ⟨b, o + n1, ?_, fun i hi' => ?_⟩
    · rw [Option.map_some, WideShapes.add_plain, Nat.mul_one]
    · have := hc' (n1 + i) (by omega)
      rw [e2, nth_append_right, ← e2] at this
      rw [Nat.add_assoc]
      exact this

/-- 'tail[:len(tail)-1]'. -/
theorem init_run (b o n c : Nat) (h1 : 1 ≤ n) (hc : n ≤ c) (wx : World) :
    (Instr.slice 22 (.slice (some ⟨b, o, none⟩) n c) none (some (.int .i64 ((n : Int) - 1))) none).run Trym.prog wx = .ok (.slice (some ⟨b, o, none⟩) (n - 1) c) wx := by
  obtain ⟨i0, hi, hz0, hz1, hz2⟩ := info_parts Trym.info5
  rw [run_slice_h wx 22 _ n c under22 .i64 ((n : Int) - 1) (by omega) (by omega), elem22]
  have e : ((n : Int) - 1).toNat = n - 1 := by omega
  have e2 : (⟨b, o, none⟩ : Addr).add 0 = ⟨b, o, none⟩ := by rw [WideShapes.add_plain]; rfl
  simp [sizeOf, typeInfo, hi, hz1, sliced, e, e2]

/-- 'body[start:pos]'. -/
theorem mid_run (b o n c q m : Nat) (hq : q + m ≤ n) (hc : n ≤ c) : ∃ a4 c4, ∀ wx : World,
    (Instr.slice 22 (.slice (some ⟨b, o, none⟩) n c) (some (.int .i64 (q : Int))) (some (.int .i64 ((q + m : Nat) : Int))) none).run Trym.prog wx = .ok (.slice a4 m c4) wx ∧ (0 < m → a4 = some ⟨b, o + q, none⟩) := by
  obtain ⟨i0, hi, hz0, hz1, hz2⟩ := info_parts Trym.info5
  refine ⟨if c = q then some ⟨b, o, none⟩ else some ⟨b, o + q, none⟩, c - q, fun wx => ⟨?_, fun h0 => ?_⟩⟩
  · rw [run_slice_lh wx 22 _ n c under22 .i64 .i64 q ((q + m : Nat) : Int) (by omega) (by omega) (by omega), elem22]
    have e2 : (⟨b, o, none⟩ : Addr).add q = ⟨b, o + q, none⟩ := WideShapes.add_plain _ _ _
    have e3 : q + m - q = m := by omega
    simp [sizeOf, typeInfo, hi, hz1, sliced, e2, e3, -Int.natCast_add]
  · rw [if_neg (by omega)]

theorem below_of_grown {w w' : World} {b : Option Nat} {B : Nat} (h : w.grownBy w' b) (hB : B ≤ w.heap.size) (hb : ∀ k, b = some k → B ≤ k) : Below B w w' :=
  ⟨h.os, h.tape, h.output, h.size, fun k hk => h.block k (by omega) (fun e => by have := hb k e.symm; omega)⟩
theorem Below.qt {B : Nat} {w w1 w2 : World} (h : Below B w w1) (q : Qt w1 w2) : Below B w w2 := by
  obtain ⟨n, rfl⟩ := q.out
  exact ⟨h.os, h.tape, h.output, h.size, h.block⟩
theorem grown_qt {w w1 w2 : World} {b : Option Nat} (h : w.grownBy w1 b) (q : Qt w1 w2) : w.grownBy w2 b := by
  obtain ⟨n, rfl⟩ := q.out
  exact grownBy_drewN h n
theorem own_later {w w' : World} {v : Value} {n : Nat} {xs : List Value} (h : w.ownsRow 0 5 1 v n xs) (hg : w.grownBy w' none) : w'.ownsRow 0 5 1 v n xs :=
  h.kept hg (by cases hv : v.ownBlock <;> simp)
theorem spot_lo {w0 w : World} {v : Value} {l : List Int} (h : Owns w0 w none v l) : ∀ k, v.ownBlock = some k → w0.heap.size ≤ k := by
  intro k hk
  rcases h.spot with e | e | ⟨j, e, hj⟩
  · rw [hk] at e; cases e
  · rw [hk] at e; cases e
  · rw [hk] at e; cases e; exact hj

theorem f13_t (s : ByteArray) (w : World) (hs : s.size ≤ 1048576) (h : needs (sl s) = true) : Calls Trym.prog 13 #[.string s] w fun e w' => e = .returned (.bool true) ∧ w' = w :=
  (f13_any s w (by omega)).mono fun _ _ k => ⟨by rw [k.out.1, h], k.out.2⟩
theorem f13_f (s : ByteArray) (w : World) (hs : s.size ≤ 1048576) (h : needs (sl s) = false) : Calls Trym.prog 13 #[.string s] w fun e w' => e = .returned (.bool false) ∧ w' = w :=
  (f13_any s w (by omega)).mono fun _ _ k => ⟨by rw [k.out.1, h], k.out.2⟩
theorem f14_q (a1 : Option Addr) (n1 c1 : Nat) (s : ByteArray) (w : World) (h1 : Rd w a1 n1 (sl s)) (hs : s.size ≤ 1048576) :
    Calls Trym.prog 14 #[.slice a1 n1 c1, .string s] w fun e w' => e = .returned (.bool true) ∧ ∃ m, w' = w.drewN m :=
  (f14_yes a1 n1 c1 s w h1 (by omega)).mono fun _ _ k => ⟨k.out.1, k.out.2.out⟩
theorem Rd.drewN {w : World} {a : Option Addr} {n : Nat} {l : List Int} (h : Rd w a n l) (q : Nat) : Rd (w.drewN q) a n l := ⟨h.len, h.at'⟩
theorem needs_nth {m : List Int} (h : needs m = false) {j : Nat} (hj : j < m.length) : ¬ spec (nth m j) = true := by
  intro hs
  have h2 : needs m = true := by
    unfold needs
    rw [List.any_eq_true]
    refine ⟨nth m j, ?_, hs⟩
    have : m[j]? = some (nth m j) := by simp [nth, hj]
    exact List.mem_of_getElem? this
  rw [h] at h2; cases h2

/-- What the parser sees of a field without quotes. -/
theorem plain_at {W : World} {S : Nat → ByteArray} {n k q nb bb ob : Nat} (hA : At S n k q) (hnb : nb = (rowTo S n).length) (hcsv : csv (sl (S k)) = sl (S k))
    (hbody : ∀ i, i < nb → W.cell? ⟨bb, ob + i, none⟩ = some (.int .u8 (nth (rowTo S n) i))) :
    (rowTo S (k + 1)).length = q + (S k).size ∧ q + (S k).size ≤ nb ∧ (∀ i, i < (S k).size → W.cell? ⟨bb, ob + (q + i), none⟩ = some (.int .u8 (nth (sl (S k)) i))) ∧
      (q + (S k).size < nb → W.cell? ⟨bb, ob + (q + (S k).size), none⟩ = some (.int .u8 44)) := by
  have hl : (csv (sl (S k))).length = (S k).size := by rw [hcsv, sl_length]
  have h1 := hA.next
  have h2 := hA.le
  rw [hl] at h1 h2
  refine ⟨h1, by omega, fun i hi => ?_, fun hlt => ?_⟩
  · have h3 := hA.inside i (by omega)
    rw [hcsv] at h3
    rw [← h3]
    exact hbody (q + i) (by omega)
  · have h3 := hA.behind (by omega)
    rw [hl] at h3
    rw [← h3]
    exact hbody _ hlt

/-- 'body[start:pos]', pos a number of its own. -/
theorem mid_run' (b o n c q m x : Nat) (hx : x = q + m) (hq : q + m ≤ n) (hc : n ≤ c) : ∃ a4 c4, (∀ wx : World,
    (Instr.slice 22 (.slice (some ⟨b, o, none⟩) n c) (some (.int .i64 (q : Int))) (some (.int .i64 (x : Int))) none).run Trym.prog wx = .ok (.slice a4 m c4) wx) ∧ (0 < m → a4 = some ⟨b, o + q, none⟩) := by
  subst hx
  obtain ⟨a4, c4, h⟩ := mid_run b o n c q m hq hc
  exact ⟨a4, c4, fun wx => (h wx).1, (h default).2⟩

structure P5 (w : World) (e : Ending) (w' : World) : Prop where
  out : e = .returned (.bool true) ∧ Below w.heap.size w w'

set_option maxHeartbeats 8000000 in
set_option maxRecDepth 100000 in
theorem f5_any (a1 : Option Addr) (n1 c1 : Nat) (l : List Int) (a : Option Addr) (n c : Nat) (S : Nat → ByteArray) (w : World) (h1 : Rd w a1 n1 l) (hnil1 : a1 = none → n1 = 0 ∧ c1 = 0) (h : Fs w a n S) (hnil : a = none → n = 0 ∧ c = 0)
    (hn1 : n1 ≤ 9223372036854775807) (hn : n ≤ 9223372036854775807) (hS : ∀ i, i < n → (S i).size ≤ 9223372036854775807) :
    Calls Trym.prog 5 #[.slice a1 n1 c1, .slice a n c] w (P5 w) := by
  have H18 := hide (f18_any a1 n1 c1 a n c S w h hn1 hn hS)
  have HR1 := hide h1
  have HF := hide h
  clear h1 h hS hn hn1
  go_enter Trym.func5, Trym.ntmps5
  go_wp2_with fail
  refine (unhide H18).mono ?_
  rintro e w' ⟨b, rfl, hw, hb⟩
  obtain rfl := hw.symm
  clear H18
  cases b with
  | false =>
    go_wp2
    go_ret
    exact ⟨⟨rfl, Below.refl _ _⟩⟩
  | true =>
    have hsum := hb rfl
    clear hb
    go_wp2_with fail
    refine (f19_any _ _ _ _ _ _ S _ (unhide HF) (by omega) (fun i hi => by have := size_le_sum S hi; omega)).mono ?_
    rintro e w' ⟨b, rfl, hw⟩
    obtain rfl := hw.symm
    cases b with
    | false =>
      go_wp2
      go_ret
      exact ⟨⟨rfl, Below.refl _ _⟩⟩
    | true =>
      have hln := (unhide HR1).len
      have HLN := hide hln
      clear hln
      go_wp2_with fail
      refine (f10_any a1 n1 c1 l w (unhide HR1) hnil1 (by omega)).mono ?_
      rintro e w1 ⟨v1, rfl, hO1⟩
      have HO1 := hide hO1
      clear hO1
      go_wp2_with fail
      refine (f10_any a1 n1 c1 l w1 ((unhide HR1).grown (unhide HO1).kept) hnil1 (by omega)).mono ?_
      rintro e w2 ⟨v2, rfl, hO2⟩
      have HO2 := hide hO2
      clear hO2
      go_wp2_with fail
      refine (f20_any a n c S w2 (((unhide HF).grown (unhide HO1).kept).grown (unhide HO2).kept) hnil (by omega)).mono ?_
      rintro e w3 ⟨af, cf, rfl, hF3, hg3, hlo3⟩
      have hlo1 : ∀ k, v1.ownBlock = some k → k < w1.heap.size := fun k hk => ((unhide HO1).own.lt k hk).2
      have hlo2 := spot_lo (unhide HO2)
      have hhi2 : ∀ k, v2.ownBlock = some k → k < w2.heap.size := fun k hk => ((unhide HO2).own.lt k hk).2
      have hsep : ∀ b o, af = some ⟨b, o, none⟩ → some b ≠ v2.ownBlock := fun b o e e2 => by
        have := hlo3 b o e
        have := hhi2 b e2.symm
        omega
      have H21 := hide (f21_any v2 l af n cf S w3 (own_later (unhide HO2).own hg3) hF3 hsep (by have := unhide HLN; omega))
      have HF3 := hide hF3
      have HG3 := hide hg3
      have HSEP := hide hsep
      have HLO1 := hide hlo1
      have HLO2 := hide hlo2
      clear hF3 hg3 hsep hlo1 hlo2 hlo3 hhi2
      go_wp2_with fail
      refine (unhide H21).mono ?_
      rintro e w4 ⟨v4, rfl, hO4⟩
      clear H21
      have hB4 : Below w.heap.size w w4 := by
        have s1 := (unhide HO1).kept.size
        have s2 := (unhide HO2).kept.size
        have s3 := (unhide HG3).size
        refine (below_of_grown (unhide HO1).kept (Nat.le_refl _) (fun k e => by cases e)).trans ((below_of_grown (unhide HO2).kept s1 (fun k e => by cases e)).trans ((below_of_grown (unhide HG3) (by omega) (fun k e => by cases e)).trans (below_of_grown hO4.kept (by omega) (fun k e => ?_))))
        have := unhide HLO2 k e
        omega
      have hown1 : w4.ownsRow 0 5 1 v1 l.length (B l) := (own_later (own_later (unhide HO1).own (unhide HO2).kept) (unhide HG3)).kept hO4.kept (by
        cases hv : v1.ownBlock with
        | none => exact .inl rfl
        | some k =>
          right
          intro e
          have := unhide HLO2 k e.symm
          have := unhide HLO1 k hv
          omega)
      have hF4 : Fs w4 af n S := ⟨fun h0 => by
        obtain ⟨b, o, e, hc⟩ := (unhide HF3).at' h0
        exact ⟨b, o, e, fun i hi => hO4.kept.cell (hc i hi) (unhide HSEP b o e)⟩⟩
      have hO4' : w4.ownsRow 0 5 1 v4 (l ++ (rowTo S n ++ [10])).length (B (l ++ (rowTo S n ++ [10]))) := by rw [← List.append_assoc]; exact hO4.own
      obtain ⟨aw, nw, cw, rfl, hcw, hmw, hRw⟩ := rd_of_own2 hown1
      obtain ⟨ao, no, co, rfl, hco, hmo, hRo⟩ := rd_of_own2 hO4'
      obtain ⟨at4, nt, ct, hsl, hRt, hct, hmt⟩ := tail_rd hRo hRw hco hmo
      have hle : nw ≤ no := by have := hRw.len; have := hRo.len; simp at this; omega
      have hntl : nt = (rowTo S n).length + 1 := by rw [hRt.len]; simp
      obtain ⟨bb, ob, rfl, hcb⟩ := hRt.at' (by omega)
      have hrl := rowTo_len S n
      have HRw := hide hRw
      have HRo := hide hRo
      have HB4 := hide hB4
      have HF4 := hide hF4
      have HCB := hide hcb
      have HNT := hide hntl
      have hnt1 : 1 ≤ nt := by omega
      have hnt2 : nt ≤ 16777216 := by omega
      clear hRw hRo hRt hcb hB4 hF4 hO4 hO4' hown1 hntl HO1 HO2 HG3 HSEP HLO1 HLO2 HF3 HF HR1
      go_wp2_with fail
      refine (f12_yes _ _ _ _ _ _ l (rowTo S n ++ [10]) _ (unhide HRo) (unhide HRw) (by omega)).mono ?_
      rintro e W ⟨rfl, hQ⟩
      have hcl : W.cell? ⟨bb, ob + (nt - 1), none⟩ = some (.int .u8 10) := by
        have h2 := unhide HCB (nt - 1) (by omega)
        rw [show nt - 1 = (rowTo S n).length + 0 from by have := unhide HNT; omega, nth_append_right] at h2
        rw [show nt - 1 = (rowTo S n).length + 0 from by have := unhide HNT; omega]
        exact hQ.cell h2
      have hini := init_run bb ob nt ct hnt1 hct
      obtain ⟨nb, hnb⟩ : ∃ nb, nb = nt - 1 := ⟨_, rfl⟩
      have HBODY : Hid (∀ i, i < nb → W.cell? ⟨bb, ob + i, none⟩ = some (.int .u8 (nth (rowTo S n) i))) := fun i hi => by
        have h2 := unhide HCB i (by omega)
        rw [nth_append_left _ _ (by have := unhide HNT; omega)] at h2
        exact hQ.cell h2
      have HNB : Hid (nb = (rowTo S n).length) := by show _ = _; have := unhide HNT; omega
      have hnb2 : nb ≤ 16777216 := by omega
      have hnbc : nb ≤ ct := by omega
      have HB := hide (Below.qt (unhide HB4) hQ)
      have HFS : Hid (Fs W af n S) := ⟨fun h0 => by
        obtain ⟨b, o, e, hc⟩ := (unhide HF4).at' h0
        exact ⟨b, o, e, fun i hi => hQ.cell (hc i hi)⟩⟩
      rw [← hnb] at hini
      have HHNB := hide hnb
      clear hnb hQ HCB HNT HRo HRw HB4 HF4 hct hmt hrl
      rcases Nat.eq_zero_or_pos n with h0 | h0
      · subst h0
        have hnb0 : ((nb : Int) == 0) = true := by have := unhide HNB; rw [this]; simp [rowTo]
        go_wp2
        go_ret
        exact ⟨⟨rfl, unhide HB⟩⟩
      · obtain ⟨bf, of', rfl, hcf⟩ := (unhide HFS).at' h0
        have HCF := hide hcf
        have hn0 : ((n : Int) == 0) = false := by simp; omega
        have hnt0 : ((nt : Int) == 0) = false := by simp; omega
        clear hcf HFS
        go_wp2
        clear hcl hini hsl hle hcw hmw hco hmo
        go_loopw [9, 10] (fun pos i wr => ∃ k p : Nat, k ≤ n ∧ p = (rowTo S k).length ∧ pos = .int .i64 p ∧ i = .int .i64 k ∧ W.grownBy wr none) (fun _ i _ => n - (intOf i).toNat)
        case atStart => exact ⟨0, 0, Nat.zero_le _, rfl, rfl, rfl, grownBy_refl _ _⟩
        case round =>
          obtain ⟨k, p, hk, hp, rfl, rfl, hg⟩ := hrel
          have HP := hide hp
          have HG := hide hg
          clear hp hg
          by_cases hlt : k < n
          · obtain ⟨wk, hwk⟩ : ∃ wk, wk = wr := ⟨_, rfl⟩
            subst hwk
            have HA := hide (at_field S hlt)
            obtain ⟨q, hq⟩ : ∃ q, q = (rowTo S k).length + (sep k).length := ⟨_, rfl⟩
            rw [← hq] at HA
            have HQ := hide hq
            clear hq
            have hfc : wk.cell? ⟨bf, of' + k, none⟩ = some (.string (S k)) := grown_cell (unhide HG) (unhide HCF k hlt)
            have hql : q ≤ nb := by have := (unhide HA).le; have := unhide HNB; omega
            have hsk : (S k).size ≤ 1048576 := by have := size_le_sum S hlt; omega
            go_upto_if 70 with fail
            go_cut [9] (fun s wc => wk = wc ∧ s = .int .i64 (q : Int))
            case first =>
              by_cases hk0 : 0 < k
              · have hpl : p < nb := by have := ((unhide HA).comma hk0).1; have := unhide HNB; have := unhide HP; omega
                have hcomma : wk.cell? ⟨bb, ob + p, none⟩ = some (.int .u8 44) := by
                  have h2 := unhide HBODY p hpl
                  rw [unhide HP, ((unhide HA).comma hk0).2] at h2
                  rw [unhide HP]
                  exact grown_cell (unhide HG) h2
                have hqp : q = p + 1 := by
                  have h1 := unhide HQ
                  rw [sep, if_pos hk0] at h1
                  simp at h1
                  have := unhide HP
                  omega
                have HQP := hide hqp
                clear hqp
                go_wp2
                go_meet
                exact ⟨rfl, by rw [unhide HQP]; go_num⟩
              · have hqp : q = p := by
                  have h1 := unhide HQ
                  rw [sep, if_neg hk0] at h1
                  simp at h1
                  have := unhide HP
                  omega
                have HQP := hide hqp
                clear hqp
                go_wp2
                go_meet
                exact ⟨rfl, by rw [unhide HQP]⟩
            case rest =>
              obtain ⟨rfl, rfl⟩ := hcut
              by_cases hne : needs (sl (S k)) = true
              · have hcsv : csv (sl (S k)) = 34 :: (dbl (sl (S k)) ++ [34]) := by unfold csv; rw [if_pos hne]
                have HCSV := hide hcsv
                have hL : (csv (sl (S k))).length = (dbl (sl (S k))).length + 2 := by rw [hcsv]; simp
                have HL := hide hL
                have hql2 : q + (dbl (sl (S k))).length + 2 ≤ nb := by have := (unhide HA).le; have := unhide HNB; omega
                have hqn : q < nb := by omega
                have hc34 : wk.cell? ⟨bb, ob + q, none⟩ = some (.int .u8 34) := by
                  have h2 := unhide HBODY q hqn
                  have h3 := (unhide HA).inside 0 (by omega)
                  rw [Nat.add_zero] at h3
                  rw [h3, unhide HCSV] at h2
                  exact grown_cell (unhide HG) h2
                have hmk := make0 (S k).size (by omega)
                have HO0 := hide (owns_make0 wk (S k).size (by unfold maxLen; omega))
                clear hcsv hL
                go_wp2
                clear hmk hc34
                go_loopw [9, 12, 13] (fun pos val cl wr => ∃ j x : Nat, j ≤ (sl (S k)).length ∧ x = q + (1 + dlen (sl (S k)) j) ∧ pos = .int .i64 x ∧ cl = .bool false ∧ Owns wk wr none val ((sl (S k)).take j)) (fun pos _ _ _ => nb - (intOf pos).toNat)
                case atStart => exact ⟨0, q + 1, Nat.zero_le _, rfl, by go_num, rfl, unhide HO0⟩
                case round =>
                  obtain ⟨j, x, hj, hx, rfl, rfl, hO⟩ := hrel
                  have HX := hide hx
                  have HOj := hide hO
                  have hle := dlen_le (sl (S k)) j
                  have htl : ((sl (S k)).take j).length ≤ 1099511627776 := by have := List.length_take_le j (sl (S k)); have := sl_length (S k); omega
                  clear hx hO HO0
                  by_cases hjl : j < (sl (S k)).length
                  · have hxn : x < nb := by have := unhide HX; omega
                    have g1 : wr.cell? ⟨bb, ob + x, none⟩ = some (.int .u8 (nth (sl (S k)) j)) := by
                      have h2 := unhide HBODY x hxn
                      have h3 := (unhide HA).inside (1 + dlen (sl (S k)) j) (by have := unhide HL; omega)
                      rw [unhide HX, h3, unhide HCSV, nth_cons_succ, nth_dbl _ _ hjl] at h2
                      rw [unhide HX]
                      exact grown_cell (unhide HOj).kept (grown_cell (unhide HG) h2)
                    have hle1 := dlen_le (sl (S k)) (j + 1)
                    have HT := hide (take_succ_nth (sl (S k)) hjl)
                    by_cases hq34 : nth (sl (S k)) j = 34
                    · have HD : Hid (dlen (sl (S k)) (j + 1) = dlen (sl (S k)) j + 2) := dlen_q _ hjl hq34
                      have hx2 : x + 2 < nb := by have := unhide HX; have := unhide HD; omega
                      have g2 : wr.cell? ⟨bb, ob + (x + 1), none⟩ = some (.int .u8 34) := by
                        have h2 := unhide HBODY (x + 1) (by omega)
                        have h3 := (unhide HA).inside (1 + (dlen (sl (S k)) j + 1)) (by have := unhide HL; have := unhide HD; omega)
                        rw [show x + 1 = q + (1 + (dlen (sl (S k)) j + 1)) from by have := unhide HX; omega, h3, unhide HCSV, nth_cons_succ, nth_dbl_q _ _ hjl hq34] at h2
                        rw [show x + 1 = q + (1 + (dlen (sl (S k)) j + 1)) from by have := unhide HX; omega]
                        exact grown_cell (unhide HOj).kept (grown_cell (unhide HG) h2)
                      rw [hq34] at g1 HT
                      clear hq34 hle hle1
                      go_wp2_with (at_builtin; refine app1 rfl (.tmp 126) (.tmp 127) rfl wk wr none _ _ 34 (unhide HOj) rfl rfl htl ?_; intro v5 w5 hO5)
                      go_roundw
                      case rel => exact ⟨j + 1, x + 2, by omega, by have := unhide HX; have := unhide HD; omega, by go_num, rfl, by rw [unhide HT]; exact unhide hO5⟩
                      case measure => simp [intOf]; omega
                    · have HD : Hid (dlen (sl (S k)) (j + 1) = dlen (sl (S k)) j + 1) := dlen_n _ hjl hq34
                      have hx2 : x + 1 < nb := by have := unhide HX; have := unhide HD; omega
                      have hqb : (nth (sl (S k)) j == 34) = false := by simpa using hq34
                      clear hq34 hle hle1
                      go_wp2_with (at_builtin; refine app1 rfl (.tmp 133) (.tmp 138) rfl wk wr none _ _ (nth (sl (S k)) j) (unhide HOj) rfl rfl htl ?_; intro v5 w5 hO5)
                      go_roundw
                      case rel => exact ⟨j + 1, x + 1, by omega, by have := unhide HX; have := unhide HD; omega, by go_num, rfl, by rw [unhide HT]; exact unhide hO5⟩
                      case measure => simp [intOf]; omega
                  · have hjm : j = (sl (S k)).length := by omega
                    have hxe : x = q + (1 + (dbl (sl (S k))).length) := by have h2 := unhide HX; rw [hjm, dlen_all] at h2; exact h2
                    have hOm := unhide HOj
                    rw [List.take_of_length_le (by omega)] at hOm
                    obtain ⟨av, nv, cv, rfl, _, _, hRv⟩ := rd_of_own2 hOm.own
                    have HXE := hide hxe
                    have HRV := hide hRv
                    have HKEPT := hide hOm.kept
                    have hxn : x < nb := by omega
                    have g1 : wr.cell? ⟨bb, ob + x, none⟩ = some (.int .u8 34) := by
                      have h2 := unhide HBODY x hxn
                      have h3 := (unhide HA).inside (1 + (dbl (sl (S k))).length) (by have := unhide HL; omega)
                      rw [unhide HXE, h3, unhide HCSV, nth_cons_succ, nth_dbl_end] at h2
                      rw [unhide HXE]
                      exact grown_cell (unhide HKEPT) (grown_cell (unhide HG) h2)
                    have g3 : wr.cell? ⟨bf, of' + k, none⟩ = some (.string (S k)) := grown_cell (unhide HKEPT) hfc
                    have HN1 : Hid (x + 1 = (rowTo S (k + 1)).length) := by
                      show _ = _
                      have h2 := (unhide HA).next
                      have := unhide HL
                      omega
                    have HNE := hide hne
                    clear hjm hxe hOm hRv hle htl HOj hne hjl
                    by_cases hend : x + 1 < nb
                    · have g2 : wr.cell? ⟨bb, ob + (x + 1), none⟩ = some (.int .u8 44) := by
                        have h2 := unhide HBODY (x + 1) hend
                        have h3 := (unhide HA).behind (by have := unhide HL; have := unhide HNB; have := unhide HXE; omega)
                        rw [show x + 1 = q + (csv (sl (S k))).length from by have := unhide HL; have := unhide HXE; omega, h3] at h2
                        rw [show x + 1 = q + (csv (sl (S k))).length from by have := unhide HL; have := unhide HXE; omega]
                        exact grown_cell (unhide HKEPT) (grown_cell (unhide HG) h2)
                      go_wp2_with (first | (go_at_call 13; refine (f13_t _ _ hsk (unhide HNE)).mono ?_; rintro e w' ⟨rfl, hw6⟩; obtain rfl := hw6.symm) | (go_at_call 14; refine (f14_q _ _ _ _ _ (unhide HRV) hsk).mono ?_; rintro e w6 ⟨rfl, hQ6⟩; have HQ6 := hide hQ6; clear hQ6))
                      go_roundw
                      case rel => exact ⟨k + 1, x + 1, by omega, unhide HN1, by go_num, by go_num, grown_qt (grownBy_trans (unhide HG) (unhide HKEPT) (.inl rfl)) ⟨unhide HQ6⟩⟩
                      case measure => simp [intOf]; omega
                    · go_wp2_with (first | (go_at_call 13; refine (f13_t _ _ hsk (unhide HNE)).mono ?_; rintro e w' ⟨rfl, hw6⟩; obtain rfl := hw6.symm) | (go_at_call 14; refine (f14_q _ _ _ _ _ (unhide HRV) hsk).mono ?_; rintro e w6 ⟨rfl, hQ6⟩; have HQ6 := hide hQ6; clear hQ6))
                      go_roundw
                      case rel => exact ⟨k + 1, x + 1, by omega, unhide HN1, by go_num, by go_num, grown_qt (grownBy_trans (unhide HG) (unhide HKEPT) (.inl rfl)) ⟨unhide HQ6⟩⟩
                      case measure => simp [intOf]; omega
              · have hnf : needs (sl (S k)) = false := by simpa using hne
                have hcsv : csv (sl (S k)) = sl (S k) := by unfold csv; rw [if_neg hne]
                have HNF := hide hnf
                have HSL := hide (sl_length (S k))
                obtain ⟨hN, hqe, hins, hbeh⟩ := plain_at (unhide HA) (unhide HNB) hcsv (unhide HBODY)
                have HN := hide hN
                have HINS : Hid (∀ i, i < (S k).size → wk.cell? ⟨bb, ob + (q + i), none⟩ = some (.int .u8 (nth (sl (S k)) i))) := fun i hi => grown_cell (unhide HG) (hins i hi)
                have HBEH : Hid (q + (S k).size < nb → wk.cell? ⟨bb, ob + (q + (S k).size), none⟩ = some (.int .u8 44)) := fun h => grown_cell (unhide HG) (hbeh h)
                clear hN hins hbeh hcsv hnf hne
                go_upto_region 26 with fail
                go_cut [95] (fun s wc => wk = wc ∧ s = .bool false)
                case first =>
                  by_cases hqn : q < nb
                  · obtain ⟨y, hy, hyb⟩ : ∃ y, wk.cell? ⟨bb, ob + q, none⟩ = some (.int .u8 y) ∧ (y == 34) = false := by
                      by_cases hz : 0 < (S k).size
                      · refine ⟨_, by have := unhide HINS 0 hz; rwa [Nat.add_zero] at this, ?_⟩
                        exact (spec_none (needs_nth (unhide HNF) (by have := unhide HSL; omega))).2.1
                      · have hz0 : (S k).size = 0 := by omega
                        have h2 := unhide HBEH (by omega)
                        rw [hz0, Nat.add_zero] at h2
                        exact ⟨_, h2, rfl⟩
                    go_wp2
                    go_meet
                    exact ⟨rfl, rfl⟩
                  · go_wp2
                    go_meet
                    exact ⟨rfl, rfl⟩
                case rest =>
                  obtain ⟨rfl, rfl⟩ := hcut
                  go_wp2
                  go_loop [9] (fun pos => ∃ j x : Nat, j ≤ (S k).size ∧ x = q + j ∧ pos = .int .i64 x) (fun pos => nb - (intOf pos).toNat)
                  case atStart => exact ⟨0, q, Nat.zero_le _, rfl, rfl⟩
                  case round =>
                    obtain ⟨j, x, hj, hx, rfl⟩ := hrel
                    have HX := hide hx
                    have hxle : x ≤ nb := by omega
                    by_cases hjl : j < (S k).size
                    · have hxn : x < nb := by omega
                      have g1 : wk.cell? ⟨bb, ob + x, none⟩ = some (.int .u8 (nth (sl (S k)) j)) := by rw [unhide HX]; exact unhide HINS j hjl
                      obtain ⟨t1, t2, t3, t4⟩ := spec_none (needs_nth (unhide HNF) (j := j) (by have := unhide HSL; omega))
                      have t5 : (nth (sl (S k)) j != 44) = true := by rw [bne, t1]; rfl
                      clear hx
                      go_wp2
                      go_round
                      case rel => exact ⟨j + 1, x + 1, by omega, by have := unhide HX; omega, by go_num⟩
                      case measure => simp [intOf]; omega
                    · obtain ⟨a4, c4, hmid, ha4⟩ := mid_run' bb ob nb ct q (S k).size x (by omega) hqe hnbc
                      have HR4 : Hid (Rd wk a4 (S k).size (sl (S k))) := ⟨(unhide HSL).symm, fun h0 => ⟨bb, ob + q, ha4 h0, fun i hi => by rw [Nat.add_assoc]; exact unhide HINS i hi⟩⟩
                      have HXE : Hid (x = q + (S k).size) := by show _ = _; omega
                      clear hx ha4
                      by_cases hend : x < nb
                      · have g1 : wk.cell? ⟨bb, ob + x, none⟩ = some (.int .u8 44) := by rw [unhide HXE]; exact unhide HBEH (by have := unhide HXE; omega)
                        go_wp2
                        go_quiet ((first | (go_at_call 13; exact Calls.quiet_of_same (f13_f _ _ hsk (unhide HNF))) | (go_at_call 14; exact Calls.quiet_of (f14_q _ _ _ _ _ ((unhide HR4).drewN _) hsk))))
                        go_wp2
                        go_roundw
                        case rel => exact ⟨k + 1, x, by omega, by rw [unhide HN]; exact unhide HXE, rfl, by go_num, grownBy_drewN (unhide HG) nq⟩
                        case measure => simp [intOf]; omega
                      · go_wp2
                        go_quiet ((first | (go_at_call 13; exact Calls.quiet_of_same (f13_f _ _ hsk (unhide HNF))) | (go_at_call 14; exact Calls.quiet_of (f14_q _ _ _ _ _ ((unhide HR4).drewN _) hsk))))
                        go_wp2
                        go_roundw
                        case rel => exact ⟨k + 1, x, by omega, by rw [unhide HN]; exact unhide HXE, rfl, by go_num, grownBy_drewN (unhide HG) nq⟩
                        case measure => simp [intOf]; omega
          · have hk' : k = n := by omega
            subst hk'
            have hpe : ((p : Int) == (nb : Int)) = true := by
              have h1 := unhide HP
              have h2 := unhide HNB
              rw [h1, h2]; simp
            have HF := hide (below_of_grown (unhide HG) (unhide HB).size (fun k e => by cases e))
            go_wp2
            go_ret
            exact ⟨⟨rfl, (unhide HB).trans (unhide HF)⟩⟩
end Go.Proofs.Qxb6000068aMods
