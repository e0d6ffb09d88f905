/- zzCopyInts. -/
import Derived.Test.Qxb6000048aModsMem
namespace Go.Proofs.Qxb6000048aMods
open Go.RowKit

theorem Trym.info3 : (Trym.prog.info? 3).map (fun i => (i.zero, i.size, i.bytes)) = some (some (.int .i64 0), 1, 8) := by kernel_rfl
theorem Trym.info27 : (Trym.prog.info? 27).map (fun i => (i.zero, i.size, i.bytes)) = some (some (.slice none 0 0), 1, 24) := by kernel_rfl
theorem Trym.size3 : (Trym.prog.info? 3).map (·.size) = some 1 := by kernel_rfl

structure P11 (w : World) (len : Nat) (L : Nat → Nat) (Z : Nat → Nat → Int) (e : Ending) (w' : World) : Prop where
  out : ∃ a' A' C', e = .returned (.slice a' len len) ∧ Tab w' a' len A' L C' Z ∧ Below w.heap.size w w'

/-- k rows are copied. -/
structure CopyAt (w wr : World) (len k : Nat) (L : Nat → Nat) (Z : Nat → Nat → Int) : Prop where
  below : Below w.heap.size w wr
  lt : w.heap.size < wr.heap.size
  out : ∃ (A' : Nat → Option Addr) (C' : Nat → Nat), wr.rowIs w.heap.size 27 len (fun r => if r < k then .slice (A' r) (L r) (C' r) else .slice none 0 0) ∧
    ∀ r, r < k → 0 < L r → ∃ b, A' r = some ⟨b, 0, none⟩ ∧ w.heap.size < b ∧ wr.rowIs b 3 (L r) (fun c => .int .i64 (Z r c))

theorem copy_start (w : World) (len : Nat) (L : Nat → Nat) (Z : Nat → Nat → Int) : CopyAt w (w.alloc (.cells (madeCells #[.slice none 0 0] len) 27)) len 0 L Z :=
  ⟨(Below.refl _ _).alloc (Nat.le_refl _) _, by simp, fun _ => none, fun _ => 0, (World.rowIs_made w _ len 27).congr (fun j _ => by simp), fun r hr => absurd hr (Nat.not_lt_zero _)⟩

theorem copy_nil {w wr : World} {len k : Nat} {L : Nat → Nat} {Z : Nat → Nat → Int} (h : CopyAt w wr len k L Z) (hk : k < len) (h0 : L k = 0) : CopyAt w wr len (k + 1) L Z := by
  obtain ⟨A', C', ht, hr⟩ := h.out
  refine ⟨h.below, h.lt, fun r => if r = k then none else A' r, fun r => if r = k then 0 else C' r, ht.congr (fun j _ => ?_), fun r hr1 hL => ?_⟩
  · by_cases e : j = k
    · subst e; simp [h0]
    · by_cases hlt : j < k
      · have h3 : j < k + 1 := by omega
        simp [hlt, h3, e]
      · have h3 : ¬ j < k + 1 := by omega
        simp [hlt, h3]
  · have hne : r ≠ k := fun e => by subst e; omega
    obtain ⟨b, e, hb, hrow⟩ := hr r (by omega) hL
    exact ⟨b, by simp [hne, e], hb, hrow⟩

/-- The world when 'out[k]' has been made. -/
def madeAt (w wr : World) (k n : Nat) : World :=
  (wr.alloc (.cells (madeCells #[.int .i64 0] n) 3)).setCell ⟨w.heap.size, k, none⟩ (.slice (some ⟨wr.heap.size, 0, none⟩) n n)

theorem made_row {w wr : World} {len k : Nat} {L : Nat → Nat} {Z : Nat → Nat → Int} (h : CopyAt w wr len k L Z) (n : Nat) : (madeAt w wr k n).rowIs wr.heap.size 3 n (fun _ => .int .i64 0) :=
  (World.rowIs_made wr _ n 3).setOther (by have := h.lt; show wr.heap.size ≠ w.heap.size; omega) _
theorem made_top {w wr : World} {len k : Nat} {L : Nat → Nat} {Z : Nat → Nat → Int} (h : CopyAt w wr len k L Z) (hk : k < len) (n : Nat) : (madeAt w wr k n).cell? ⟨w.heap.size, k, none⟩ = some (.slice (some ⟨wr.heap.size, 0, none⟩) n n) := by
  obtain ⟨A', C', ht, hr⟩ := h.out
  have := ((ht.alloc (.cells (madeCells #[.int .i64 0] n) 3)).set k (.slice (some ⟨wr.heap.size, 0, none⟩) n n)).cell hk
  rw [madeAt, this, if_pos rfl]
theorem made_old {w wr : World} {len k : Nat} {L : Nat → Nat} {Z : Nat → Nat → Int} (h : CopyAt w wr len k L Z) (n : Nat) {b o : Nat} {v : Value} (hc : w.cell? ⟨b, o, none⟩ = some v) : (madeAt w wr k n).cell? ⟨b, o, none⟩ = some v := by
  have hb : Below w.heap.size w (madeAt w wr k n) := (h.below.alloc (Nat.le_of_lt h.lt) _).setCell (Nat.le_refl _) _
  exact Below.cellOf hb (Nat.le_refl _) hc

theorem copy_row {w wr w2 : World} {len k : Nat} {L : Nat → Nat} {Z : Nat → Nat → Int} (h : CopyAt w wr len k L Z)
    (h1 : Only wr.heap.size (madeAt w wr k (L k)) w2) (h2 : w2.rowIs wr.heap.size 3 (L k) (fun c => .int .i64 (Z k c))) : CopyAt w w2 len (k + 1) L Z := by
  obtain ⟨A', C', ht, hr⟩ := h.out
  have hlt := h.lt
  have hb : Below w.heap.size w (madeAt w wr k (L k)) := (h.below.alloc (Nat.le_of_lt h.lt) _).setCell (Nat.le_refl _) _
  have hsz : (madeAt w wr k (L k)).heap.size = wr.heap.size + 1 := by simp [madeAt]
  refine ⟨hb.trans (h1.below (by omega)), by rw [h1.size, hsz]; omega, fun r => if r = k then some ⟨wr.heap.size, 0, none⟩ else A' r, fun r => if r = k then L k else C' r, ?_, fun r hr1 hL => ?_⟩
  · have t1 := (ht.alloc (.cells (madeCells #[.int .i64 0] (L k)) 3)).set k (.slice (some ⟨wr.heap.size, 0, none⟩) (L k) (L k))
    refine (t1.of_block (h1.block _ (by omega))).congr (fun j _ => ?_)
    by_cases e : j = k
    · subst e; simp
    · rw [if_neg e]
      by_cases hlt : j < k
      · have h3 : j < k + 1 := by omega
        simp [hlt, h3, e]
      · have h3 : ¬ j < k + 1 := by omega
        simp [hlt, h3]
  · by_cases e : r = k
    · subst e
      exact ⟨wr.heap.size, by simp, hlt, h2⟩
    · obtain ⟨b, e1, hb1, hrow⟩ := hr r (by omega) hL
      have hbl := hrow.lt
      refine ⟨b, by simp [e, e1], hb1, ?_⟩
      exact ((hrow.alloc _).setOther (by show b ≠ w.heap.size; omega) _).of_block (h1.block _ (by omega))

theorem copy_done {w wr : World} {len : Nat} {L : Nat → Nat} {Z : Nat → Nat → Int} (h : CopyAt w wr len len L Z) : P11 w len L Z (.returned (.slice (some ⟨w.heap.size, 0, none⟩) len len)) wr := by
  obtain ⟨A', C', ht, hr⟩ := h.out
  refine ⟨⟨_, A', C', rfl, ⟨fun _ => ⟨w.heap.size, 0, rfl, fun r hr1 => ?_⟩, fun r hr1 hL => ?_⟩, h.below⟩⟩
  · rw [Nat.zero_add, ht.cell hr1, if_pos hr1]
  · obtain ⟨b, e, _, hrow⟩ := hr r hr1 hL
    exact ⟨b, 0, e, fun c hc => by rw [Nat.zero_add]; exact hrow.cell hc⟩

set_option maxHeartbeats 1000000 in
theorem f11_any (a : Option Addr) (len cap : Nat) (A : Nat → Option Addr) (L C : Nat → Nat) (Z : Nat → Nat → Int) (w : World) (h : Tab w a len A L C Z)
    (hlen : len ≤ 1048576) (hL : ∀ r, r < len → L r ≤ 1048576) :
    Calls Trym.prog 11 #[.slice a len cap] w (P11 w len L Z) := by
  have q1 := fun wx => Lib.run_eql_slice_nil (P := Trym.prog) wx 22 27 a len cap 0 0 Trym.underlying22
  have hmk := run_make_row' (P := Trym.prog) 22 27 (.slice none 0 0) 24 Trym.underlying22 Trym.info27 rfl .i64 .i64 len (by omega) (by omega)
  cases a with
  | none =>
    have h0 : len = 0 := by
      rcases Nat.eq_zero_or_pos len with h0 | h0
      · exact h0
      · obtain ⟨b, o, e, _⟩ := h.top h0; cases e
    subst h0
    go_enter Trym.func11, Trym.ntmps11
    go_wp2
    go_ret
    exact ⟨⟨none, A, C, rfl, h, Below.refl _ _⟩⟩
  | some x =>
    rcases Nat.eq_zero_or_pos len with h0 | h0
    · subst h0
      have hs := copy_start w 0 L Z
      have HS := hide hs
      clear hs
      have hmk0 : ∀ w : World, (Instr.makeSlice 22 (.int .i64 0) (.int .i64 0)).run Trym.prog w = .ok (.slice (some ⟨w.heap.size, 0, none⟩) 0 0) (w.alloc (.cells (madeCells #[.slice none 0 0] 0) 27)) := hmk
      clear hmk
      go_enter Trym.func11, Trym.ntmps11
      go_wp2
      go_rounds 1
      go_ret
      exact copy_done (unhide HS)
    · obtain ⟨b, o, e, hc⟩ := h.top h0
      cases e
      have HC := hide hc
      have HL := hide hL
      have HROW := hide h.row
      clear hc hL h
      go_enter Trym.func11, Trym.ntmps11
      go_wp2
      clear q1 hmk
      go_loopw [12] (fun i wr => ∃ (k : Nat), k ≤ len ∧ i = .int .i64 k ∧ CopyAt w wr len k L Z) (fun i _ => len - (intOf i).toNat)
      case atStart => exact ⟨0, Nat.zero_le _, rfl, copy_start w len L Z⟩
      case round =>
        obtain ⟨k, hk, rfl, hI⟩ := hrel
        by_cases hlt : k < len
        · have hcell : wr.cell? ⟨b, o + k, none⟩ = some (.slice (A k) (L k) (C k)) := Below.cellOf hI.below (Nat.le_refl _) (unhide HC k hlt)
          have hLk := unhide HL k hlt
          have q2 := fun wx => run_neq_slice_nil_any (P := Trym.prog) wx 27 3 (A k) (L k) (C k) 0 0 Trym.underlying27
          by_cases hA : A k = none
          · have hz : L k = 0 := by
              rcases Nat.eq_zero_or_pos (L k) with hz | hz
              · exact hz
              · obtain ⟨_, _, e, _⟩ := unhide HROW k hlt hz; rw [hA] at e; cases e
            have hN := copy_nil hI hlt hz
            have HN := hide hN
            rw [hA] at hcell q2
            clear hN hA hI hz
            go_wp2
            go_roundw
            case rel => exact ⟨k + 1, by omega, by go_num, unhide HN⟩
            case measure => simp [intOf]; omega
          · obtain ⟨x, hx⟩ : ∃ x, A k = some x := by
              cases hq : A k with
              | none => exact absurd hq hA
              | some x => exact ⟨x, rfl⟩
            have hrow : 0 < L k → ∃ b q, some x = some ⟨b, q, none⟩ ∧ ∀ j, j < L k → w.cell? ⟨b, q + j, none⟩ = some (.int .i64 (Z k j)) := fun hz => by
              rw [← hx]; exact unhide HROW k hlt hz
            have HRW := hide hrow
            have HCK : Hid (w.cell? ⟨b, o + k, none⟩ = some (.slice (some x) (L k) (C k))) := by rw [← hx]; exact unhide HC k hlt
            rw [hx] at hcell q2
            clear hA hx hrow
            have hmk := run_make_row' (P := Trym.prog) 27 3 (.int .i64 0) 8 Trym.underlying27 Trym.info3 rfl .i64 .i64 (L k) (by omega) (by omega)
            have hst1 : ∃ v, ∀ o, (wr.alloc o).cell? ⟨w.heap.size, k, none⟩ = some v := by
              obtain ⟨A', C', ht, _⟩ := hI.out
              exact ⟨_, fun o => (ht.alloc o).cell hlt⟩
            obtain ⟨v0, hst1⟩ := hst1
            have hst2 : ∀ o, (wr.alloc o).frozen? ⟨w.heap.size, k, none⟩ = false := by
              obtain ⟨A', C', ht, _⟩ := hI.out
              exact fun o => (ht.alloc o).frozen k
            go_wp2
            obtain ⟨W1, hW1⟩ : ∃ W1, W1 = (wr.alloc (.cells (madeCells #[.int .i64 0] (L k)) 3)).setCell ⟨w.heap.size, k, none⟩ (.slice (some ⟨wr.heap.size, 0, none⟩) (L k) (L k)) := ⟨_, rfl⟩
            rw [← hW1]
            have g1 : W1.cell? ⟨w.heap.size, k, none⟩ = some (.slice (some ⟨wr.heap.size, 0, none⟩) (L k) (L k)) := by rw [hW1]; exact made_top hI hlt (L k)
            have g2 : W1.cell? ⟨b, o + k, none⟩ = some (.slice (some x) (L k) (C k)) := by
              rw [hW1]
              exact made_old hI (L k) (unhide HCK)
            have g3 : W1.rowIs wr.heap.size 3 (L k) (fun _ => .int .i64 0) := by rw [hW1]; exact made_row hI (L k)
            have g4 : 0 < L k → ∃ b q, some x = some ⟨b, q, none⟩ ∧ ∀ j, j < L k → W1.cell? ⟨b, q + j, none⟩ = some (.int .i64 (Z k j)) := fun hz => by
              obtain ⟨b', q', e, hc⟩ := unhide HRW hz
              exact ⟨b', q', e, fun j hj => by rw [hW1]; exact made_old hI (L k) (hc j hj)⟩
            have G3 := hide g3
            have G4 := hide g4
            have HW1 := hide hW1
            clear g3 g4 hW1 hst1 hst2 hmk q2 hcell
            go_region_law (refine step_copy_all rfl (.tmp 32) (.tmp 36) 27 27 rfl 3 Trym.underlying27 Trym.size3 wr.heap.size (L k) (L k) (some x) (C k) (by simp [Act.eval]) (by simp [Act.eval]) 3 (fun _ => .int .i64 0) (fun c => .int .i64 (Z k c)) (unhide G3) (unhide G4) (fun _ _ => rfl) ?_; intro w2 h2)
            all_goals go_wp2
            all_goals go_roundw
            all_goals first
              | (simp [intOf]; omega)
              | (have h3 := unhide h2; rw [unhide HW1] at h3; exact ⟨k + 1, by omega, by go_num, copy_row hI ⟨h3.1.os, h3.1.tape, h3.1.output, h3.1.size, h3.1.block⟩ h3.2⟩)
        · have hk' : k = len := by omega
          subst hk'
          go_wp2
          go_ret
          exact copy_done hI
end Go.Proofs.Qxb6000048aMods
