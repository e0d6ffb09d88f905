/- Memory: 'copy' of a whole row inside a region that draws; small laws on worlds. -/
import Derived.Test.Qxb6000048aModsTab
import Derived.Laws.CopyOwn
import Derived.Deep.OwnRows
import Derived.Deep.RegionLaw
import Derived.WalkSpells
namespace Go.Proofs.Qxb6000048aMods
open Go.RowKit

/-- All blocks but g are as they were; none has come. -/
structure Only (g : Nat) (w w' : World) : Prop where
  os : w'.os = w.os
  tape : w'.tape = w.tape
  output : w'.output = w.output
  size : w'.heap.size = w.heap.size
  block : ∀ k, k ≠ g → w'.heap[k]? = w.heap[k]?

theorem Only.below {g B : Nat} {w w' : World} (h : Only g w w') (hg : B ≤ g) : Below B w w' :=
  ⟨h.os, h.tape, h.output, by rw [h.size]; exact Nat.le_refl _, fun k hk => h.block k (by omega)⟩

theorem cell_of_block {w w' : World} {b o : Nat} {v : Value} (h : w'.heap[b]? = w.heap[b]?) (hc : w.cell? ⟨b, o, none⟩ = some v) : w'.cell? ⟨b, o, none⟩ = some v :=
  (World.cell?_of_block (w := w) (a := ⟨b, o, none⟩) h).trans hc

theorem Below.cellOf {B b o : Nat} {w w' : World} {v : Value} (h : Below B w w') (hB : w.heap.size ≤ B) (hc : w.cell? ⟨b, o, none⟩ = some v) : w'.cell? ⟨b, o, none⟩ = some v := by
  have hlt := block_lt_of_cell hc
  exact cell_of_block (h.block b (Nat.lt_of_lt_of_le hlt hB)) hc

theorem Below.row {B b n : Nat} {t : TypeId} {f : Nat → Value} {w w' : World} (h : Below B w w') (hb : b < B) (hc : w.rowIs b t n f) : w'.rowIs b t n f := hc.of_block (h.block b hb)

theorem Tab.below {w w' : World} {B : Nat} {a : Option Addr} {len : Nat} {A : Nat → Option Addr} {L C : Nat → Nat} {Z : Nat → Nat → Int} (h : Tab w a len A L C Z) (hb : Below B w w') (hB : w.heap.size ≤ B) : Tab w' a len A L C Z := by
  refine ⟨fun h0 => ?_, fun r hr h0 => ?_⟩
  · obtain ⟨b, o, e, hc⟩ := h.top h0
    exact ⟨b, o, e, fun r hr => Below.cellOf hb hB (hc r hr)⟩
  · obtain ⟨b, o, e, hc⟩ := h.row r hr h0
    exact ⟨b, o, e, fun c hc' => Below.cellOf hb hB (hc c hc')⟩

/-- 'copy(dst, src)', both of n elements, dst a whole row of the call's own: as one step of a region that draws. -/
theorem step_copy_all {P : Program} {ops : Array Oper} {o : Oper} {a : Act} {w : World} {K : Act → World → Prop} {Q : Exit → Act → World → Prop} {E : Prop} (hgd : o.guard = none) (d s : Operand) (dT sT : TypeId)
    (ho : o.op = .call { callee := .builtin .copy, args := #[d, s], argTypes := #[dT, sT] }) (elem : TypeId) (hu : P.underlying dT = some (.slice elem)) (hsz : (P.info? elem).map (·.size) = some 1)
    (g n dCap : Nat) (sp : Option Addr) (sCap : Nat) (hd : a.eval d = .slice (some ⟨g, 0, none⟩) n dCap) (hs : a.eval s = .slice sp n sCap)
    (t : TypeId) (f src : Nat → Value) (hg : w.rowIs g t n f) (hpos : 0 < n → ∃ b q, sp = some ⟨b, q, none⟩ ∧ ∀ j, j < n → w.cell? ⟨b, q + j, none⟩ = some (src j))
    (h1 : ∀ j, j < n → (src j).oneCell' = true) (h : ∀ w', Hid (Only g w w' ∧ w'.rowIs g t n src) → K (a.put o.dst (goInt n)) w') :
    if Region.wanted o (yielded ops a.tmps) = true then Oper.wp P o a w K Q else E := by
  have hw : Region.wanted o (yielded ops a.tmps) = true := by simp [Region.wanted, hgd]
  rw [if_pos hw]
  by_cases h0 : n = 0
  · subst h0
    have hrun := run_copy_none (P := P) w dT sT o.type elem (some ⟨g, 0, none⟩) sp 0 dCap 0 sCap hu hsz (by simp)
    unfold Oper.wp
    simp [execOp, ho, resolve, invoke, builtin, hd, hs, hrun, Result.andThen]
    exact h w ⟨⟨rfl, rfl, rfl, rfl, fun _ _ => rfl⟩, hg.congr (fun i hi => absurd hi (by omega))⟩
  · obtain ⟨b, q, rfl, hsrc⟩ := hpos (by omega)
    obtain ⟨c, hgb, hcs, hcf⟩ := hg
    have hrun := run_copy_row (P := P) w dT sT o.type elem g 0 n dCap ⟨b, q, none⟩ n sCap c t ((List.range n).map src) hu hsz hgb (by simp) (fun j v hj => by
      simp only [List.getElem?_map, Option.map_eq_some_iff] at hj
      obtain ⟨j', hj', rfl⟩ := hj
      have := List.getElem?_eq_some_iff.1 hj'
      obtain ⟨hlt, e⟩ := this
      simp at hlt e
      subst e
      rw [WideShapes.add_plain]
      exact hsrc j hlt) (by simp [hcs]) (fun v hv => by
      simp only [List.mem_map, List.mem_range] at hv
      obtain ⟨j, hj, rfl⟩ := hv
      exact h1 j hj)
    unfold Oper.wp
    simp [execOp, ho, resolve, invoke, builtin, hd, hs, hrun, Result.andThen]
    refine h _ ⟨⟨rfl, rfl, rfl, by simp, fun k hk => setRow_other _ _ _ _ hk⟩, ?_⟩
    refine ⟨_, setRow_heap w g _ _ t _ hgb, by simp [hcs], fun i hi => ?_⟩
    have hl : (List.map src (List.range n))[i]? = some (src i) := by simp [hi]
    rw [List.getElem?_toArray]
    rw [List.getElem?_append_left (by simpa using hi)]
    exact hl
end Go.Proofs.Qxb6000048aMods
