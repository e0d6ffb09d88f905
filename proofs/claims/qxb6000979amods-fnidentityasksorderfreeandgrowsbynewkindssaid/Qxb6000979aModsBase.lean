/- Memory, for all three laws. -/
import Derived.Test.Qxb6000979aModsRows
import Derived.Test.Qxb6000979aModsPlain
import Derived.WalkKit
import Derived.ProofKit
import Derived.OpenShut
import Derived.Handy
import Derived.WalkSpells
import Derived.Deep.OwnRows
import Derived.Deep.QuietTactic
import Derived.BigQuiet
namespace Go.Proofs.Qxb6000979aMods
open Go.RowKit

theorem hide {p : Prop} (h : p) : Hid p := h
theorem unhide {p : Prop} (h : Hid p) : p := h
theorem ret_int {k : IntKind} {a b : Int} (h : a = b) : Ending.returned (.int k a) = .returned (.int k b) := by rw [h]
theorem ret_bool {a b : Bool} (h : a = b) : Ending.returned (.bool a) = .returned (.bool b) := by rw [h]

/-- The slice '.slice a n _' holds the numbers g. -/
structure Rw (k : IntKind) (w : World) (a : Option Addr) (n : Nat) (g : Nat → Nat) : Prop where
  at' : 0 < n → ∃ b o, a = some ⟨b, o, none⟩ ∧ ∀ i, i < n → w.cell? ⟨b, o + i, none⟩ = some (.int k (g i : Int))

theorem cell_of_block {w w' : World} {b o : Nat} {v : Value} (h : w'.heap[b]? = w.heap[b]?) (hc : w.cell? ⟨b, o, none⟩ = some v) : w'.cell? ⟨b, o, none⟩ = some v :=
  (World.cell?_of_block (w := w) (a := ⟨b, o, none⟩) h).trans hc
theorem Below.cellOf {B b o : Nat} {w w' : World} {v : Value} (h : Below B w w') (hB : w.heap.size ≤ B) (hc : w.cell? ⟨b, o, none⟩ = some v) : w'.cell? ⟨b, o, none⟩ = some v :=
  cell_of_block (h.block b (Nat.lt_of_lt_of_le (block_lt_of_cell hc) hB)) hc
theorem Rw.below {k : IntKind} {w w' : World} {a : Option Addr} {n B : Nat} {g : Nat → Nat} (h : Rw k w a n g) (hb : Below B w w') (hB : w.heap.size ≤ B) : Rw k w' a n g :=
  ⟨fun h0 => by
    obtain ⟨b, o, e, hc⟩ := h.at' h0
    exact ⟨b, o, e, fun i hi => Below.cellOf hb hB (hc i hi)⟩⟩

/-- A slice of its own, new since w, that holds g. -/
structure PC (k : IntKind) (w : World) (n : Nat) (g : Nat → Nat) (e : Ending) (w' : World) : Prop where
  out : ∃ a' c', e = .returned (.slice a' n c') ∧ n ≤ c' ∧ c' ≤ 1048576 ∧ Rw k w' a' n g ∧ Below w.heap.size w w'

/-- A new row of which the first i numbers are laid. -/
structure RowAt (k : IntKind) (t : TypeId) (w wr : World) (n : Nat) (g : Nat → Nat) (i : Nat) : Prop where
  below : Below w.heap.size w wr
  row : ∃ f, wr.rowIs w.heap.size t n f ∧ ∀ j, j < i → f j = .int k (g j : Int)
theorem row_start (k : IntKind) (t : TypeId) (w : World) (n : Nat) (g : Nat → Nat) : RowAt k t w (w.alloc (.cells (madeCells #[.int k 0] n) t)) n g 0 :=
  ⟨(Below.refl _ _).alloc (Nat.le_refl _) _, _, World.rowIs_made w _ n t, fun _ hi => absurd hi (Nat.not_lt_zero _)⟩
theorem row_step {k : IntKind} {t : TypeId} {w wr : World} {n : Nat} {g : Nat → Nat} {i : Nat} (h : RowAt k t w wr n g i) : RowAt k t w (wr.setCell ⟨w.heap.size, i, none⟩ (.int k (g i : Int))) n g (i + 1) := by
  obtain ⟨f, hf, h0⟩ := h.row
  refine ⟨h.below.setCell (Nat.le_refl _) _, _, hf.set i _, fun j hj => ?_⟩
  by_cases e : j = i
  · subst e; simp
  · simp [e, h0 j (by omega)]
theorem row_done {k : IntKind} {t : TypeId} {w wr : World} {n : Nat} {g : Nat → Nat} (h : RowAt k t w wr n g n) : Rw k wr (some ⟨w.heap.size, 0, none⟩) n g := by
  obtain ⟨f, hf, h0⟩ := h.row
  exact ⟨fun _ => ⟨w.heap.size, 0, rfl, fun i hi => by rw [Nat.zero_add, hf.cell hi, h0 i hi]⟩⟩
theorem row_none {k : IntKind} {t : TypeId} {w : World} {n : Nat} {g : Nat → Nat} (hn : n ≤ 0) : RowAt k t w (w.alloc (.cells (madeCells #[.int k 0] n) t)) n g n := by
  have h := row_start k t w n g
  obtain ⟨f, hf, _⟩ := h.row
  exact ⟨h.below, f, hf, fun j hj => absurd hj (by omega)⟩

/-- What the shells tell of a slice of integers that came in. -/
def IsRow (k : IntKind) (w : World) (a : Option Addr) (len cap : Nat) (zs : List Int) : Prop :=
  (a = none ∧ len = 0 ∧ cap = 0 ∧ zs = []) ∨
  ∃ x, a = some x ∧ len ≤ cap ∧ cap ≤ maxLen ∧ zs.length = cap ∧ (∀ i, i < zs.length → w.cell? (x.add i) = some (.int k (zs.getD i 0))) ∧ ∀ n ∈ zs, (Lit.int k n).wf = true

/-- .. and what the walks want of it. -/
theorem rw_of_row {k : IntKind} {w : World} {a : Option Addr} {len cap : Nat} {zs : List Int} (B : Nat) (hB : ∀ n : Int, (Lit.int k n).wf = true → 0 ≤ n ∧ n < (B : Int)) (h0B : 0 < B) (h : IsRow k w a len cap zs) :
    ∃ g, Rw k w a len g ∧ (a = none → len = 0 ∧ cap = 0) ∧ len ≤ 9223372036854775807 ∧ ∀ i, g i < B := by
  rcases h with ⟨rfl, rfl, rfl, rfl⟩ | ⟨x, rfl, hl, hm, hz, hc, hw⟩
  · exact ⟨fun _ => 0, ⟨fun h => absurd h (by omega)⟩, fun _ => ⟨rfl, rfl⟩, by omega, fun _ => h0B⟩
  · unfold maxLen at hm
    have hb : ∀ i, i < zs.length → 0 ≤ zs.getD i 0 ∧ zs.getD i 0 < (B : Int) := fun i hi => by
      have h2 : zs[i]? = some (zs.getD i 0) := by rw [List.getD_eq_getElem?_getD, List.getElem?_eq_getElem hi]; rfl
      exact hB _ (hw _ (List.mem_of_getElem? h2))
    refine ⟨fun i => if i < zs.length then (zs.getD i 0).toNat else 0, ⟨fun h0 => ?_⟩, (fun e => by cases e), by omega, fun i => ?_⟩
    · obtain ⟨b, o, spot⟩ := x
      have hspot : spot = none := by simpa [Addr.add] using World.cell?_spot (hc 0 (by omega))
      subst hspot
      refine ⟨b, o, rfl, fun i hi => ?_⟩
      have h2 := hc i (by omega)
      rw [WideShapes.add_plain] at h2
      rw [h2, if_pos (by omega), Int.toNat_of_nonneg (hb i (by omega)).1]
    · show (if i < zs.length then (zs.getD i 0).toNat else 0) < B
      split
      · rename_i hi
        have := hb i hi
        omega
      · exact h0B
end Go.Proofs.Qxb6000979aMods
