/- MEMORY: a slice of bytes that the call owns and appends to. -/
import Derived.Test.Qxb6000068aModsRows
import Derived.Test.Qxb6000068aModsCsv
import Derived.WalkKit
import Derived.ProofKit
import Derived.OpenShut
import Derived.Handy
import Derived.WalkSpells
import Derived.Deep.OwnRows
import Derived.Deep.QuietTactic
import Derived.BigQuiet
import Derived.Deep.AppendLies
namespace Go.Proofs.Qxb6000068aMods
open Go.RowKit

theorem hide {p : Prop} (h : p) : Hid p := h
theorem unhide {p : Prop} (h : Hid p) : p := h
theorem ret_int {k : IntKind} {a b : Int} (h : a = b) : Ending.returned (.int k a) = .returned (.int k b) := by rw [h]
theorem ret_bool {a b : Bool} (h : a = b) : Ending.returned (.bool a) = .returned (.bool b) := by rw [h]

theorem Trym.info5 : (Trym.prog.info? 5).map (fun i => (i.zero, i.size, i.bytes)) = some (some (.int .u8 0), 1, 1) := by kernel_rfl

/-- In w, v owns the bytes xs; since w0 no block has turned but new ones and block b0; v lies in b0 or in a block that is new since w0 (or is nil). -/
structure Owns (w0 w : World) (b0 : Option Nat) (v : Value) (xs : List Int) : Prop where
  own : w.ownsRow 0 5 1 v xs.length (B xs)
  kept : w0.grownBy w b0
  spot : v.ownBlock = b0 ∨ v.ownBlock = none ∨ ∃ k, v.ownBlock = some k ∧ w0.heap.size ≤ k

theorem grownBy_refl (w : World) (b : Option Nat) : w.grownBy w b := ⟨rfl, rfl, rfl, Nat.le_refl _, fun _ _ _ => rfl⟩
theorem grownBy_trans {w0 w w' : World} {b0 b1 : Option Nat} (h : w0.grownBy w b0) (k : w.grownBy w' b1) (hb : b1 = b0 ∨ b1 = none ∨ ∃ j, b1 = some j ∧ w0.heap.size ≤ j) : w0.grownBy w' b0 := by
  refine ⟨k.os.trans h.os, k.tape.trans h.tape, k.output.trans h.output, Nat.le_trans h.size k.size, fun j hj hne => ?_⟩
  rw [k.block j (Nat.lt_of_lt_of_le hj h.size) (fun e => ?_), h.block j hj hne]
  rcases hb with hb | hb | ⟨i, hb, hi⟩
  · exact hne (e.trans hb)
  · rw [hb] at e; cases e
  · rw [hb] at e; cases e; omega
theorem grownBy_drewN {w0 w : World} {b : Option Nat} (h : w0.grownBy w b) (n : Nat) : w0.grownBy (w.drewN n) b := ⟨h.os, h.tape, h.output, h.size, h.block⟩

theorem Owns.start {w : World} {v : Value} {xs : List Int} (h : w.ownsRow 0 5 1 v xs.length (B xs)) : Owns w w v.ownBlock v xs := ⟨h, grownBy_refl _ _, .inl rfl⟩

/-- An owned value's block, where it is not nil. -/
theorem own_form {w : World} {base : Nat} {v : Value} {n : Nat} {xs : List Value} (h : w.ownsRow base 5 1 v n xs) : v = .slice none 0 0 ∧ n = 0 ∨ ∃ g c, v = .slice (some ⟨g, 0, none⟩) n c ∧ g < w.heap.size ∧ n ≤ c ∧ c ≤ maxLen := by
  obtain ⟨_, h1 | ⟨g, cap, cur, hv, _, hh, hl, hm, _, _⟩⟩ := h
  · exact .inl h1
  · exact .inr ⟨g, cap, hv, (Array.getElem?_eq_some_iff.1 hh).1, hl, hm⟩

theorem Owns.size {w0 w : World} {b0 : Option Nat} {v : Value} {xs : List Int} (h : Owns w0 w b0 v xs) : w0.heap.size ≤ w.heap.size := h.kept.size

/-- THE STEP: what a law on append leaves, as 'Owns'. -/
theorem Owns.next {w0 w w' : World} {b0 : Option Nat} {v v' : Value} {xs ys : List Int} (h : Owns w0 w b0 v xs) (hown : w'.ownsRow 0 5 1 v' (xs ++ ys).length (B (xs ++ ys))) (hg : w.grownBy w' v.ownBlock)
    (hat : v'.ownBlock = v.ownBlock ∨ v'.ownBlock = none ∨ ∃ k, v'.ownBlock = some k ∧ w.heap.size ≤ k) : Owns w0 w' b0 v' (xs ++ ys) := by
  refine ⟨hown, grownBy_trans h.kept hg h.spot, ?_⟩
  have hs := h.kept.size
  rcases hat with e | e | ⟨k, e, hk⟩
  · rw [e]; exact h.spot
  · exact .inr (.inl e)
  · exact .inr (.inr ⟨k, e, by omega⟩)

/-- 'append(v, c)': the element has been laid into a block of its own. -/
theorem app1 {ops : Array Oper} {rest : List Oper} {o : Oper} {a : Act} {Q : Exit → Act → World → Prop} (hgd : o.guard = none) (s x : Operand)
    (ho : o.op = .call { callee := .builtin .append, args := #[s, x], argTypes := #[22, 22] }) (w0 w : World) (b0 : Option Nat) (v : Value) (xs : List Int) (c : Int) (hO : Owns w0 w b0 v xs) (hs : a.eval s = v)
    (hx : a.eval x = .slice (some ⟨w.heap.size, 0, none⟩) 1 1) (hn : xs.length ≤ 1099511627776)
    (h : ∀ v' w', Hid (Owns w0 w' b0 v' (xs ++ [c])) → wpList Trym.prog ops Q rest (a.put o.dst v') w') : wpList Trym.prog ops Q (o :: rest) a (w.alloc (.cells #[.int .u8 c] 5)) := by
  obtain ⟨i0, hi, hz0, hz1, hz2⟩ := info_parts Trym.info5
  refine wpList_append_lies (w.alloc (.cells #[.int .u8 c] 5)) hgd s x 22 ho 0 5 i0 (.int .u8 0) 1 1 Trym.underlying22 hi hz0 hz1 hz2 rfl (by decide) v xs.length (B xs) hs (hO.own.alloc _) ⟨w.heap.size, 0, none⟩ 1 1 [.int .u8 c] hx rfl (cell_one_new _ _ _)
    (by intro u hu; simp at hu; subst hu; rfl) (by decide) (by unfold maxLen; omega) (by omega) (Nat.zero_le _) _ rfl ?_
  intro g cap w' h1 h2 h3 h4
  have hall : Owns w0 (w.alloc (.cells #[.int .u8 c] 5)) b0 v xs := ⟨hO.own.alloc _, grownBy_trans hO.kept (World.grownBy_alloc w _ none) (.inr (.inl rfl)), hO.spot⟩
  refine h _ w' (hall.next (by simpa [B] using h1) h2 ?_)
  rcases h3 with e | e
  · exact .inl e.symm
  · exact .inr (.inr ⟨g, rfl, by omega⟩)

/-- 'append(v, s...)', s a string. -/
theorem appS {ops : Array Oper} {rest : List Oper} {o : Oper} {a : Act} {Q : Exit → Act → World → Prop} (hgd : o.guard = none) (sl' x : Operand)
    (ho : o.op = .call { callee := .builtin .append, args := #[sl', x], argTypes := #[22, 9] }) (w0 w : World) (b0 : Option Nat) (v : Value) (xs : List Int) (s : ByteArray) (hO : Owns w0 w b0 v xs) (hs : a.eval sl' = v)
    (hx : a.eval x = .string s) (hn : xs.length ≤ 1099511627776) (hsz : s.size ≤ 1048576)
    (h : ∀ v' w', Hid (Owns w0 w' b0 v' (xs ++ sl s)) → wpList Trym.prog ops Q rest (a.put o.dst v') w') : wpList Trym.prog ops Q (o :: rest) a w := by
  obtain ⟨i0, hi, hz0, hz1, hz2⟩ := info_parts Trym.info5
  refine wpList_plain hgd fun K hK => ?_
  obtain ⟨v', w', hr, h2, h3, h4⟩ := Lib.run_append_own_string (P := Trym.prog) w 0 22 9 o.type 5 i0 Trym.underlying22 Trym.underlying9 hi hz0 hz1 hz2 v xs.length (B xs) hO.own s (by unfold maxLen; omega) (by omega) (Nat.zero_le _)
  have hspot : v'.ownBlock = v.ownBlock ∨ v'.ownBlock = none ∨ ∃ k, v'.ownBlock = some k ∧ w.heap.size ≤ k := by
    rcases hO.own.2 with ⟨rfl, h0⟩ | ⟨g, cap, cur, rfl, _, hg, hnc, hcm, hcs, htake⟩
    · obtain ⟨v2, w2, hr2, h22, _, _⟩ := Lib.run_append_own_string (P := Trym.prog) w w.heap.size 22 9 o.type 5 i0 Trym.underlying22 Trym.underlying9 hi hz0 hz1 hz2 (.slice none 0 0) 0 [] (World.ownsRow_nil _ _ _ _) s (by unfold maxLen; omega) (by omega) (Nat.le_refl _)
      rw [hr] at hr2
      cases hr2
      rcases h22.2 with ⟨e, _⟩ | ⟨g, cap, cur, e, hb, _⟩
      · exact .inr (.inl (by rw [e]; rfl))
      · exact .inr (.inr ⟨g, by rw [e]; rfl, hb⟩)
    · by_cases hroom : xs.length + s.size ≤ cap
      · have hcs' : cur.size = cap := by simpa using hcs
        have hr2 := Lib.run_append_room_string (P := Trym.prog) w 22 9 o.type 5 i0 Trym.underlying22 Trym.underlying9 hi hz1 g xs.length cap cur hg s hroom (by omega)
        rw [hr] at hr2
        cases hr2
        exact .inl rfl
      · have holds := hO.own.cells (g := g) rfl
        have hr2 := Lib.run_append_grow_string (P := Trym.prog) w 22 9 o.type 5 i0 (.int .u8 0) Trym.underlying22 Trym.underlying9 hi hz0 ⟨g, 0, none⟩ xs.length cap (B xs) (by rw [hz1, B_length, Nat.mul_one]) holds s (by omega) (by omega) (by rw [hz2]; exact growslice_fits (by omega) (by omega))
        rw [hr] at hr2
        cases hr2
        exact .inr (.inr ⟨_, rfl, Nat.le_refl _⟩)
  unfold Oper.wp execOp
  simp only [ho, resolve, invoke, builtin, Sem.run_bind, Sem.run_pure, Result.andThen_ok, List.map_toArray, List.map_cons, List.map_nil, hs, hx, hr]
  refine hK _ _ (h v' w' (hO.next ?_ h3 hspot))
  rw [List.length_append, sl_length, B_append, ← strCells_B]
  exact h2
end Go.Proofs.Qxb6000068aMods
