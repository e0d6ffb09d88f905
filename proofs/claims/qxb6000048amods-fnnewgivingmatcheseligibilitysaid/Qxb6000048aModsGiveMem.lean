/- What newGiving's loops do to memory: no walk here. -/
import Derived.Test.Qxb6000048aModsCopy
import Derived.Test.Qxb6000048aModsReads
namespace Go.Proofs.Qxb6000048aMods
open Go.RowKit

theorem Trym.info4 : (Trym.prog.info? 4).map (fun i => (i.zero, i.size, i.bytes)) = some (some (.bool false), 1, 1) := by kernel_rfl
theorem Trym.info30 : (Trym.prog.info? 30).map (fun i => (i.zero, i.size, i.bytes)) = some (some (.slice none 0 0), 1, 24) := by kernel_rfl
theorem Trym.info59 : (Trym.prog.info? 59).map (fun i => (i.zero, i.size, i.bytes)) = some (some (.map none), 1, 8) := by kernel_rfl

/-- The five fields of a giving. -/
def gcells (a : Option Addr) (len cap N Bm Bk Ba Bl : Nat) : Array Value :=
  #[.slice a len cap, .slice (some ⟨Bm, 0, none⟩) len len, .slice (some ⟨Bk, 0, none⟩) N N, .slice (some ⟨Ba, 0, none⟩) N N, .slice (some ⟨Bl, 0, none⟩) N N]

/-- What holds behind the composite literal, in whatever order the four rows were made. -/
structure Fresh (w wc : World) (a : Option Addr) (len cap N : Nat) (p : Value) : Prop where
  out : ∃ Bm Bk Ba Bl, p = .pointer (some ⟨w.heap.size + 4, 0, none⟩) ∧ wc.heap[w.heap.size + 4]? = some (.cells (gcells a len cap N Bm Bk Ba Bl) 58 (0, 0)) ∧
    wc.heap[Bm]? = some (.cells (madeCells #[.slice none 0 0] len) 30 (0, 0)) ∧ wc.heap[Bk]? = some (.cells (madeCells #[.map none] N) 59 (0, 0)) ∧ wc.heap[Ba]? = some (.cells (madeCells #[.map none] N) 59 (0, 0)) ∧
    wc.heap[Bl]? = some (.cells (madeCells #[.int .i64 0] N) 3 (0, 0)) ∧ wc.heap.size = w.heap.size + 5 ∧ Below w.heap.size w wc ∧ Bk ≠ Ba ∧
    w.heap.size ≤ Bm ∧ w.heap.size ≤ Bk ∧ w.heap.size ≤ Ba ∧ w.heap.size ≤ Bl

def pick4 (o1 o2 o3 o4 : Obj) : Nat → Option Obj
  | 0 => some o1
  | 1 => some o2
  | 2 => some o3
  | 3 => some o4
  | _ => none

theorem at_push {h : Array Obj} {o : Obj} {k : Nat} (hk : k = h.size) : (h.push o)[k]? = some o := by subst hk; simp
theorem at_push_lt {h : Array Obj} {o x : Obj} {k : Nat} (hk : h[k]? = some x) : (h.push o)[k]? = some x := by
  have hlt : k < h.size := (Array.getElem?_eq_some_iff.1 hk).1
  rw [Array.getElem?_push, if_neg (by omega)]; exact hk

theorem at_pick4 (w : World) (o1 o2 o3 o4 o5 o : Obj) : ∀ i, pick4 o1 o2 o3 o4 i = some o → (((((w.alloc o1).alloc o2).alloc o3).alloc o4).alloc o5).heap[w.heap.size + i]? = some o := by
  show ∀ i, pick4 o1 o2 o3 o4 i = some o → (((((w.heap.push o1).push o2).push o3).push o4).push o5)[w.heap.size + i]? = some o
  intro i hi
  match i, hi with
  | 0, hi => cases hi; exact at_push_lt (at_push_lt (at_push_lt (at_push_lt (at_push (by simp)))))
  | 1, hi => cases hi; exact at_push_lt (at_push_lt (at_push_lt (at_push (by simp))))
  | 2, hi => cases hi; exact at_push_lt (at_push_lt (at_push (by simp)))
  | 3, hi => cases hi; exact at_push_lt (at_push (by simp))

theorem at_last (w : World) (o1 o2 o3 o4 o5 : Obj) : (((((w.alloc o1).alloc o2).alloc o3).alloc o4).alloc o5).heap[w.heap.size + 4]? = some o5 := by
  show (((((w.heap.push o1).push o2).push o3).push o4).push o5)[w.heap.size + 4]? = some o5
  exact at_push (by simp)

theorem fresh_mk (w : World) (a : Option Addr) (len cap N : Nat) (o1 o2 o3 o4 : Obj) (Bm Bk Ba Bl G : Nat) (hG : G = w.heap.size + 4) (hi : ∃ i, Bm = w.heap.size + i ∧ pick4 o1 o2 o3 o4 i = some (.cells (madeCells #[.slice none 0 0] len) 30))
    (hj : ∃ i, Bk = w.heap.size + i ∧ pick4 o1 o2 o3 o4 i = some (.cells (madeCells #[.map none] N) 59)) (hk : ∃ i, Ba = w.heap.size + i ∧ pick4 o1 o2 o3 o4 i = some (.cells (madeCells #[.map none] N) 59))
    (hl : ∃ i, Bl = w.heap.size + i ∧ pick4 o1 o2 o3 o4 i = some (.cells (madeCells #[.int .i64 0] N) 3)) (hne : Bk ≠ Ba) :
    Fresh w (((((w.alloc o1).alloc o2).alloc o3).alloc o4).alloc (.cells #[.slice a len cap, .slice (some ⟨Bm, 0, none⟩) len len, .slice (some ⟨Bk, 0, none⟩) N N, .slice (some ⟨Ba, 0, none⟩) N N, .slice (some ⟨Bl, 0, none⟩) N N] 58)).drew a len cap N (.pointer (some ⟨G, 0, none⟩)) := by
  obtain ⟨i, rfl, hi⟩ := hi
  obtain ⟨j, rfl, hj⟩ := hj
  obtain ⟨k, rfl, hk⟩ := hk
  obtain ⟨l, rfl, hl⟩ := hl
  subst hG
  refine ⟨w.heap.size + i, w.heap.size + j, w.heap.size + k, w.heap.size + l, rfl, at_last w o1 o2 o3 o4 _, at_pick4 w o1 o2 o3 o4 _ _ i hi, at_pick4 w o1 o2 o3 o4 _ _ j hj, at_pick4 w o1 o2 o3 o4 _ _ k hk, at_pick4 w o1 o2 o3 o4 _ _ l hl, by simp, ?_, by omega, by omega, by omega, by omega, by omega⟩
  exact (((((((Below.refl _ w).alloc (Nat.le_refl _) o1).alloc (by simp) o2).alloc (by simp; omega) o3).alloc (by simp; omega) o4).alloc (by simp; omega) _).drew)

theorem rowIs_ne {w : World} {b b' : Nat} {t t' : TypeId} {n n' : Nat} {f f' : Nat → Value} (h : w.rowIs b t n f) (h' : w.rowIs b' t' n' f') (ht : t ≠ t') : b ≠ b' := by
  rintro rfl
  obtain ⟨c, e, _⟩ := h
  obtain ⟨c', e', _⟩ := h'
  rw [e] at e'
  simp at e'
  exact ht e'.2

/-- A row of n cells, whatever made it. -/
theorem rowIs_of_made {w : World} {b n : Nat} {z : Value} {t : TypeId} (h : w.heap[b]? = some (.cells (madeCells #[z] n) t (0, 0))) : w.rowIs b t n (fun _ => z) :=
  ⟨_, h, size_madeCells _ _, fun i hi => by simp [madeCells, hi, Nat.mod_one]⟩

/-- The giving's own block, as a row of five cells. -/
def gfun (a : Option Addr) (len cap N Bm Bk Ba Bl : Nat) : Nat → Value
  | 0 => .slice a len cap
  | 1 => .slice (some ⟨Bm, 0, none⟩) len len
  | 2 => .slice (some ⟨Bk, 0, none⟩) N N
  | 3 => .slice (some ⟨Ba, 0, none⟩) N N
  | _ => .slice (some ⟨Bl, 0, none⟩) N N

theorem gfun_row {w : World} {b : Nat} {a : Option Addr} {len cap N Bm Bk Ba Bl : Nat} (h : w.heap[b]? = some (.cells (gcells a len cap N Bm Bk Ba Bl) 58 (0, 0))) : w.rowIs b 58 5 (gfun a len cap N Bm Bk Ba Bl) :=
  ⟨_, h, rfl, fun i hi => by
    match i, hi with
    | 0, _ => rfl
    | 1, _ => rfl
    | 2, _ => rfl
    | 3, _ => rfl
    | 4, _ => rfl⟩

/-- Where a giving lies: the four rows' blocks. -/
structure Spots where
  m : Nat
  k : Nat
  a : Nat
  l : Nat

/-- WHAT DOES NOT TURN in loop 1: the giving's cells, the rows 'kept', 'added', 'load'. -/
structure Still (w wr : World) (a : Option Addr) (len cap N : Nat) (s : Spots) : Prop where
  below : Below w.heap.size w wr
  g : wr.rowIs (w.heap.size + 4) 58 5 (gfun a len cap N s.m s.k s.a s.l)
  load : wr.rowIs s.l 3 N (fun _ => .int .i64 0)
  ne : s.k ≠ s.a
  lo : w.heap.size ≤ s.m ∧ w.heap.size ≤ s.k ∧ w.heap.size ≤ s.a ∧ w.heap.size ≤ s.l
  hi : s.m < w.heap.size + 5 ∧ s.k < w.heap.size + 5 ∧ s.a < w.heap.size + 5 ∧ s.l < w.heap.size + 5

def mayTop (S N c : Nat) : Nat → Value := fun r => if r < c then .slice (some ⟨S + 5 + r, 0, none⟩) N N else .slice none 0 0

/-- Loop 1's head: c rows of 'may' are made and filled. -/
structure NG (w wr : World) (a : Option Addr) (len cap N c : Nat) (L : Nat → Nat) (Z : Nat → Nat → Int) (s : Spots) : Prop where
  still : Still w wr a len cap N s
  size : wr.heap.size = w.heap.size + 5 + c
  may : wr.rowIs s.m 30 len (mayTop w.heap.size N c)
  rows : ∀ r, r < c → wr.rowIs (w.heap.size + 5 + r) 4 N (fun i => .bool (hasB (Z r) (L r) i))
  kept : wr.rowIs s.k 59 N (fun _ => .map none)
  added : wr.rowIs s.a 59 N (fun _ => .map none)

/-- Loop 2's head: row c is made, j of its members are marked. -/
structure NI (w wr : World) (a : Option Addr) (len cap N c j : Nat) (L : Nat → Nat) (Z : Nat → Nat → Int) (s : Spots) : Prop where
  still : Still w wr a len cap N s
  size : wr.heap.size = w.heap.size + 5 + (c + 1)
  may : wr.rowIs s.m 30 len (mayTop w.heap.size N (c + 1))
  rows : ∀ r, r < c → wr.rowIs (w.heap.size + 5 + r) 4 N (fun i => .bool (hasB (Z r) (L r) i))
  cur : wr.rowIs (w.heap.size + 5 + c) 4 N (fun i => .bool (hasB (Z c) j i))
  kept : wr.rowIs s.k 59 N (fun _ => .map none)
  added : wr.rowIs s.a 59 N (fun _ => .map none)

theorem ng_start {w wc : World} {a : Option Addr} {len cap N : Nat} {p : Value} (L : Nat → Nat) (Z : Nat → Nat → Int) (h : Fresh w wc a len cap N p) :
    ∃ s : Spots, p = .pointer (some ⟨w.heap.size + 4, 0, none⟩) ∧ NG w wc a len cap N 0 L Z s := by
  obtain ⟨Bm, Bk, Ba, Bl, hp, hG, hm, hk, ha, hl, hsz, hbel, hne, l1, l2, l3, l4⟩ := h.out
  have rm := rowIs_of_made hm
  have rk := rowIs_of_made hk
  have ra := rowIs_of_made ha
  have rl := rowIs_of_made hl
  have b1 := rm.lt
  have b2 := rk.lt
  have b3 := ra.lt
  have b4 := rl.lt
  rw [hsz] at b1 b2 b3 b4
  exact ⟨⟨Bm, Bk, Ba, Bl⟩, hp, ⟨⟨hbel, gfun_row hG, rl, hne, ⟨l1, l2, l3, l4⟩, ⟨b1, b2, b3, b4⟩⟩, hsz, rm.congr (fun j _ => by simp [mayTop]), fun r hr => absurd hr (Nat.not_lt_zero _), rk, ra⟩⟩

/-- 'g.may[c] = make([]bool, n)'. -/
theorem ni_start {w wr : World} {a : Option Addr} {len cap N c : Nat} {L : Nat → Nat} {Z : Nat → Nat → Int} {s : Spots} (h : NG w wr a len cap N c L Z s) :
    NI w ((wr.alloc (.cells (madeCells #[.bool false] N) 4)).setCell ⟨s.m, c, none⟩ (.slice (some ⟨w.heap.size + 5 + c, 0, none⟩) N N)) a len cap N c 0 L Z s := by
  have hnew := World.rowIs_made wr (.bool false) N 4
  rw [h.size] at hnew
  have hs := h.still
  have n1 := rowIs_ne h.may hs.g (by decide)
  have n2 := rowIs_ne h.may hs.load (by decide)
  have n3 := rowIs_ne h.may h.kept (by decide)
  have n4 := rowIs_ne h.may h.added (by decide)
  have hh := hs.hi
  have hl := hs.lo
  refine ⟨⟨(hs.below.alloc (by rw [h.size]; omega) _).setCell hl.1 _, (hs.g.alloc _).setOther (fun e => n1 e.symm) _, (hs.load.alloc _).setOther (fun e => n2 e.symm) _, hs.ne, hl, hh⟩, by simp [h.size]; omega,
    ((h.may.alloc _).set c _).congr (fun j _ => ?_), fun r hr => ((h.rows r hr).alloc _).setOther (by show w.heap.size + 5 + r ≠ s.m; omega) _,
    (hnew.setOther (by show w.heap.size + 5 + c ≠ s.m; omega) _).congr (fun i _ => by simp [hasB]), (h.kept.alloc _).setOther (fun e => n3 e.symm) _, (h.added.alloc _).setOther (fun e => n4 e.symm) _⟩
  simp only [mayTop]
  by_cases e : j = c
  · subst e; simp
  · by_cases hlt : j < c
    · have h3 : j < c + 1 := by omega
      simp [hlt, h3, e]
    · have h3 : ¬ j < c + 1 := by omega
      simp [hlt, h3, e]

/-- 'g.may[c][i] = true'. -/
theorem ni_step {w wr : World} {a : Option Addr} {len cap N c j zi : Nat} {L : Nat → Nat} {Z : Nat → Nat → Int} {s : Spots} (h : NI w wr a len cap N c j L Z s) (hz : Z c j = (zi : Int)) :
    NI w (wr.setCell ⟨w.heap.size + 5 + c, zi, none⟩ (.bool true)) a len cap N c (j + 1) L Z s := by
  have hs := h.still
  have n1 := rowIs_ne hs.g h.cur (by decide)
  have n2 := rowIs_ne hs.load h.cur (by decide)
  have n3 := rowIs_ne h.kept h.cur (by decide)
  have n4 := rowIs_ne h.added h.cur (by decide)
  have n5 := rowIs_ne h.may h.cur (by decide)
  refine ⟨⟨hs.below.setCell (by show w.heap.size ≤ w.heap.size + 5 + c; omega) _, hs.g.setOther n1 _, hs.load.setOther n2 _, hs.ne, hs.lo, hs.hi⟩, by simp [h.size], h.may.setOther n5 _,
    fun r hr => (h.rows r hr).setOther (by show w.heap.size + 5 + r ≠ w.heap.size + 5 + c; omega) _, (h.cur.set zi _).congr (fun i _ => ?_), h.kept.setOther n3 _, h.added.setOther n4 _⟩
  by_cases e : i = zi
  · subst e
    simp [hasB, hz]
  · have e2 : ¬ zi = i := fun x => e x.symm
    have e3 : ((zi : Int) == (i : Int)) = false := by simp; omega
    simp [e, hasB, hz, e3]

theorem ni_done {w wr : World} {a : Option Addr} {len cap N c : Nat} {L : Nat → Nat} {Z : Nat → Nat → Int} {s : Spots} (h : NI w wr a len cap N c (L c) L Z s) : NG w wr a len cap N (c + 1) L Z s :=
  ⟨h.still, h.size, h.may, fun r hr => by
    by_cases e : r = c
    · subst e; exact h.cur
    · exact h.rows r (by omega), h.kept, h.added⟩

theorem NG.drew {w wr : World} {a : Option Addr} {len cap N c : Nat} {L : Nat → Nat} {Z : Nat → Nat → Int} {s : Spots} (h : NG w wr a len cap N c L Z s) : NG w wr.drew a len cap N c L Z s :=
  ⟨⟨h.still.below.drew, h.still.g, h.still.load, h.still.ne, h.still.lo, h.still.hi⟩, h.size, h.may, h.rows, h.kept, h.added⟩
theorem NI.drew {w wr : World} {a : Option Addr} {len cap N c j : Nat} {L : Nat → Nat} {Z : Nat → Nat → Int} {s : Spots} (h : NI w wr a len cap N c j L Z s) : NI w wr.drew a len cap N c j L Z s :=
  ⟨⟨h.still.below.drew, h.still.g, h.still.load, h.still.ne, h.still.lo, h.still.hi⟩, h.size, h.may, h.rows, h.cur, h.kept, h.added⟩

/-- A row of n maps, of which the first k are empty maps of the call's own, from block B on. -/
def mapsRow (w : World) (B b n k : Nat) : Prop :=
  ∃ f, w.rowIs b 59 n f ∧ ∀ i, i < k → ∃ m, f i = .map (some m) ∧ B ≤ m ∧ w.heap[m]? = some (.map #[] 0)

/-- Loop 3's head: k members have their maps. -/
structure NM (w wr : World) (a : Option Addr) (len cap N k : Nat) (L : Nat → Nat) (Z : Nat → Nat → Int) (s : Spots) : Prop where
  still : Still w wr a len cap N s
  size : w.heap.size + 5 + len ≤ wr.heap.size
  may : wr.rowIs s.m 30 len (mayTop w.heap.size N len)
  rows : ∀ r, r < len → wr.rowIs (w.heap.size + 5 + r) 4 N (fun i => .bool (hasB (Z r) (L r) i))
  kept : mapsRow wr (w.heap.size + 5) s.k N k
  added : mapsRow wr (w.heap.size + 5) s.a N k

theorem nm_start {w wr : World} {a : Option Addr} {len cap N : Nat} {L : Nat → Nat} {Z : Nat → Nat → Int} {s : Spots} (h : NG w wr a len cap N len L Z s) : NM w wr a len cap N 0 L Z s :=
  ⟨h.still, by rw [h.size]; omega, h.may, h.rows, ⟨_, h.kept, fun i hi => absurd hi (Nat.not_lt_zero _)⟩, ⟨_, h.added, fun i hi => absurd hi (Nat.not_lt_zero _)⟩⟩

theorem mapsRow_alloc {w : World} {B b n k : Nat} (h : mapsRow w B b n k) (o : Obj) : mapsRow (w.alloc o) B b n k := by
  obtain ⟨f, hf, hm⟩ := h
  exact ⟨f, hf.alloc o, fun i hi => by
    obtain ⟨m, e, hB, hh⟩ := hm i hi
    exact ⟨m, e, hB, at_push_lt hh⟩⟩
theorem mapsRow_other {w : World} {B b n k q : Nat} (h : mapsRow w B b n k) {x : Addr} (hx : x.block = q) (hq : q ≠ b) (hqB : q < B) (v : Value) : mapsRow (w.setCell x v) B b n k := by
  obtain ⟨f, hf, hm⟩ := h
  exact ⟨f, hf.setOther (by rw [hx]; exact fun e => hq e.symm) v, fun i hi => by
    obtain ⟨m, e, hB, hh⟩ := hm i hi
    exact ⟨m, e, hB, by rw [Below.heap_setCell _ _ _ _ (by omega)]; exact hh⟩⟩
theorem mapsRow_set {w : World} {B b n k m : Nat} (h : mapsRow w B b n k) (hb : b < B) (hm : B ≤ m) (hh : w.heap[m]? = some (.map #[] 0)) : mapsRow (w.setCell ⟨b, k, none⟩ (.map (some m))) B b n (k + 1) := by
  obtain ⟨f, hf, hm1⟩ := h
  have keep : ∀ q, B ≤ q → w.heap[q]? = some (.map #[] 0) → (w.setCell ⟨b, k, none⟩ (.map (some m))).heap[q]? = some (.map #[] 0) := fun q hq hq2 => by
    rw [Below.heap_setCell _ _ _ _ (by show q ≠ b; omega)]; exact hq2
  refine ⟨_, hf.set k _, fun i hi => ?_⟩
  by_cases e : i = k
  · subst e
    exact ⟨m, by simp, hm, keep m hm hh⟩
  · obtain ⟨m', e', hB, hh'⟩ := hm1 i (by omega)
    exact ⟨m', by simp [e, e'], hB, keep m' hB hh'⟩

/-- 'g.kept[i], g.added[i] = map..{}, map..{}': the maps' blocks in either order, the stores in either order. -/
theorem nm_step {w wr : World} {a : Option Addr} {len cap N k m1 m2 : Nat} {L : Nat → Nat} {Z : Nat → Nat → Int} {s : Spots} (h : NM w wr a len cap N k L Z s)
    (hm : m1 = wr.heap.size ∧ m2 = wr.heap.size + 1 ∨ m2 = wr.heap.size ∧ m1 = wr.heap.size + 1) :
    NM w ((((wr.alloc (.map #[] 0)).alloc (.map #[] 0)).setCell ⟨s.k, k, none⟩ (.map (some m1))).setCell ⟨s.a, k, none⟩ (.map (some m2))) a len cap N (k + 1) L Z s := by
  have hs := h.still
  have hz := h.size
  have hl := hs.lo
  have hh := hs.hi
  obtain ⟨fk, hfk, _⟩ := h.kept
  obtain ⟨fa, hfa, _⟩ := h.added
  have k1 := rowIs_ne hs.g hfk (by decide)
  have k2 := rowIs_ne hs.load hfk (by decide)
  have k3 := rowIs_ne h.may hfk (by decide)
  have a1 := rowIs_ne hs.g hfa (by decide)
  have a2 := rowIs_ne hs.load hfa (by decide)
  have a3 := rowIs_ne h.may hfa (by decide)
  have hp1 : ((wr.alloc (.map #[] 0)).alloc (.map #[] 0)).heap[wr.heap.size]? = some (.map #[] 0) := at_push_lt (at_push rfl)
  have hp2 : ((wr.alloc (.map #[] 0)).alloc (.map #[] 0)).heap[wr.heap.size + 1]? = some (.map #[] 0) := at_push (by simp)
  have hq : ∀ m, m = m1 ∨ m = m2 → ((wr.alloc (.map #[] 0)).alloc (.map #[] 0)).heap[m]? = some (.map #[] 0) ∧ w.heap.size + 5 ≤ m := by
    intro m hm'
    have : m = wr.heap.size ∨ m = wr.heap.size + 1 := by omega
    rcases this with e | e
    · subst e; exact ⟨hp1, by omega⟩
    · subst e; exact ⟨hp2, by omega⟩
  refine ⟨⟨(((hs.below.alloc (by omega) _).alloc (by simp; omega) _).setCell hl.2.1 _).setCell hl.2.2.1 _, (((hs.g.alloc _).alloc _).setOther k1 _).setOther a1 _, (((hs.load.alloc _).alloc _).setOther k2 _).setOther a2 _, hs.ne, hl, hh⟩, by simp; omega,
    (((h.may.alloc _).alloc _).setOther k3 _).setOther a3 _, fun r hr => ((((h.rows r hr).alloc _).alloc _).setOther (by show w.heap.size + 5 + r ≠ s.k; omega) _).setOther (by show w.heap.size + 5 + r ≠ s.a; omega) _, ?_, ?_⟩
  · exact mapsRow_other (mapsRow_set (mapsRow_alloc (mapsRow_alloc h.kept _) _) hh.2.1 (hq m1 (.inl rfl)).2 (hq m1 (.inl rfl)).1) rfl (fun e => hs.ne e.symm) hh.2.2.1 _
  · refine mapsRow_set (mapsRow_other (mapsRow_alloc (mapsRow_alloc h.added _) _) rfl hs.ne hh.2.1 _) hh.2.2.1 (hq m2 (.inr rfl)).2 ?_
    rw [Below.heap_setCell _ _ _ _ (by show m2 ≠ s.k; have := (hq m2 (.inr rfl)).2; omega)]
    exact (hq m2 (.inr rfl)).1

theorem nm_step' {w wr : World} {a : Option Addr} {len cap N k m1 m2 : Nat} {L : Nat → Nat} {Z : Nat → Nat → Int} {s : Spots} (h : NM w wr a len cap N k L Z s)
    (hm : m1 = wr.heap.size ∧ m2 = wr.heap.size + 1 ∨ m2 = wr.heap.size ∧ m1 = wr.heap.size + 1) :
    NM w ((((wr.setCell ⟨s.k, k, none⟩ (.map (some m1))).setCell ⟨s.a, k, none⟩ (.map (some m2))).alloc (.map #[] 0)).alloc (.map #[] 0)) a len cap N (k + 1) L Z s := by
  have hk : s.k < wr.heap.size := by obtain ⟨_, hf, _⟩ := h.kept; exact hf.lt
  have ha : s.a < wr.heap.size := by obtain ⟨_, hf, _⟩ := h.added; exact hf.lt
  have hh := nm_step h hm
  rw [World.setCell_alloc_past (w := wr.alloc (.map #[] 0)) _ _ _ _ (by simp; omega), World.setCell_alloc_past (w := wr) _ _ _ _ hk, World.setCell_alloc_past (w := (wr.setCell _ _).alloc _) _ _ _ _ (by simp; omega), World.setCell_alloc_past (w := wr.setCell _ _) _ _ _ _ (by simp; omega)] at hh
  exact hh

theorem NM.drew {w wr : World} {a : Option Addr} {len cap N k : Nat} {L : Nat → Nat} {Z : Nat → Nat → Int} {s : Spots} (h : NM w wr a len cap N k L Z s) : NM w wr.drew a len cap N k L Z s :=
  ⟨⟨h.still.below.drew, h.still.g, h.still.load, h.still.ne, h.still.lo, h.still.hi⟩, h.size, h.may, h.rows, h.kept, h.added⟩

structure P37 (w : World) (a : Option Addr) (len cap N : Nat) (L : Nat → Nat) (Z : Nat → Nat → Int) (e : Ending) (w' : World) : Prop where
  out : ∃ s : Spots, e = .returned (.pointer (some ⟨w.heap.size + 4, 0, none⟩)) ∧ NM w w' a len cap N N L Z s
end Go.Proofs.Qxb6000048aMods
