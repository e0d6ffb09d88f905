/- find, Attribute, identityAsks, ZZIdentityAsks. -/
import Derived.Test.Qxb6000979aModsPacket
namespace Go.Proofs.Qxb6000979aMods
open Go.RowKit

/-- An attribute found, or the zero one. -/
def attrV (y : Nat) : Value := .agg #[.int .u8 (y : Int), .slice none 0 0, .slice none 0 0, .int .i64 0]

structure P29 (w : World) (n : Nat) (g : Nat → Nat) (t : Nat) (e : Ending) (w' : World) : Prop where
  out : ∃ y : Nat, e = .returned (.tuple #[.agg #[.int .u8 (y : Int), .slice none 0 0, .slice none 0 0, .int .i64 0], .bool (hasN g n t)]) ∧ Below w.heap.size w w'

set_option maxHeartbeats 2000000 in
theorem f29_any (q n : Nat) (g : Nat → Nat) (t : Nat) (w : World) (h : w.rowIs q 41 (n * 4) (atf g n)) (hn : n ≤ 1048576) :
    Calls Trym.prog 29 #[.slice (some ⟨q, 0, none⟩) n n, .int .u8 (t : Int)] w (P29 w n g t) := by
  have HR := hide h
  have hq := h.lt
  clear h
  go_enter Trym.func29, Trym.ntmps29
  go_wp2
  go_loopw [10] (fun i wr => ∃ k : Nat, k ≤ n ∧ i = .int .i64 k ∧ hasN g k t = false ∧ Below w.heap.size w wr ∧ wr.rowIs w.heap.size 41 4 (atf (fun _ => 0) 0)) (fun i _ => n - (intOf i).toNat)
  case atStart => exact ⟨0, Nat.zero_le _, rfl, rfl, (Below.refl _ _).alloc (Nat.le_refl _) _, (World.rowIs_alloc w _ 41 _ (fun i hi => by
    have : i = 0 ∨ i = 1 ∨ i = 2 ∨ i = 3 := by simp at hi; omega
    rcases this with rfl | rfl | rfl | rfl <;> rfl))⟩
  case round =>
    obtain ⟨k, hk, rfl, hno, hB, hres⟩ := hrel
    have HN := hide hno
    have HB := hide hB
    have HRES := hide hres
    have hsz : w.heap.size < wr.heap.size := hres.lt
    have r0 : wr.cell? ⟨w.heap.size, 0, none⟩ = some (.int .u8 0) := hres.cell (i := 0) (by omega)
    have r1 : wr.cell? ⟨w.heap.size, 1, none⟩ = some (.slice none 0 0) := hres.cell (i := 1) (by omega)
    have r2 : wr.cell? ⟨w.heap.size, 2, none⟩ = some (.slice none 0 0) := hres.cell (i := 2) (by omega)
    have r3 : wr.cell? ⟨w.heap.size, 3, none⟩ = some (.int .i64 0) := hres.cell (i := 3) (by omega)
    have rf : ∀ i, wr.frozen? ⟨w.heap.size, i, none⟩ = false := fun i => hres.frozen i
    clear hno hB hres
    by_cases hlt : k < n
    · have hrow := (unhide HR).of_block ((unhide HB).block q hq)
      obtain ⟨x, hx⟩ : ∃ x, x = g k := ⟨_, rfl⟩
      have c0 : wr.cell? ⟨q, k * 4, none⟩ = some (.int .u8 (x : Int)) := by rw [hrow.cell (by omega), atf0, if_pos hlt, hx]
      have c1 : wr.cell? ⟨q, k * 4 + 1, none⟩ = some (.slice none 0 0) := by rw [hrow.cell (by omega), atf1]
      have c2 : wr.cell? ⟨q, k * 4 + 2, none⟩ = some (.slice none 0 0) := by rw [hrow.cell (by omega), atf2]
      have c3 : wr.cell? ⟨q, k * 4 + 3, none⟩ = some (.int .i64 0) := by rw [hrow.cell (by omega), atf3]
      have HX := hide hx
      clear hrow hx
      by_cases he : x = t
      · have hb : ((x : Int) == (t : Int)) = true := by simp [he]
        have HE := hide he
        clear he
        have HY : Hid (hasN g n t = true) := (hasN_iff g t n).2 ⟨k, hlt, by rw [← unhide HX]; exact unhide HE⟩
        go_wp2
        refine bodyPost_ret (v := .tuple #[.agg #[.int .u8 (x : Int), .slice none 0 0, .slice none 0 0, .int .i64 0], .bool true]) (by simp [results, Trym.results29, go_sem, r0, r1, r2, r3, hsz]) rfl ?_
        refine ⟨⟨x, by rw [unhide HY], ?_⟩⟩
        exact ((((((unhide HB).setCell (Nat.le_refl _) _).setCell (Nat.le_refl _) _).setCell (Nat.le_refl _) _).setCell (Nat.le_refl _) _).alloc (by simp; omega) _)
      · have hb : ((x : Int) == (t : Int)) = false := by simp; omega
        have HE := hide he
        clear he
        have HNX : Hid (hasN g (k + 1) t = false) := by
          show _ = _
          have h2 : (g k == t) = false := by rw [← unhide HX]; simpa using unhide HE
          rw [hasN, unhide HN, h2]; rfl
        go_wp2
        go_roundw
        case rel => exact ⟨k + 1, by omega, by go_num, unhide HNX, (unhide HB).alloc (by omega) _, (unhide HRES).alloc _⟩
        case measure => simp [intOf]; omega
    · have HY : Hid (hasN g n t = false) := by
        show _ = _
        rw [show n = k from by omega]; exact unhide HN
      go_wp2
      refine bodyPost_ret (v := .tuple #[.agg #[.int .u8 0, .slice none 0 0, .slice none 0 0, .int .i64 0], .bool false]) (by simp [results, Trym.results29, go_sem, r0, r1, r2, r3]) rfl ?_
      refine ⟨⟨0, by rw [unhide HY]; rfl, ?_⟩⟩
      exact (((((unhide HB).setCell (Nat.le_refl _) _).setCell (Nat.le_refl _) _).setCell (Nat.le_refl _) _).setCell (Nat.le_refl _) _)

structure P27 (w : World) (n : Nat) (g : Nat → Nat) (t : Nat) (e : Ending) (w' : World) : Prop where
  out : ∃ y : Nat, e = .returned (.tuple #[.agg #[.int .u8 (y : Int), .slice none 0 0, .slice none 0 0, .int .i64 0], .bool (hasN g n t)]) ∧ Below w.heap.size w w'

set_option maxHeartbeats 2000000 in
theorem f27_any (p n : Nat) (g : Nat → Nat) (t : Nat) (w : World) (h : Pk w p n g) (hn : n ≤ 1048576) :
    Calls Trym.prog 27 #[.pointer (some ⟨p, 0, none⟩), .int .u8 (t : Int)] w (P27 w n g t) := by
  obtain ⟨q, hp, hr⟩ := h.out
  have hpl : p < w.heap.size := block_lt_of_cell hp
  have HR := hide hr
  clear h hr
  go_enter Trym.func27, Trym.ntmps27
  go_wp2_with fail
  refine (f29_any q n g t _ ((unhide HR).alloc _) hn).mono ?_
  rintro e w1 ⟨y, rfl, hB⟩
  have HB := hide hB
  have hsz : w.heap.size < w1.heap.size := by have := hB.size; simp at this; omega
  have rr : ∀ i v, (#[.int .u8 0, .slice none 0 0, .slice none 0 0, .int .i64 0] : Array Value)[i]? = some v → w1.cell? ⟨w.heap.size, i, none⟩ = some v := fun i v hv => by
    rw [hB.cell (p := ⟨w.heap.size, i, none⟩) (by simp), World.cell?_alloc_at _ _ _ _ rfl]; exact hv
  have r0 := rr 0 _ rfl
  have r1 := rr 1 _ rfl
  have r2 := rr 2 _ rfl
  have r3 := rr 3 _ rfl
  have rf : ∀ i, w1.frozen? ⟨w.heap.size, i, none⟩ = false := fun i => by
    rw [hB.frozen (p := ⟨w.heap.size, i, none⟩) (by simp), World.frozen?_alloc_at _ _ _ _ rfl]
  clear hB rr
  generalize hbb : hasN g n t = b
  have HBB := hide hbb
  clear hbb
  go_wp2
  refine bodyPost_ret (v := .tuple #[.agg #[.int .u8 (y : Int), .slice none 0 0, .slice none 0 0, .int .i64 0], .bool b]) (by simp [results, Trym.results27, go_sem, r0, r1, r2, r3]) rfl ?_
  refine ⟨⟨y, by rw [unhide HBB], ?_⟩⟩
  have hB1 : Below w.heap.size w w1 := ((Below.refl _ w).alloc (Nat.le_refl _) _).trans ((unhide HB).mono (by simp))
  exact ((((hB1.setCell (Nat.le_refl _) _).setCell (Nat.le_refl _) _).setCell (Nat.le_refl _) _).setCell (Nat.le_refl _) _)

/-- The three kinds, in the order in which identityAsks asks for them. -/
def kind : Nat → Nat
  | 0 => 10
  | 1 => 17
  | _ => 13
def b2n (b : Bool) : Nat := if b then 1 else 0
theorem b2n_le (b : Bool) : b2n b ≤ 1 := by unfold b2n; split <;> omega
/-- How many of the first k kinds are there. -/
def cnt (g : Nat → Nat) (n : Nat) : Nat → Nat
  | 0 => 0
  | k + 1 => cnt g n k + b2n (hasN g n (kind k))
theorem cnt_le (g : Nat → Nat) (n : Nat) : ∀ k, cnt g n k ≤ k
  | 0 => Nat.le_refl _
  | k + 1 => by have := cnt_le g n k; have := b2n_le (hasN g n (kind k)); simp only [cnt]; omega
/-- What identityAsks answers. -/
def asks (g : Nat → Nat) (n : Nat) : Nat := cnt g n 3

structure P24 (w : World) (n : Nat) (g : Nat → Nat) (e : Ending) (w' : World) : Prop where
  out : e = .returned (.int .i64 (asks g n : Int)) ∧ Below w.heap.size w w'

set_option maxHeartbeats 2000000 in
theorem f24_any (p n : Nat) (g : Nat → Nat) (w : World) (h : Pk w p n g) (hn : n ≤ 1048576) :
    Calls Trym.prog 24 #[.pointer (some ⟨p, 0, none⟩)] w (P24 w n g) := by
  have HP := hide h
  clear h
  go_enter Trym.func24, Trym.ntmps24
  go_wp2
  go_loopw [3, 10] (fun s i wr => ∃ k : Nat, k ≤ 3 ∧ i = .int .i64 k ∧ s = .int .i64 (cnt g n k : Int) ∧ Below w.heap.size w wr ∧ ∀ j, j < 3 → wr.cell? ⟨w.heap.size, j, none⟩ = some (.int .u8 (kind j : Int))) (fun _ i _ => 3 - (intOf i).toNat)
  case atStart => exact ⟨0, by omega, rfl, rfl, (Below.refl _ _).alloc (Nat.le_refl _) _, fun j hj => by
    rw [World.cell?_alloc_at _ _ _ _ rfl]
    have : j = 0 ∨ j = 1 ∨ j = 2 := by omega
    rcases this with rfl | rfl | rfl <;> rfl⟩
  case round =>
    obtain ⟨k, hk, rfl, rfl, hB, hc⟩ := hrel
    have HB := hide hB
    have HC := hide hc
    have hcl := cnt_le g n k
    clear hB hc
    by_cases hlt : k < 3
    · have hcell := unhide HC k hlt
      obtain ⟨t, ht⟩ : ∃ t, t = kind k := ⟨_, rfl⟩
      rw [← ht] at hcell
      have HT := hide ht
      clear ht
      have H27 := hide (f27_any p n g t wr ((unhide HP).below (unhide HB) (Nat.le_refl _)) hn)
      go_wp2_with fail
      refine (unhide H27).mono ?_
      rintro e w1 ⟨y, rfl, hB1⟩
      have HB1 := hide hB1
      have HW : Hid (∀ o : Obj, Below w.heap.size w (w1.alloc o) ∧ ∀ j, j < 3 → (w1.alloc o).cell? ⟨w.heap.size, j, none⟩ = some (.int .u8 (kind j : Int))) := by
        intro o
        have hbo : Below wr.heap.size wr (w1.alloc o) := hB1.alloc hB1.size o
        exact ⟨(unhide HB).trans (hbo.mono (unhide HB).size), fun j hj => Below.cellOf hbo (Nat.le_refl _) (unhide HC j hj)⟩
      clear hB1 H27
      cases hh : hasN g n t with
      | true =>
        have HX : Hid (cnt g n (k + 1) = cnt g n k + 1) := by show _ = _; rw [cnt, ← unhide HT, hh]; rfl
        clear hh
        go_wp2
        go_roundw
        case rel => exact ⟨k + 1, by omega, by go_num, by rw [unhide HX]; go_num, (unhide HW _).1, (unhide HW _).2⟩
        case measure => simp [intOf]; omega
      | false =>
        have HX : Hid (cnt g n (k + 1) = cnt g n k) := by show _ = _; rw [cnt, ← unhide HT, hh]; rfl
        clear hh
        go_wp2
        go_roundw
        case rel => exact ⟨k + 1, by omega, by go_num, by rw [unhide HX], (unhide HW _).1, (unhide HW _).2⟩
        case measure => simp [intOf]; omega
    · have HK : Hid (cnt g n k = asks g n) := by show _ = _; rw [show k = 3 from by omega]; rfl
      go_wp2
      go_ret
      exact ⟨⟨ret_int (by rw [unhide HK]), unhide HB⟩⟩

theorem f11_any (p n : Nat) (g : Nat → Nat) (w : World) (h : Pk w p n g) (hn : n ≤ 1048576) : Calls Trym.prog 11 #[.pointer (some ⟨p, 0, none⟩)] w (P24 w n g) := by
  have H := hide (f24_any p n g w h hn)
  clear h
  go_enter Trym.func11, Trym.ntmps11
  go_wp2_with fail
  refine (unhide H).mono ?_
  rintro e w' ⟨rfl, hB⟩
  have HB := hide hB
  clear hB H
  go_wp2
  go_ret
  exact ⟨⟨rfl, unhide HB⟩⟩
end Go.Proofs.Qxb6000979aMods
