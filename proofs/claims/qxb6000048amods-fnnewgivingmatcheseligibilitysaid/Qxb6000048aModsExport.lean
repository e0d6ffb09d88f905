/- ZZNewGiving. -/
import Derived.Test.Qxb6000048aModsGive
import Derived.Deep.QuietTactic
import Derived.BigQuiet
import Derived.WideLaws
namespace Go.Proofs.Qxb6000048aMods
open Go.RowKit

/-- What the law then reads: 'may', two rows of sizes, 'load'. -/
structure P12 (w : World) (len N : Nat) (L : Nat → Nat) (Z : Nat → Nat → Int) (e : Ending) (w' : World) : Prop where
  out : ∃ Bm Bk Ba Bl : Nat, ∃ M : Nat → Nat, e = .returned (.tuple #[.slice (some ⟨Bm, 0, none⟩) len len, .slice (some ⟨Bk, 0, none⟩) N N, .slice (some ⟨Ba, 0, none⟩) N N, .slice (some ⟨Bl, 0, none⟩) N N]) ∧
    Below w.heap.size w w' ∧ w'.rowIs Bm 30 len (fun r => .slice (some ⟨M r, 0, none⟩) N N) ∧ (∀ r, r < len → w'.rowIs (M r) 4 N (fun i => .bool (hasB (Z r) (L r) i))) ∧
    w'.rowIs Bk 3 N (fun _ => .int .i64 0) ∧ w'.rowIs Ba 3 N (fun _ => .int .i64 0) ∧ w'.rowIs Bl 3 N (fun _ => .int .i64 0)

/-- The first k cells are 0. -/
def zerosTo (k : Nat) : Nat → Value := fun i => if i < k then .int .i64 0 else .int .i64 0

/-- ZZNewGiving's first loop: a new row q behind the giving's memory W1; nothing else turns. -/
structure Sizes (W1 wr : World) (q N k : Nat) : Prop where
  below : Below q W1 wr
  size : wr.heap.size = q + 1
  row : ∃ f, wr.rowIs q 3 N f ∧ ∀ i, i < k → f i = .int .i64 0

theorem sizes_start (W1 : World) (N : Nat) : Sizes W1 (W1.alloc (.cells (madeCells #[.int .i64 0] N) 3)) W1.heap.size N 0 :=
  ⟨(Below.refl _ _).alloc (Nat.le_refl _) _, by simp, _, World.rowIs_made W1 _ N 3, fun i hi => absurd hi (Nat.not_lt_zero _)⟩

theorem sizes_step {W1 wr : World} {q N k : Nat} (h : Sizes W1 wr q N k) : Sizes W1 ((wr.setCell ⟨q, k, none⟩ (.int .i64 (-1))).setCell ⟨q, k, none⟩ (.int .i64 0)) q N (k + 1) := by
  obtain ⟨f, hf, h0⟩ := h.row
  refine ⟨(h.below.setCell (Nat.le_refl _) _).setCell (Nat.le_refl _) _, by simp [h.size], _, (hf.set k _).set k _, fun i hi => ?_⟩
  by_cases e : i = k
  · simp [e]
  · simp [e, h0 i (by omega)]

theorem drewN_heap (w : World) (n : Nat) : (w.drewN n).heap = w.heap := rfl
theorem P12.drewN {w w' : World} {len N : Nat} {L : Nat → Nat} {Z : Nat → Nat → Int} {e : Ending} (h : P12 w len N L Z e w') (n : Nat) : P12 w len N L Z e (w'.drewN n) := by
  obtain ⟨Bm, Bk, Ba, Bl, M, he, hb, h1, h2, h3, h4, h5⟩ := h.out
  exact ⟨⟨Bm, Bk, Ba, Bl, M, he, ⟨hb.os, hb.tape, hb.output, hb.size, hb.block⟩, h1, h2, h3, h4, h5⟩⟩

theorem Sizes.zero {W1 wr : World} {q N : Nat} (h : Sizes W1 wr q N N) : wr.rowIs q 3 N (fun _ => .int .i64 0) := by
  obtain ⟨f, hf, h0⟩ := h.row
  exact hf.congr h0

theorem mapsRow_below {w w' : World} {B b n k S : Nat} (h : mapsRow w S b n k) (hb : Below B w w') (hB : w.heap.size ≤ B) : mapsRow w' S b n k := by
  obtain ⟨f, hf, hm⟩ := h
  have hl := hf.lt
  refine ⟨f, hf.of_block (hb.block b (by omega)), fun i hi => ?_⟩
  obtain ⟨m, e, hS, hh⟩ := hm i hi
  have hml : m < w.heap.size := (Array.getElem?_eq_some_iff.1 hh).1
  exact ⟨m, e, hS, (hb.block m (by omega)).trans hh⟩

theorem NM.below {w W1 W2 : World} {a : Option Addr} {len cap N k B : Nat} {L : Nat → Nat} {Z : Nat → Nat → Int} {s : Spots} (h : NM w W1 a len cap N k L Z s) (hb : Below B W1 W2) (hB : W1.heap.size ≤ B) : NM w W2 a len cap N k L Z s := by
  have hz := h.size
  have hg := h.still.g.lt
  have hl := h.still.load.lt
  have hm := h.may.lt
  exact ⟨⟨h.still.below.trans (hb.mono (by omega)), h.still.g.of_block (hb.block _ (by omega)), h.still.load.of_block (hb.block _ (by omega)), h.still.ne, h.still.lo, h.still.hi⟩, Nat.le_trans hz hb.size, h.may.of_block (hb.block _ (by omega)),
    fun r hr => (h.rows r hr).of_block (hb.block _ (by have := (h.rows r hr).lt; omega)), mapsRow_below h.kept hb hB, mapsRow_below h.added hb hB⟩

set_option maxHeartbeats 2000000 in
theorem f12_any (N : Nat) (a : Option Addr) (len cap : Nat) (A : Nat → Option Addr) (L C : Nat → Nat) (Z : Nat → Nat → Int) (w : World) (h : Tab w a len A L C Z)
    (hlen : len ≤ 1048576) (hL : ∀ r, r < len → L r ≤ 1048576) (hN : N ≤ 65536) (hZ : ∀ r, r < len → ∀ c, c < L r → 0 ≤ Z r c ∧ Z r c < N) :
    Calls Trym.prog 12 #[.int .i64 N, .slice a len cap] w (P12 w len N L Z) := by
  have hmk3 := run_make_row' (P := Trym.prog) 27 3 (.int .i64 0) 8 Trym.underlying27 Trym.info3 rfl .i64 .i64 N (by omega) (by omega)
  have H37 := hide (f37_any N a len cap A L C Z w h hlen hL hN hZ)
  clear h hL hZ
  go_enter Trym.func12, Trym.ntmps12
  go_wp2_with fail
  refine (unhide H37).mono ?_
  rintro e W1 ⟨s, rfl, hM⟩
  clear H37
  have g2 : W1.cell? ⟨w.heap.size + 4, 2, none⟩ = some (.slice (some ⟨s.k, 0, none⟩) N N) := hM.still.g.cell (i := 2) (by omega)
  have hgl := hM.still.g.lt
  have HM := hide hM
  clear hM
  go_wp2
  go_loopw [25] (fun i wr => ∃ k : Nat, k ≤ N ∧ i = .int .i64 k ∧ Sizes W1 wr W1.heap.size N k) (fun i _ => N - (intOf i).toNat)
  case atStart => exact ⟨0, Nat.zero_le _, rfl, sizes_start W1 N⟩
  case round =>
    obtain ⟨k, hk, rfl, hI⟩ := hrel
    clear g2
    by_cases hkN : k < N
    · have hM := unhide HM
      obtain ⟨fk, hfk, hmaps⟩ := hM.kept
      have hkl := hfk.lt
      obtain ⟨m, hfm, hmB, hmm⟩ := hmaps k hkN
      have hml : m < W1.heap.size := (Array.getElem?_eq_some_iff.1 hmm).1
      have g2 : wr.cell? ⟨w.heap.size + 4, 2, none⟩ = some (.slice (some ⟨s.k, 0, none⟩) N N) := Below.cellOf hI.below (Nat.le_refl _) (hM.still.g.cell (i := 2) (by omega))
      have g3 : wr.cell? ⟨s.k, k, none⟩ = some (.map (some m)) := by rw [← hfm]; exact Below.cellOf hI.below (Nat.le_refl _) (hfk.cell hkN)
      have g4 : ∀ v, (wr.setCell ⟨W1.heap.size, k, none⟩ v).heap[m]? = some (.map #[] 0) := fun v => by
        rw [Below.heap_setCell _ _ _ _ (by show m ≠ W1.heap.size; omega), hI.below.block m hml]; exact hmm
      have q1 := fun wx => run_neq_map_nil (P := Trym.prog) wx 59 _ _ (some m) Trym.underlying59
      have q3 : ∀ v, (Builtin.len_ #[59] 3 #[.map (some m)]).run Trym.prog (wr.setCell ⟨W1.heap.size, k, none⟩ v) = .ok (goInt 0) (wr.setCell ⟨W1.heap.size, k, none⟩ v) := fun v =>
        run_len_map (P := Trym.prog) (wr.setCell ⟨W1.heap.size, k, none⟩ v) 59 3 m #[] 0 (by simp [Program.mapKeyOf, Program.mapElemOf, Trym.underlying59]) (g4 v)
      obtain ⟨f, hf, _⟩ := hI.row
      have s1 : wr.cell? ⟨W1.heap.size, k, none⟩ = some (f k) := hf.cell hkN
      have s2 : wr.frozen? ⟨W1.heap.size, k, none⟩ = false := hf.frozen k
      have n1 : w.heap.size + 4 ≠ W1.heap.size := by omega
      have n2 : s.k ≠ W1.heap.size := by omega
      have HS := hide (sizes_step hI)
      clear hM hfk hmaps hfm hmm hI hf g4
      go_wp2
      go_roundw
      case rel => exact ⟨k + 1, by omega, by go_num, unhide HS⟩
      case measure => simp [intOf]; omega
    · have hk' : k = N := by omega
      subst hk'
      obtain ⟨W2, hW2⟩ : ∃ W2, W2 = wr := ⟨_, rfl⟩
      subst hW2
      have hM2 := (unhide HM).below hI.below (Nat.le_refl _)
      have hz2 : W1.heap.size < W2.heap.size := by rw [hI.size]; omega
      have R1 := hide hI.zero
      clear HM hI hgl
      have g2 : W2.cell? ⟨w.heap.size + 4, 3, none⟩ = some (.slice (some ⟨s.a, 0, none⟩) k k) := hM2.still.g.cell (i := 3) (by omega)
      have hgl := hM2.still.g.lt
      have HM := hide hM2
      clear hM2
      obtain ⟨N, hN'⟩ : ∃ N, N = k := ⟨_, rfl⟩
      subst hN'
      clear hkN hk
      go_wp2
      go_loopw [62] (fun i wr => ∃ k : Nat, k ≤ N ∧ i = .int .i64 k ∧ Sizes W2 wr W2.heap.size N k) (fun i _ => N - (intOf i).toNat)
      case atStart => exact ⟨0, Nat.zero_le _, rfl, sizes_start W2 N⟩
      case round =>
        obtain ⟨k, hk, rfl, hI⟩ := hrel
        clear g2
        by_cases hkN : k < N
        · have hM := unhide HM
          obtain ⟨fk, hfk, hmaps⟩ := hM.added
          have hkl := hfk.lt
          obtain ⟨m, hfm, hmB, hmm⟩ := hmaps k hkN
          have hml : m < W2.heap.size := (Array.getElem?_eq_some_iff.1 hmm).1
          have g2 : wr.cell? ⟨w.heap.size + 4, 3, none⟩ = some (.slice (some ⟨s.a, 0, none⟩) N N) := Below.cellOf hI.below (Nat.le_refl _) (hM.still.g.cell (i := 3) (by omega))
          have g3 : wr.cell? ⟨s.a, k, none⟩ = some (.map (some m)) := by rw [← hfm]; exact Below.cellOf hI.below (Nat.le_refl _) (hfk.cell hkN)
          have g4 : ∀ v, (wr.setCell ⟨W2.heap.size, k, none⟩ v).heap[m]? = some (.map #[] 0) := fun v => by
            rw [Below.heap_setCell _ _ _ _ (by show m ≠ W2.heap.size; omega), hI.below.block m hml]; exact hmm
          have q1 := fun wx => run_neq_map_nil (P := Trym.prog) wx 59 _ _ (some m) Trym.underlying59
          have q3 : ∀ v, (Builtin.len_ #[59] 3 #[.map (some m)]).run Trym.prog (wr.setCell ⟨W2.heap.size, k, none⟩ v) = .ok (goInt 0) (wr.setCell ⟨W2.heap.size, k, none⟩ v) := fun v =>
            run_len_map (P := Trym.prog) (wr.setCell ⟨W2.heap.size, k, none⟩ v) 59 3 m #[] 0 (by simp [Program.mapKeyOf, Program.mapElemOf, Trym.underlying59]) (g4 v)
          obtain ⟨f, hf, _⟩ := hI.row
          have s1 : wr.cell? ⟨W2.heap.size, k, none⟩ = some (f k) := hf.cell hkN
          have s2 : wr.frozen? ⟨W2.heap.size, k, none⟩ = false := hf.frozen k
          have n1 : w.heap.size + 4 ≠ W2.heap.size := by omega
          have n2 : s.a ≠ W2.heap.size := by omega
          have HS := hide (sizes_step hI)
          clear hM hfk hmaps hfm hmm hI hf g4
          go_wp2
          go_roundw
          case rel => exact ⟨k + 1, by omega, by go_num, unhide HS⟩
          case measure => simp [intOf]; omega
        · have hk' : k = N := by omega
          subst hk'
          have hM := (unhide HM).below hI.below (Nat.le_refl _)
          have r2 := hI.zero
          have r1 := (unhide R1).of_block (hI.below.block _ (by omega))
          have g1 : wr.cell? ⟨w.heap.size + 4, 1, none⟩ = some (.slice (some ⟨s.m, 0, none⟩) len len) := hM.still.g.cell (i := 1) (by omega)
          have g4 : wr.cell? ⟨w.heap.size + 4, 4, none⟩ = some (.slice (some ⟨s.l, 0, none⟩) k k) := hM.still.g.cell (i := 4) (by omega)
          have HF : Hid (P12 w len k L Z (.returned (.tuple #[.slice (some ⟨s.m, 0, none⟩) len len, .slice (some ⟨W1.heap.size, 0, none⟩) k k, .slice (some ⟨W2.heap.size, 0, none⟩) k k, .slice (some ⟨s.l, 0, none⟩) k k])) wr) :=
            ⟨⟨s.m, W1.heap.size, W2.heap.size, s.l, fun r => w.heap.size + 5 + r, rfl, hM.still.below, hM.may.congr (fun r hr => by simp [mayTop, hr]), hM.rows, r1, r2, hM.still.load⟩⟩
          clear hM r1 r2 hI
          go_wp2
          go_quiet (fail)
          go_wp2
          refine bodyPost_ret (v := .tuple #[.slice (some ⟨s.m, 0, none⟩) len len, .slice (some ⟨W1.heap.size, 0, none⟩) k k, .slice (some ⟨W2.heap.size, 0, none⟩) k k, .slice (some ⟨s.l, 0, none⟩) k k]) (by simp [results, Trym.results12, go_sem]) rfl ((unhide HF).drewN nq)
end Go.Proofs.Qxb6000048aMods
