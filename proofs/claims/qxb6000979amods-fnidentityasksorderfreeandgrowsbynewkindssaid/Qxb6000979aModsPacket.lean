/- packetOf, find, Attribute, identityAsks, ZZIdentityAsks; cloneU8. -/
import Derived.Test.Qxb6000979aModsBase
namespace Go.Proofs.Qxb6000979aMods
open Go.RowKit

theorem Trym.info5 : (Trym.prog.info? 5).map (fun i => (i.zero, i.size, i.bytes)) = some (some (.int .u8 0), 1, 1) := by kernel_rfl
theorem Trym.info41 : (Trym.prog.info? 41).map (fun i => (i.zero, i.size, i.bytes)) = some (some (.agg #[.int .u8 0, .slice none 0 0, .slice none 0 0, .int .i64 0]), 4, 64) := by kernel_rfl

set_option maxHeartbeats 1000000 in
theorem f10_any (a : Option Addr) (n c : Nat) (g : Nat → Nat) (w : World) (h : Rw .u8 w a n g) (hnil : a = none → n = 0 ∧ c = 0) (hn : n ≤ 1048576) :
    Calls Trym.prog 10 #[.slice a n c] w (PC .u8 w n g) := by
  have q1 := fun wx => Lib.run_eql_slice_nil (P := Trym.prog) wx 22 5 a n c 0 0 Trym.underlying22
  cases a with
  | none =>
    obtain ⟨rfl, rfl⟩ := hnil rfl
    clear h
    go_enter Trym.func10, Trym.ntmps10
    go_wp2
    go_ret
    exact ⟨⟨none, 0, rfl, by omega, by omega, ⟨fun h => absurd h (by omega)⟩, Below.refl _ _⟩⟩
  | some x =>
    have hmk := run_make_row' (P := Trym.prog) 22 5 (.int .u8 0) 1 Trym.underlying22 Trym.info5 rfl .i64 .i64 n (by omega) (by omega)
    by_cases h0 : n ≤ 0
    · have HO := hide (row_none (k := .u8) (t := 5) (w := w) (g := g) h0)
      clear h
      go_enter Trym.func10, Trym.ntmps10
      go_wp2
      go_rounds 1
      go_ret
      exact ⟨⟨_, n, rfl, by omega, by omega, row_done (unhide HO), (unhide HO).below⟩⟩
    · obtain ⟨b, o, e, hc⟩ := h.at' (by omega)
      cases e
      have HC := hide hc
      clear hc h
      go_enter Trym.func10, Trym.ntmps10
      go_wp2
      clear q1 hmk
      go_loopw [4] (fun i wr => ∃ k : Nat, k ≤ n ∧ i = .int .i64 k ∧ RowAt .u8 5 w wr n g k) (fun i _ => n - (intOf i).toNat)
      case atStart => exact ⟨0, Nat.zero_le _, rfl, row_start .u8 5 w n g⟩
      case round =>
        obtain ⟨k, hk, rfl, hI⟩ := hrel
        by_cases hlt : k < n
        · have g1 := Below.cellOf hI.below (Nat.le_refl _) (unhide HC k hlt)
          obtain ⟨f, hf, _⟩ := hI.row
          have g2 : wr.cell? ⟨w.heap.size, k, none⟩ = some (f k) := hf.cell hlt
          have g3 := hf.frozen k
          have HS := hide (row_step hI)
          clear hI hf
          go_wp2
          go_roundw
          case rel => exact ⟨k + 1, by omega, by go_num, unhide HS⟩
          case measure => simp [intOf]; omega
        · have hk' : k = n := by omega
          subst hk'
          have HO := hide hI
          clear hI
          go_wp2
          go_ret
          exact ⟨⟨_, k, rfl, by omega, by omega, row_done (unhide HO), (unhide HO).below⟩⟩

/-- The cells of new attributes. -/
def attr0 (n : Nat) : Obj := .cells (madeCells #[.int .u8 0, .slice none 0 0, .slice none 0 0, .int .i64 0] (n * 4)) 41
theorem make_attrs (n : Nat) (hn : n ≤ 1048576) (w : World) : (Instr.makeSlice 39 (.int .i64 (n : Int)) (.int .i64 (n : Int))).run Trym.prog w = .ok (.slice (some ⟨w.heap.size, 0, none⟩) n n) (w.alloc (attr0 n)) := by
  obtain ⟨i0, hi, hz0, hz1, hz2⟩ := info_parts Trym.info41
  have hr := run_make (P := Trym.prog) w 39 41 i0 _ Trym.underlying39 hi hz0 .i64 .i64 n n (by omega) (by omega) (by rw [hz2]; omega) (by omega)
  simp only [Int.toNat_natCast, hz1] at hr
  exact hr

/-- Cell x of a row of attributes of which the first k bear their types. -/
def atf (g : Nat → Nat) (k x : Nat) : Value :=
  if x % 4 = 0 then .int .u8 ((if x / 4 < k then g (x / 4) else 0 : Nat) : Int) else if x % 4 = 3 then .int .i64 0 else .slice none 0 0
theorem atf0 (g : Nat → Nat) (k i : Nat) : atf g k (i * 4) = .int .u8 ((if i < k then g i else 0 : Nat) : Int) := by
  have h1 : i * 4 % 4 = 0 := by omega
  have h2 : i * 4 / 4 = i := by omega
  simp only [atf, h1, h2, if_true]
theorem atf1 (g : Nat → Nat) (k i : Nat) : atf g k (i * 4 + 1) = .slice none 0 0 := by
  have h1 : (i * 4 + 1) % 4 = 1 := by omega
  simp [atf, h1]
theorem atf2 (g : Nat → Nat) (k i : Nat) : atf g k (i * 4 + 2) = .slice none 0 0 := by
  have h1 : (i * 4 + 2) % 4 = 2 := by omega
  simp [atf, h1]
theorem atf3 (g : Nat → Nat) (k i : Nat) : atf g k (i * 4 + 3) = .int .i64 0 := by
  have h1 : (i * 4 + 3) % 4 = 3 := by omega
  simp [atf, h1]

structure AtRow (w wr : World) (n : Nat) (g : Nat → Nat) (k : Nat) : Prop where
  below : Below w.heap.size w wr
  row : wr.rowIs w.heap.size 41 (n * 4) (atf g k)
theorem atrow_start (w : World) (n : Nat) (g : Nat → Nat) : AtRow w (w.alloc (attr0 n)) n g 0 := by
  refine ⟨(Below.refl _ _).alloc (Nat.le_refl _) _, _, Deep.blk_alloc_new _ _, size_madeCells _ _, fun x hx => ?_⟩
  have h4 : x % 4 < 4 := by omega
  have hm : (madeCells #[.int .u8 0, .slice none 0 0, .slice none 0 0, .int .i64 0] (n * 4))[x]? = some ((#[.int .u8 0, .slice none 0 0, .slice none 0 0, .int .i64 0] : Array Value).getD (x % 4) default) := by
    simp [madeCells, hx]
  rw [hm]
  have : x % 4 = 0 ∨ x % 4 = 1 ∨ x % 4 = 2 ∨ x % 4 = 3 := by omega
  rcases this with h | h | h | h <;> simp [atf, h]
theorem atrow_step {w wr : World} {n : Nat} {g : Nat → Nat} {k : Nat} (h : AtRow w wr n g k) :
    AtRow w ((((wr.setCell ⟨w.heap.size, k * 4, none⟩ (.int .u8 (g k : Int))).setCell ⟨w.heap.size, k * 4 + 1, none⟩ (.slice none 0 0)).setCell ⟨w.heap.size, k * 4 + 2, none⟩ (.slice none 0 0)).setCell ⟨w.heap.size, k * 4 + 3, none⟩ (.int .i64 0)) n g (k + 1) := by
  refine ⟨(((h.below.setCell (Nat.le_refl _) _).setCell (Nat.le_refl _) _).setCell (Nat.le_refl _) _).setCell (Nat.le_refl _) _, ((((h.row.set _ _).set _ _).set _ _).set _ _).congr (fun x _ => ?_)⟩
  by_cases e : x / 4 = k
  · have hx : x = k * 4 + x % 4 := by omega
    have : x % 4 = 0 ∨ x % 4 = 1 ∨ x % 4 = 2 ∨ x % 4 = 3 := by omega
    rcases this with h | h | h | h
    · have ex : x = k * 4 := by omega
      subst ex
      rw [if_neg (by omega), if_neg (by omega), if_neg (by omega), if_pos rfl, atf0, if_pos (by omega)]
    · have ex : x = k * 4 + 1 := by omega
      subst ex
      rw [if_neg (by omega), if_neg (by omega), if_pos rfl, atf1]
    · have ex : x = k * 4 + 2 := by omega
      subst ex
      rw [if_neg (by omega), if_pos rfl, atf2]
    · have ex : x = k * 4 + 3 := by omega
      subst ex
      rw [if_pos rfl, atf3]
  · rw [if_neg (by omega), if_neg (by omega), if_neg (by omega), if_neg (by omega)]
    have e2 : (x / 4 < k + 1) ↔ (x / 4 < k) := by omega
    simp only [atf, e2]

/-- A packet at block p whose attributes, in the row q, bear the types g. -/
structure Pk (w : World) (p n : Nat) (g : Nat → Nat) : Prop where
  out : ∃ q, w.cell? ⟨p, 4, none⟩ = some (.slice (some ⟨q, 0, none⟩) n n) ∧ w.rowIs q 41 (n * 4) (atf g n)
theorem Pk.below {w w' : World} {p n B : Nat} {g : Nat → Nat} (h : Pk w p n g) (hb : Below B w w') (hB : w.heap.size ≤ B) : Pk w' p n g := by
  obtain ⟨q, hp, hr⟩ := h.out
  exact ⟨q, Below.cellOf hb hB hp, hr.of_block (hb.block _ (by have := hr.lt; omega))⟩

structure P12 (w : World) (n : Nat) (g : Nat → Nat) (e : Ending) (w' : World) : Prop where
  out : ∃ p, e = .returned (.pointer (some ⟨p, 0, none⟩)) ∧ Pk w' p n g ∧ Below w.heap.size w w'

set_option maxHeartbeats 1000000 in
theorem f12_any (a : Option Addr) (n c : Nat) (g : Nat → Nat) (w : World) (h : Rw .u8 w a n g) (hn : n ≤ 1048576) :
    Calls Trym.prog 12 #[.slice a n c] w (P12 w n g) := by
  have hmk := make_attrs n hn
  have HR := hide h
  clear h
  go_enter Trym.func12, Trym.ntmps12
  go_wp2
  clear hmk
  go_loopw [4] (fun i wr => ∃ k : Nat, k ≤ n ∧ i = .int .i64 k ∧ AtRow w wr n g k) (fun i _ => n - (intOf i).toNat)
  case atStart => exact ⟨0, Nat.zero_le _, rfl, atrow_start w n g⟩
  case round =>
    obtain ⟨k, hk, rfl, hI⟩ := hrel
    by_cases hlt : k < n
    · obtain ⟨b, o, rfl, hc⟩ := (unhide HR).at' (by omega)
      have g1 := Below.cellOf hI.below (Nat.le_refl _) (hc k hlt)
      clear hc
      obtain ⟨v0, c0⟩ : ∃ v, wr.cell? ⟨w.heap.size, k * 4, none⟩ = some v := ⟨_, hI.row.cell (by omega)⟩
      obtain ⟨v1, c1⟩ : ∃ v, wr.cell? ⟨w.heap.size, k * 4 + 1, none⟩ = some v := ⟨_, hI.row.cell (by omega)⟩
      obtain ⟨v2, c2⟩ : ∃ v, wr.cell? ⟨w.heap.size, k * 4 + 2, none⟩ = some v := ⟨_, hI.row.cell (by omega)⟩
      obtain ⟨v3, c3⟩ : ∃ v, wr.cell? ⟨w.heap.size, k * 4 + 3, none⟩ = some v := ⟨_, hI.row.cell (by omega)⟩
      have d0 : ∀ i, wr.frozen? ⟨w.heap.size, i, none⟩ = false := fun i => hI.row.frozen i
      have HS := hide (atrow_step hI)
      clear hI
      go_wp2
      go_roundw
      case rel => exact ⟨k + 1, by omega, by go_num, unhide HS⟩
      case measure => simp [intOf]; omega
    · have hk' : k = n := by omega
      subst hk'
      have HP : Hid (∀ o : Obj, ∀ v, o = .cells #[.int .u8 0, .int .u8 0, .int .u8 0, .int .u8 0, .slice (some ⟨w.heap.size, 0, none⟩) k k, .slice none 0 0, v] 44 → P12 w k g (.returned (.pointer (some ⟨wr.heap.size, 0, none⟩))) (wr.alloc o)) := by
        intro o v ho
        subst ho
        refine ⟨⟨wr.heap.size, rfl, ⟨w.heap.size, ?_, hI.row.alloc _⟩, hI.below.alloc hI.below.size _⟩⟩
        rw [World.cell?_alloc_at _ _ _ _ rfl]; rfl
      clear hI
      go_wp2
      go_ret
      exact unhide HP _ _ rfl
end Go.Proofs.Qxb6000979aMods
