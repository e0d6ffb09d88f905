/- cloneU16, index, allows, ZZAllows. -/
import Derived.Test.Qxb6000979aModsBase
namespace Go.Proofs.Qxb6000979aMods
open Go.RowKit

theorem Trym.info30 : (Trym.prog.info? 30).map (fun i => (i.zero, i.size, i.bytes)) = some (some (.int .u16 0), 1, 2) := by kernel_rfl

set_option maxHeartbeats 1000000 in
theorem f16_any (a : Option Addr) (n c : Nat) (g : Nat → Nat) (w : World) (h : Rw .u16 w a n g) (hnil : a = none → n = 0 ∧ c = 0) (hn : n ≤ 1048576) :
    Calls Trym.prog 16 #[.slice a n c] w (PC .u16 w n g) := by
  have q1 := fun wx => Lib.run_eql_slice_nil (P := Trym.prog) wx 29 30 a n c 0 0 Trym.underlying29
  cases a with
  | none =>
    obtain ⟨rfl, rfl⟩ := hnil rfl
    clear h
    go_enter Trym.func16, Trym.ntmps16
    go_wp2
    go_ret
    exact ⟨⟨none, 0, rfl, by omega, by omega, ⟨fun h => absurd h (by omega)⟩, Below.refl _ _⟩⟩
  | some x =>
    have hmk := run_make_row' (P := Trym.prog) 29 30 (.int .u16 0) 2 Trym.underlying29 Trym.info30 rfl .i64 .i64 n (by omega) (by omega)
    by_cases h0 : n ≤ 0
    · have HO := hide (row_none (k := .u16) (t := 30) (w := w) (g := g) h0)
      clear h
      go_enter Trym.func16, Trym.ntmps16
      go_wp2
      go_rounds 1
      go_ret
      exact ⟨⟨_, n, rfl, by omega, by omega, row_done (unhide HO), (unhide HO).below⟩⟩
    · obtain ⟨b, o, e, hc⟩ := h.at' (by omega)
      cases e
      have HC := hide hc
      clear hc h
      go_enter Trym.func16, Trym.ntmps16
      go_wp2
      clear q1 hmk
      go_loopw [4] (fun i wr => ∃ k : Nat, k ≤ n ∧ i = .int .i64 k ∧ RowAt .u16 30 w wr n g k) (fun i _ => n - (intOf i).toNat)
      case atStart => exact ⟨0, Nat.zero_le _, rfl, row_start .u16 30 w n g⟩
      case round =>
        obtain ⟨k, hk, rfl, hI⟩ := hrel
        by_cases hlt : k < n
        · have g1 := Below.cellOf hI.below (Nat.le_refl _) (unhide HC k hlt)
          obtain ⟨f, hf, _⟩ := hI.row
          have g2 : wr.cell? ⟨w.heap.size, k, none⟩ = some (f k) := hf.cell hlt
          have g3 := hf.frozen k
          have HS := hide (row_step hI)
          clear hI hf
          go_wp2
          go_roundw
          case rel => exact ⟨k + 1, by omega, by go_num, unhide HS⟩
          case measure => simp [intOf]; omega
        · have hk' : k = n := by omega
          subst hk'
          have HO := hide hI
          clear hI
          go_wp2
          go_ret
          exact ⟨⟨_, k, rfl, by omega, by omega, row_done (unhide HO), (unhide HO).below⟩⟩

structure P20 (w : World) (e : Ending) (w' : World) : Prop where
  out : ∃ b, e = .returned (.bool b) ∧ w' = w
theorem f20_any (a1 a2 : Option Addr) (n1 n2 c1 c2 : Nat) (w : World) (h1 : n1 ≤ 9223372036854775807) (h2 : n2 ≤ 9223372036854775807) : Calls Trym.prog 20 #[.slice a1 n1 c1, .slice a2 n2 c2] w (P20 w) := by
  go_enter Trym.func20, Trym.ntmps20
  go_wp2
  all_goals go_ret
  all_goals exact ⟨⟨_, rfl, rfl⟩⟩

structure P28 (w : World) (n : Nat) (g : Nat → Nat) (v : Nat) (e : Ending) (w' : World) : Prop where
  out : ∃ r : Int, e = .returned (.int .i64 r) ∧ w' = w ∧ (r < 0 ∧ (∀ j, j < n → g j ≠ v) ∨ 0 ≤ r ∧ ∃ j, j < n ∧ g j = v)

set_option maxHeartbeats 1000000 in
theorem f28_any (a : Option Addr) (n c : Nat) (g : Nat → Nat) (v : Nat) (w : World) (h : Rw .u16 w a n g) (hn : n ≤ 9223372036854775807) :
    Calls Trym.prog 28 #[.slice a n c, .int .u16 (v : Int)] w (P28 w n g v) := by
  by_cases h0 : n ≤ 0
  · clear h
    go_enter Trym.func28, Trym.ntmps28
    go_wp2
    go_rounds 1
    go_ret
    exact ⟨⟨_, rfl, rfl, .inl ⟨by decide, fun j hj => absurd hj (by omega)⟩⟩⟩
  · obtain ⟨b, o, rfl, hc⟩ := h.at' (by omega)
    have HC := hide hc
    clear hc h
    go_enter Trym.func28, Trym.ntmps28
    go_wp2
    go_loop [9] (fun i => ∃ k : Nat, k ≤ n ∧ i = .int .i64 k ∧ ∀ j, j < k → g j ≠ v) (fun i => n - (intOf i).toNat)
    case atStart => exact ⟨0, Nat.zero_le _, rfl, fun j hj => absurd hj (by omega)⟩
    case round =>
      obtain ⟨k, hk, rfl, hno⟩ := hrel
      have HN := hide hno
      clear hno
      by_cases hlt : k < n
      · have hcell := unhide HC k hlt
        obtain ⟨x, hx⟩ : ∃ x, x = g k := ⟨_, rfl⟩
        rw [← hx] at hcell
        have HX := hide hx
        clear hx
        by_cases he : x = v
        · have hb : ((x : Int) == (v : Int)) = true := by simp [he]
          have HE := hide he
          clear he
          go_wp2
          go_ret
          exact ⟨⟨_, rfl, rfl, .inr ⟨by simp, k, hlt, by rw [← unhide HX]; exact unhide HE⟩⟩⟩
        · have hb : ((x : Int) == (v : Int)) = false := by simp; omega
          have HE := hide he
          clear he
          go_wp2
          go_round
          case rel => exact ⟨k + 1, by omega, by go_num, fun j hj => by
            rcases Nat.lt_succ_iff_lt_or_eq.1 hj with h | h
            · exact unhide HN j h
            · subst h; rw [← unhide HX]; exact unhide HE⟩
          case measure => simp [intOf]; omega
      · go_wp2
        go_ret
        exact ⟨⟨_, rfl, rfl, .inl ⟨by decide, fun j hj => unhide HN j (by omega)⟩⟩⟩

theorem elem29 : Trym.prog.elem 29 = 30 := by simp [Program.elem, Trym.underlying29]
theorem under29 : Trym.prog.underlying 29 = some (.slice (Trym.prog.elem 29)) := by rw [elem29]; exact Trym.underlying29

/-- 'list[i+1:]'. -/
theorem tail_rw {w : World} {a : Option Addr} {n c k : Nat} {g : Nat → Nat} (h : Rw .u16 w a n g) (hc : n ≤ c) (hk : k < n) :
    ∃ a4 n4 c4, (∀ wx : World, (Instr.slice 29 (.slice a n c) (some (.int .i64 ((k : Int) + 1))) none none).run Trym.prog wx = .ok (.slice a4 n4 c4) wx) ∧ n4 = n - (k + 1) ∧ Rw .u16 w a4 n4 (fun j => g (k + 1 + j)) := by
  obtain ⟨i0, hi, hz0, hz1, hz2⟩ := info_parts Trym.info30
  refine ⟨if c = k + 1 then a else a.map (·.add ((k + 1) * 1)), n - (k + 1), c - (k + 1), fun wx => ?_, rfl, ⟨fun h0 => ?_⟩⟩
  · rw [run_slice_l wx 29 a n c under29 .i64 ((k : Int) + 1) (by omega) (by omega), elem29]
    have e : ((k : Int) + 1).toNat = k + 1 := by omega
    simp [sizeOf, typeInfo, hi, hz1, sliced, e]
  · obtain ⟨b, o, rfl, hc'⟩ := h.at' (by omega)
    rw [if_neg (by omega)]
    refine ⟨b, o + (k + 1), ?_, fun i hi' => ?_⟩
    · rw [Option.map_some, WideShapes.add_plain, Nat.mul_one]
    · have := hc' (k + 1 + i) (by omega)
      rw [Nat.add_assoc]
      exact this

structure P26 (w : World) (n : Nat) (g : Nat → Nat) (e : Ending) (w' : World) : Prop where
  out : e = .returned (.bool (noRep g n)) ∧ w' = w

set_option maxHeartbeats 1000000 in
theorem f26_any (p : Nat) (a : Option Addr) (n c : Nat) (g : Nat → Nat) (w : World) (hp : w.cell? ⟨p, 0, none⟩ = some (.bool false)) (h : Rw .u16 w a n g) (hc : n ≤ c) (hn : n ≤ 1048576) :
    Calls Trym.prog 26 #[.pointer (some ⟨p, 0, none⟩), .slice a n c] w (P26 w n g) := by
  by_cases h0 : n ≤ 0
  · have HE : Hid (noRep g n = true) := by show _ = _; rw [show n = 0 from by omega]; rfl
    clear h
    go_enter Trym.func26, Trym.ntmps26
    go_wp2
    go_rounds 1
    go_ret
    exact ⟨⟨ret_bool (unhide HE).symm, rfl⟩⟩
  · have HRW := hide h
    obtain ⟨b, o, rfl, hcc⟩ := h.at' (by omega)
    have HC := hide hcc
    clear hcc h
    go_enter Trym.func26, Trym.ntmps26
    go_wp2
    clear hp
    go_loop [19] (fun i => ∃ k : Nat, k ≤ n ∧ i = .int .i64 k ∧ ∀ i j, i < k → i < j → j < n → g j ≠ g i) (fun i => n - (intOf i).toNat)
    case atStart => exact ⟨0, Nat.zero_le _, rfl, fun i j hi => absurd hi (by omega)⟩
    case round =>
      obtain ⟨k, hk, rfl, hno⟩ := hrel
      have HN := hide hno
      clear hno
      by_cases hlt : k < n
      · have hcell := unhide HC k hlt
        obtain ⟨a4, n4, c4, hsl, hn4, hR4⟩ := tail_rw (unhide HRW) hc hlt
        have H28 := hide (fun v => f28_any a4 n4 c4 (fun j => g (k + 1 + j)) v w hR4 (by omega))
        have HN4 := hide hn4
        clear hn4 hR4
        go_wp2_with fail
        refine (unhide H28 _).mono ?_
        rintro e w' ⟨r, rfl, hw, hr⟩
        obtain rfl := hw.symm
        rcases hr with ⟨hr, hj⟩ | ⟨hr, j, hj, he⟩
        · have HJ := hide hj
          clear hj H28
          go_wp2
          go_round
          case rel => exact ⟨k + 1, by omega, by go_num, fun i j hi hij hj => by
            rcases Nat.lt_succ_iff_lt_or_eq.1 hi with h | h
            · exact unhide HN i j h hij hj
            · subst h
              have h2 := unhide HJ (j - (i + 1)) (by have := unhide HN4; omega)
              rwa [show i + 1 + (j - (i + 1)) = j from by omega] at h2⟩
          case measure => simp [intOf]; omega
        · have HE : Hid (noRep g n = false) := noRep_false (i := k) (j := k + 1 + j) (by omega) (by have := unhide HN4; omega) he
          clear he H28 hj
          go_wp2
          go_ret
          exact ⟨⟨ret_bool (unhide HE).symm, rfl⟩⟩
      · have HE : Hid (noRep g n = true) := (noRep_iff g n).2 (fun i j hij hj => unhide HN i j (by omega) hij hj)
        go_wp2
        go_ret
        exact ⟨⟨ret_bool (unhide HE).symm, rfl⟩⟩

structure P21 (w : World) (n : Nat) (g : Nat → Nat) (e : Ending) (w' : World) : Prop where
  out : e = .returned (.bool (noRep g n)) ∧ Below w.heap.size w w'

set_option maxHeartbeats 1000000 in
theorem f21_any (a1 : Option Addr) (n1 c1 : Nat) (a : Option Addr) (n c : Nat) (g : Nat → Nat) (w : World) (h : Rw .u16 w a n g) (hc : n ≤ c) (hn : n ≤ 1048576) :
    Calls Trym.prog 21 #[.bool false, .slice a1 n1 c1, .slice a n c] w (P21 w n g) := by
  have HRW := hide h
  clear h
  go_enter Trym.func21, Trym.ntmps21
  go_wp2_with fail
  refine (f26_any _ a n c g _ (World.cell?_alloc_at _ _ _ _ rfl) ((unhide HRW).below ((Below.refl _ _).alloc (Nat.le_refl _) _) (Nat.le_refl _)) hc hn).mono ?_
  rintro e w' ⟨rfl, rfl⟩
  go_wp2
  go_ret
  exact ⟨⟨rfl, (Below.refl _ _).alloc (Nat.le_refl _) _⟩⟩
end Go.Proofs.Qxb6000979aMods
