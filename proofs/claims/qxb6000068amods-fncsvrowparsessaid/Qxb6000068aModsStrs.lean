/- Slices of strings: the bounds, b1CloneStrings, csvRow. -/
import Derived.Test.Qxb6000068aModsClone
import Derived.Test.Qxb6000068aModsRowp
namespace Go.Proofs.Qxb6000068aMods
open Go.RowKit Go.PlainAid

theorem Trym.info9 : (Trym.prog.info? 9).map (fun i => (i.zero, i.size, i.bytes)) = some (some (.string ByteArray.empty), 1, 16) := by kernel_rfl

/-- The slice '.slice a n c' holds the strings S. -/
structure Fs (w : World) (a : Option Addr) (n : Nat) (S : Nat → ByteArray) : Prop where
  at' : 0 < n → ∃ b o, a = some ⟨b, o, none⟩ ∧ ∀ i, i < n → w.cell? ⟨b, o + i, none⟩ = some (.string (S i))
theorem Fs.grown {w w' : World} {a : Option Addr} {n : Nat} {S : Nat → ByteArray} (h : Fs w a n S) (hg : w.grownBy w' none) : Fs w' a n S :=
  ⟨fun h0 => by
    obtain ⟨b, o, e, hc⟩ := h.at' h0
    exact ⟨b, o, e, fun i hi => grown_cell hg (hc i hi)⟩⟩

structure P18 (n1 n : Nat) (S : Nat → ByteArray) (w : World) (e : Ending) (w' : World) : Prop where
  out : ∃ b, e = .returned (.bool b) ∧ w' = w ∧ (b = true → n1 + n + sumS S n ≤ 1048576)

set_option maxHeartbeats 1000000 in
theorem f18_any (a1 : Option Addr) (n1 c1 : Nat) (a : Option Addr) (n c : Nat) (S : Nat → ByteArray) (w : World) (h : Fs w a n S) (hn1 : n1 ≤ 9223372036854775807) (hn : n ≤ 9223372036854775807) (hS : ∀ i, i < n → (S i).size ≤ 9223372036854775807) :
    Calls Trym.prog 18 #[.slice a1 n1 c1, .slice a n c] w (P18 n1 n S w) := by
  by_cases hbig : n1 + n ≤ 1048576
  · rcases Nat.eq_zero_or_pos n with h0 | h0
    · subst h0
      clear h hS
      go_enter Trym.func18, Trym.ntmps18
      go_wp2
      go_rounds 1
      go_ret
      exact ⟨⟨_, rfl, rfl, fun _ => by simp [sumS]; omega⟩⟩
    · obtain ⟨b, o, rfl, hc⟩ := h.at' h0
      have HC := hide hc
      have HS := hide hS
      clear hc hS h
      go_enter Trym.func18, Trym.ntmps18
      go_wp2
      go_loop [5, 6] (fun t i => ∃ k : Nat, k ≤ n ∧ i = .int .i64 k ∧ t = .int .i64 ((n1 + n + sumS S k : Nat) : Int) ∧ n1 + n + sumS S k ≤ 1048576) (fun _ i => n - (intOf i).toNat)
      case atStart => exact ⟨0, Nat.zero_le _, rfl, by simp [sumS], by simp [sumS]; omega⟩
      case round =>
        obtain ⟨k, hk, rfl, rfl, hle⟩ := hrel
        obtain ⟨z, hz⟩ : ∃ z : Nat, z = n1 + n + sumS S k := ⟨_, rfl⟩
        rw [← hz] at hle ⊢
        have HZ := hide hz
        clear hz
        by_cases hlt : k < n
        · have hcell := unhide HC k hlt
          have hSk := unhide HS k hlt
          go_wp2
          · go_ret
            exact ⟨⟨_, rfl, rfl, fun h => by cases h⟩⟩
          · go_ret
            exact ⟨⟨_, rfl, rfl, fun h => by cases h⟩⟩
          · go_round
            case rel => exact ⟨k + 1, by omega, by go_num, by rw [sumS, ← Nat.add_assoc, ← unhide HZ]; go_num, by rw [sumS]; have := unhide HZ; omega⟩
            case measure => simp [intOf]; omega
        · have hk' : k = n := by omega
          subst hk'
          go_wp2
          go_ret
          exact ⟨⟨_, rfl, rfl, fun _ => by have := unhide HZ; omega⟩⟩
  · clear h hS
    go_enter Trym.func18, Trym.ntmps18
    go_wp2
    all_goals go_ret
    all_goals exact ⟨⟨_, rfl, rfl, fun h => by cases h⟩⟩

structure P19 (w : World) (e : Ending) (w' : World) : Prop where
  out : ∃ b, e = .returned (.bool b) ∧ w' = w

set_option maxHeartbeats 1000000 in
theorem f19_any (a1 : Option Addr) (n1 c1 : Nat) (a : Option Addr) (n c : Nat) (S : Nat → ByteArray) (w : World) (h : Fs w a n S) (hn : n1 + n ≤ 1048576) (hS : ∀ i, i < n → (S i).size ≤ 1048576) :
    Calls Trym.prog 19 #[.slice a1 n1 c1, .slice a n c] w (P19 w) := by
  rcases Nat.eq_zero_or_pos n with h0 | h0
  · subst h0
    clear h hS
    go_enter Trym.func19, Trym.ntmps19
    go_wp2
    go_rounds 1
    go_ret
    exact ⟨⟨_, rfl, rfl⟩⟩
  · obtain ⟨b, o, rfl, hc⟩ := h.at' h0
    have HC := hide hc
    have HS := hide hS
    clear hc hS h
    by_cases hb : 65536 < n
    · go_enter Trym.func19, Trym.ntmps19
      go_wp2
      go_ret
      exact ⟨⟨_, rfl, rfl⟩⟩
    · by_cases hb2 : 1048576 < n1 + 16 * n
      · go_enter Trym.func19, Trym.ntmps19
        go_wp2
        go_ret
        exact ⟨⟨_, rfl, rfl⟩⟩
      · go_enter Trym.func19, Trym.ntmps19
        go_wp2
        go_loop [5, 6] (fun t i => ∃ (k : Nat) (z : Int), k ≤ n ∧ i = .int .i64 k ∧ t = .int .i64 z ∧ 0 ≤ z ∧ z ≤ 1048576) (fun _ i => n - (intOf i).toNat)
        case atStart => exact ⟨0, _, Nat.zero_le _, rfl, rfl, by omega, by omega⟩
        case round =>
          obtain ⟨k, z, hk, rfl, rfl, hz0, hz1⟩ := hrel
          by_cases hlt : k < n
          · have hcell := unhide HC k hlt
            have hSk := unhide HS k hlt
            go_wp2
            · go_ret
              exact ⟨⟨_, rfl, rfl⟩⟩
            · go_round
              case rel => exact ⟨k + 1, _, by omega, by go_num, rfl, by omega, by omega⟩
              case measure => simp [intOf]; omega
          · go_wp2
            go_ret
            exact ⟨⟨_, rfl, rfl⟩⟩

structure P20 (w : World) (n : Nat) (S : Nat → ByteArray) (e : Ending) (w' : World) : Prop where
  out : ∃ a' c', e = .returned (.slice a' n c') ∧ Fs w' a' n S ∧ w.grownBy w' none ∧ ∀ b o, a' = some ⟨b, o, none⟩ → w.heap.size ≤ b

structure SClone (w wr : World) (n : Nat) (S : Nat → ByteArray) (k : Nat) : Prop where
  kept : w.grownBy wr none
  row : ∃ f, wr.rowIs w.heap.size 9 n f ∧ ∀ i, i < k → f i = .string (S i)
theorem sclone_start (w : World) (n : Nat) (S : Nat → ByteArray) : SClone w (w.alloc (.cells (madeCells #[.string ByteArray.empty] n) 9)) n S 0 :=
  ⟨World.grownBy_alloc w _ none, _, World.rowIs_made w _ n 9, fun _ hi => absurd hi (Nat.not_lt_zero _)⟩
theorem sclone_step {w wr : World} {n : Nat} {S : Nat → ByteArray} {k : Nat} (h : SClone w wr n S k) : SClone w (wr.setCell ⟨w.heap.size, k, none⟩ (.string (S k))) n S (k + 1) := by
  obtain ⟨f, hf, h0⟩ := h.row
  refine ⟨⟨h.kept.os, h.kept.tape, h.kept.output, by simpa using h.kept.size, fun j hj hne => ?_⟩, _, hf.set k _, fun i hi => ?_⟩
  · rw [Below.heap_setCell _ _ _ _ (by show j ≠ w.heap.size; omega)]; exact h.kept.block j hj hne
  · by_cases e : i = k
    · subst e; simp
    · simp [e, h0 i (by omega)]
theorem sclone_done {w wr : World} {n : Nat} {S : Nat → ByteArray} (h : SClone w wr n S n) : P20 w n S (.returned (.slice (some ⟨w.heap.size, 0, none⟩) n n)) wr := by
  obtain ⟨f, hf, h0⟩ := h.row
  exact ⟨⟨_, n, rfl, ⟨fun _ => ⟨w.heap.size, 0, rfl, fun i hi => by rw [Nat.zero_add, hf.cell hi, h0 i hi]⟩⟩, h.kept, fun b o e => by cases e; exact Nat.le_refl _⟩⟩

set_option maxHeartbeats 1000000 in
theorem f20_any (a : Option Addr) (n c : Nat) (S : Nat → ByteArray) (w : World) (h : Fs w a n S) (hnil : a = none → n = 0 ∧ c = 0) (hn : n ≤ 1048576) :
    Calls Trym.prog 20 #[.slice a n c] w (P20 w n S) := by
  have q1 := fun wx => Lib.run_eql_slice_nil (P := Trym.prog) wx 31 9 a n c 0 0 Trym.underlying31
  cases a with
  | none =>
    obtain ⟨rfl, rfl⟩ := hnil rfl
    clear h
    go_enter Trym.func20, Trym.ntmps20
    go_wp2
    go_ret
    exact ⟨⟨none, 0, rfl, ⟨fun h => absurd h (by omega)⟩, grownBy_refl _ _, fun b o e => by cases e⟩⟩
  | some x =>
    have hmk := run_make_row' (P := Trym.prog) 31 9 (.string ByteArray.empty) 16 Trym.underlying31 Trym.info9 rfl .i64 .i64 n (by omega) (by omega)
    by_cases h0 : n ≤ 0
    · have HO : Hid (P20 w n S (.returned (.slice (some ⟨w.heap.size, 0, none⟩) n n)) (w.alloc (.cells (madeCells #[.string ByteArray.empty] n) 9))) := sclone_done (by
        have := sclone_start w n S
        obtain ⟨f, hf, _⟩ := this.row
        exact ⟨this.kept, f, hf, fun i hi => absurd hi (by omega)⟩)
      clear h
      go_enter Trym.func20, Trym.ntmps20
      go_wp2
      go_rounds 1
      go_ret
      exact unhide HO
    · obtain ⟨b, o, e, hc⟩ := h.at' (by omega)
      cases e
      have HC := hide hc
      clear hc h
      go_enter Trym.func20, Trym.ntmps20
      go_wp2
      clear q1 hmk
      go_loopw [4] (fun i wr => ∃ k : Nat, k ≤ n ∧ i = .int .i64 k ∧ SClone w wr n S k) (fun i _ => n - (intOf i).toNat)
      case atStart => exact ⟨0, Nat.zero_le _, rfl, sclone_start w n S⟩
      case round =>
        obtain ⟨k, hk, rfl, hI⟩ := hrel
        by_cases hlt : k < n
        · have g1 := grown_cell hI.kept (unhide HC k hlt)
          obtain ⟨f, hf, _⟩ := hI.row
          have g2 : wr.cell? ⟨w.heap.size, k, none⟩ = some (f k) := hf.cell hlt
          have g3 := hf.frozen k
          have HS := hide (sclone_step hI)
          clear hI hf
          go_wp2
          go_roundw
          case rel => exact ⟨k + 1, by omega, by go_num, unhide HS⟩
          case measure => simp [intOf]; omega
        · have hk' : k = n := by omega
          subst hk'
          have HO := hide (sclone_done hI)
          clear hI
          go_wp2
          go_ret
          exact unhide HO

structure P30 (w : World) (v : Value) (xs : List Int) (S : Nat → ByteArray) (n : Nat) (e : Ending) (w' : World) : Prop where
  out : ∃ v', e = .returned v' ∧ Owns w w' v.ownBlock v' (xs ++ rowTo S n ++ [10])

/-- csvField's contract from a slice that is owned since w. -/
theorem Owns.field {w wr w' : World} {b0 : Option Nat} {v v' : Value} {xs : List Int} {s : ByteArray} (h : Owns w wr b0 v xs) (k : Owns wr w' v.ownBlock v' (xs ++ csv (sl s))) : Owns w w' b0 v' (xs ++ csv (sl s)) :=
  h.next k.own k.kept k.spot

set_option maxHeartbeats 2000000 in
theorem f30_any (v : Value) (xs : List Int) (a : Option Addr) (n c : Nat) (S : Nat → ByteArray) (w : World) (hown : w.ownsRow 0 5 1 v xs.length (B xs)) (h : Fs w a n S) (hsep : ∀ b o, a = some ⟨b, o, none⟩ → some b ≠ v.ownBlock)
    (hn : xs.length + n + sumS S n ≤ 1048576) : Calls Trym.prog 30 #[v, .slice a n c] w (P30 w v xs S n) := by
  have HO := hide (Owns.start hown)
  clear hown
  rcases Nat.eq_zero_or_pos n with h0 | h0
  · subst h0
    clear h
    go_enter Trym.func30, Trym.ntmps30
    go_wp2
    refine wp_loop_rounds 1 ?_
    rw [rounds_succ]
    go_wp2_with (at_builtin; refine app1 rfl (.tmp 23) (.tmp 24) rfl w w v.ownBlock v xs 10 (unhide HO) rfl rfl (by omega) ?_; intro v1 w1 hO1)
    go_ret
    exact ⟨⟨v1, rfl, by simpa [rowTo] using unhide hO1⟩⟩
  · obtain ⟨b, o, rfl, hc⟩ := h.at' h0
    have hbne := hsep b o rfl
    have HNE := hide hbne
    have HC := hide hc
    clear hc h hsep hbne
    go_enter Trym.func30, Trym.ntmps30
    go_wp2
    go_loopw [0, 9] (fun v' i wr => ∃ k : Nat, k ≤ n ∧ i = .int .i64 k ∧ Owns w wr v.ownBlock v' (xs ++ rowTo S k)) (fun _ i _ => n - (intOf i).toNat)
    case atStart => exact ⟨0, Nat.zero_le _, rfl, by simpa [rowTo] using unhide HO⟩
    case round =>
      obtain ⟨k, hk, rfl, hO⟩ := hrel
      clear HO
      have HOk := hide hO
      have hl1 := rowTo_len S k
      have hl2 := sumS_mono S hk
      have hxl : (xs ++ rowTo S k).length ≤ 16777216 := by rw [List.length_append]; omega
      clear hO
      by_cases hlt : k < n
      · have hce : wr.cell? ⟨b, o + k, none⟩ = some (.string (S k)) := (unhide HOk).kept.cell (unhide HC k hlt) (unhide HNE)
        have hsz := size_le_sum S hlt
        by_cases hk0 : 0 < k
        · have HR : Hid (xs ++ rowTo S (k + 1) = xs ++ rowTo S k ++ [44] ++ csv (sl (S k))) := by
            show _ = _
            rw [rowTo, sep, if_pos hk0]; simp only [List.append_assoc]
          go_wp2_with (first | (at_builtin; refine app1 rfl (.tmp 16) (.tmp 17) rfl w wr v.ownBlock _ _ 44 (unhide HOk) rfl rfl (by omega) ?_; intro v2 w2 hO2) | (go_at_call 29; refine (f29_any _ _ (S k) _ (unhide hO2).own (by rw [List.length_append]; simp; omega) (by omega)).mono ?_; rintro e w3 ⟨v3, rfl, hO3⟩; have HO3 := hide ((unhide hO2).field hO3); clear hO3))
          go_roundw
          case rel => exact ⟨k + 1, by omega, by go_num, by rw [unhide HR]; exact unhide HO3⟩
          case measure => simp [intOf]; omega
        · have HR : Hid (xs ++ rowTo S (k + 1) = xs ++ rowTo S k ++ csv (sl (S k))) := by
            show _ = _
            rw [rowTo, sep, if_neg hk0]; simp only [List.append_assoc, List.append_nil]
          go_wp2_with (go_at_call 29; refine (f29_any _ _ (S k) _ (unhide HOk).own (by omega) (by omega)).mono ?_; rintro e w3 ⟨v3, rfl, hO3⟩; have HO3 := hide ((unhide HOk).field hO3); clear hO3)
          go_roundw
          case rel => exact ⟨k + 1, by omega, by go_num, by rw [unhide HR]; exact unhide HO3⟩
          case measure => simp [intOf]; omega
      · have hk' : k = n := by omega
        subst hk'
        go_wp2_with (at_builtin; refine app1 rfl (.tmp 23) (.tmp 24) rfl w wr v.ownBlock _ _ 10 (unhide HOk) rfl rfl (by omega) ?_; intro v1 w1 hO1)
        go_ret
        exact ⟨⟨v1, rfl, unhide hO1⟩⟩

theorem f21_any (v : Value) (xs : List Int) (a : Option Addr) (n c : Nat) (S : Nat → ByteArray) (w : World) (hown : w.ownsRow 0 5 1 v xs.length (B xs)) (h : Fs w a n S) (hsep : ∀ b o, a = some ⟨b, o, none⟩ → some b ≠ v.ownBlock)
    (hn : xs.length + n + sumS S n ≤ 1048576) : Calls Trym.prog 21 #[v, .slice a n c] w (P30 w v xs S n) := by
  have H := hide (f30_any v xs a n c S w hown h hsep hn)
  clear hown h hsep
  go_enter Trym.func21, Trym.ntmps21
  go_wp2_with fail
  refine (unhide H).mono ?_
  rintro e w' ⟨v', rfl, hO⟩
  have HO := hide hO
  clear hO H
  go_wp2
  go_ret
  exact ⟨⟨v', rfl, unhide HO⟩⟩
end Go.Proofs.Qxb6000068aMods
