/- The functions that only read: zzBytesInts, zzIdCount, zzHas, zzIdsOK. -/
import Derived.Test.Qxb6000048aModsTab
namespace Go.Proofs.Qxb6000048aMods
open Go.RowKit

structure P9 (w : World) (e : Ending) (w' : World) : Prop where
  out : ∃ t : Int, e = .returned (.int .i64 t) ∧ w' = w

set_option maxHeartbeats 400000 in
theorem f9_any (a : Option Addr) (len cap : Nat) (A : Nat → Option Addr) (L C : Nat → Nat) (Z : Nat → Nat → Int) (w : World) (h : Tab w a len A L C Z)
    (hlen : len ≤ 1048576) (hL : ∀ r, r < len → L r ≤ 1048576) :
    Calls Trym.prog 9 #[.slice a len cap] w (P9 w) := by
  rcases Nat.eq_zero_or_pos len with h0 | h0
  · subst h0
    go_enter Trym.func9, Trym.ntmps9
    go_wp2
    go_rounds 1
    go_ret
    exact ⟨⟨_, rfl, rfl⟩⟩
  · obtain ⟨b, o, rfl, hc⟩ := h.top h0
    have HC := hide hc
    have HL := hide hL
    clear hc hL h
    go_enter Trym.func9, Trym.ntmps9
    go_wp2
    go_loop [3, 13] (fun t i => ∃ (k : Nat) (z : Int), k ≤ len ∧ i = .int .i64 k ∧ t = .int .i64 z ∧ 0 ≤ z ∧ z ≤ 8388608) (fun _ i => len - (intOf i).toNat)
    case atStart => exact ⟨0, _, Nat.zero_le _, rfl, rfl, by omega, by omega⟩
    case round =>
      obtain ⟨k, z, hk, rfl, rfl, hz0, hz1⟩ := hrel
      by_cases hlt : k < len
      · have hcell := unhide HC k hlt
        have hLk := unhide HL k hlt
        go_wp2
        · go_ret
          exact ⟨⟨_, rfl, rfl⟩⟩
        · go_round
          case rel => exact ⟨k + 1, _, by omega, by go_num, rfl, by omega, by omega⟩
          case measure => simp [intOf]; omega
      · go_wp2
        go_ret
        exact ⟨⟨_, rfl, rfl⟩⟩

/-- The sum of the first k lengths. -/
def sumL (L : Nat → Nat) : Nat → Int
  | 0 => 0
  | k + 1 => sumL L k + L k
theorem sumL_bd (L : Nat → Nat) (len : Nat) (hL : ∀ r, r < len → L r ≤ 1048576) : ∀ k, k ≤ len → 0 ≤ sumL L k ∧ sumL L k ≤ 1048576 * (k : Int)
  | 0, _ => by simp [sumL]
  | k + 1, hk => by
    have ih := sumL_bd L len hL k (by omega)
    have := hL k (by omega)
    simp only [sumL]
    omega

theorem ret_int {k : IntKind} {a b : Int} (h : a = b) : Ending.returned (.int k a) = .returned (.int k b) := by rw [h]
theorem ret_bool {a b : Bool} (h : a = b) : Ending.returned (.bool a) = .returned (.bool b) := by rw [h]

set_option maxHeartbeats 400000 in
theorem f35_any (a : Option Addr) (len cap : Nat) (A : Nat → Option Addr) (L C : Nat → Nat) (Z : Nat → Nat → Int) (w : World) (h : Tab w a len A L C Z)
    (hlen : len ≤ 1048576) (hL : ∀ r, r < len → L r ≤ 1048576) :
    Calls Trym.prog 35 #[.slice a len cap] w fun e w' => e = .returned (.int .i64 (sumL L len)) ∧ w' = w := by
  rcases Nat.eq_zero_or_pos len with h0 | h0
  · subst h0
    go_enter Trym.func35, Trym.ntmps35
    go_wp2
    go_rounds 1
    go_ret
    exact ⟨rfl, rfl⟩
  · obtain ⟨b, o, rfl, hc⟩ := h.top h0
    have HC := hide hc
    have HL := hide hL
    clear hc hL h
    go_enter Trym.func35, Trym.ntmps35
    go_wp2
    go_loop [3, 7] (fun t i => ∃ (k : Nat), k ≤ len ∧ i = .int .i64 k ∧ t = .int .i64 (sumL L k)) (fun _ i => len - (intOf i).toNat)
    case atStart => exact ⟨0, Nat.zero_le _, rfl, rfl⟩
    case round =>
      obtain ⟨k, hk, rfl, rfl⟩ := hrel
      have hb := sumL_bd L len (unhide HL) k hk
      by_cases hlt : k < len
      · have hcell := unhide HC k hlt
        have hLk := unhide HL k hlt
        go_wp2
        go_round
        case rel => exact ⟨k + 1, by omega, by go_num, rfl⟩
        case measure => simp [intOf]; omega
      · have hk' : k = len := by omega
        subst hk'
        go_wp2
        go_ret
        exact ⟨rfl, rfl⟩

/-- Is v among the first n values of f? -/
def hasB (f : Nat → Int) : Nat → Int → Bool
  | 0, _ => false
  | n + 1, v => hasB f n v || f n == v
theorem hasB_iff (f : Nat → Int) (v : Int) : ∀ n, hasB f n v = true ↔ ∃ c, c < n ∧ f c = v
  | 0 => by simp [hasB]
  | n + 1 => by
    simp only [hasB, Bool.or_eq_true, beq_iff_eq, hasB_iff f v n]
    constructor
    · rintro (⟨c, hc, e⟩ | e)
      · exact ⟨c, by omega, e⟩
      · exact ⟨n, by omega, e⟩
    · rintro ⟨c, hc, e⟩
      rcases Nat.lt_succ_iff_lt_or_eq.1 hc with h | h
      · exact .inl ⟨c, h, e⟩
      · subst h; exact .inr e

structure P13 (f : Nat → Int) (n : Nat) (v : Int) (w : World) (e : Ending) (w' : World) : Prop where
  out : e = .returned (.bool (hasB f n v)) ∧ w' = w

set_option maxHeartbeats 400000 in
theorem f13_p (a : Option Addr) (n cap : Nat) (f : Nat → Int) (v : Int) (w : World) (hn : n ≤ 9223372036854775807)
    (hc : 0 < n → ∃ b o, a = some ⟨b, o, none⟩ ∧ ∀ c, c < n → w.cell? ⟨b, o + c, none⟩ = some (.int .i64 (f c))) :
    Calls Trym.prog 13 #[.slice a n cap, .int .i64 v] w (P13 f n v w) := by
  rcases Nat.eq_zero_or_pos n with h0 | h0
  · subst h0
    go_enter Trym.func13, Trym.ntmps13
    go_wp2
    go_rounds 1
    go_ret
    exact ⟨⟨rfl, rfl⟩⟩
  · obtain ⟨b, o, rfl, hc1⟩ := hc h0
    have HC := hide hc1
    clear hc1 hc
    go_enter Trym.func13, Trym.ntmps13
    go_wp2
    go_loop [9] (fun i => ∃ (k : Nat), k ≤ n ∧ i = .int .i64 k ∧ hasB f k v = false) (fun i => n - (intOf i).toNat)
    case atStart => exact ⟨0, Nat.zero_le _, rfl, rfl⟩
    case round =>
      obtain ⟨k, hk, rfl, hno⟩ := hrel
      have HN := hide hno
      clear hno
      by_cases hlt : k < n
      · have hcell := unhide HC k hlt
        by_cases he : f k = v
        · have hb : (f k == v) = true := by simpa using he
          have hyes : hasB f n v = true := (hasB_iff f v n).2 ⟨k, hlt, he⟩
          have HY := hide hyes
          clear hyes he
          go_wp2
          go_ret
          exact ⟨⟨ret_bool (unhide HY).symm, rfl⟩⟩
        · have hb : (f k == v) = false := by simpa using he
          go_wp2
          go_round
          case rel => exact ⟨k + 1, by omega, by go_num, by simp only [hasB, unhide HN, hb, Bool.or_self]⟩
          case measure => simp [intOf]; omega
      · have hk' : k = n := by omega
        subst hk'
        go_wp2
        go_ret
        exact ⟨⟨ret_bool (unhide HN).symm, rfl⟩⟩

theorem f13_any (a : Option Addr) (n cap : Nat) (f : Nat → Int) (v : Int) (w : World) (hn : n ≤ 9223372036854775807)
    (hc : 0 < n → ∃ b o, a = some ⟨b, o, none⟩ ∧ ∀ c, c < n → w.cell? ⟨b, o + c, none⟩ = some (.int .i64 (f c))) :
    Calls Trym.prog 13 #[.slice a n cap, .int .i64 v] w fun e w' => e = .returned (.bool (hasB f n v)) ∧ w' = w :=
  (f13_p a n cap f v w hn hc).mono fun _ _ h => h.out

structure P36 (n : Int) (len : Nat) (L : Nat → Nat) (Z : Nat → Nat → Int) (w : World) (e : Ending) (w' : World) : Prop where
  out : ∃ b, e = .returned (.bool b) ∧ w' = w ∧ (b = true → ∀ r, r < len → ∀ c, c < L r → 0 ≤ Z r c ∧ Z r c < n)

set_option maxHeartbeats 800000 in
theorem f36_any (n : Int) (a : Option Addr) (len cap : Nat) (A : Nat → Option Addr) (L C : Nat → Nat) (Z : Nat → Nat → Int) (w : World) (h : Tab w a len A L C Z)
    (hlen : len ≤ 1048576) (hL : ∀ r, r < len → L r ≤ 1048576) :
    Calls Trym.prog 36 #[.int .i64 n, .slice a len cap] w (P36 n len L Z w) := by
  rcases Nat.eq_zero_or_pos len with h0 | h0
  · subst h0
    go_enter Trym.func36, Trym.ntmps36
    go_wp2
    go_rounds 1
    go_ret
    exact ⟨⟨_, rfl, rfl, fun _ r hr => absurd hr (by omega)⟩⟩
  · obtain ⟨b, o, rfl, hc⟩ := h.top h0
    have HC := hide hc
    have HL := hide hL
    have HROW := hide h.row
    clear hc hL h
    go_enter Trym.func36, Trym.ntmps36
    go_wp2
    go_loop [10] (fun i => ∃ (k : Nat), k ≤ len ∧ i = .int .i64 k ∧ ∀ r, r < k → ∀ c, c < L r → 0 ≤ Z r c ∧ Z r c < n) (fun i => len - (intOf i).toNat)
    case atStart => exact ⟨0, Nat.zero_le _, rfl, fun r hr => absurd hr (by omega)⟩
    case round =>
      obtain ⟨k, hk, rfl, hr⟩ := hrel
      have HR := hide hr
      clear hr
      by_cases hlt : k < len
      · have hcell := unhide HC k hlt
        have hLk := unhide HL k hlt
        rcases Nat.eq_zero_or_pos (L k) with hz | hz
        · rw [hz] at hcell
          have HZ := hide hz
          clear hz hLk
          go_wp2
          go_rounds 1
          go_round
          case rel => exact ⟨k + 1, by omega, by go_num, fun r hr c hc => by
            rcases Nat.lt_succ_iff_lt_or_eq.1 hr with h | h
            · exact unhide HR r h c hc
            · subst h; rw [unhide HZ] at hc; exact absurd hc (by omega)⟩
          case measure => simp [intOf]; omega
        · obtain ⟨b', o', hA, hcc⟩ := unhide HROW k hlt hz
          rw [hA] at hcell
          have HCC := hide hcc
          clear hA hcc
          go_wp2
          go_loop [18] (fun i => ∃ (j : Nat), j ≤ L k ∧ i = .int .i64 j ∧ ∀ c, c < j → 0 ≤ Z k c ∧ Z k c < n) (fun i => L k - (intOf i).toNat)
          case atStart => exact ⟨0, Nat.zero_le _, rfl, fun c hc => absurd hc (by omega)⟩
          case round =>
            obtain ⟨j, hj, rfl, hjr⟩ := hrel
            have HJ := hide hjr
            clear hjr
            by_cases hjl : j < L k
            · have hcj := unhide HCC j hjl
              by_cases h1 : Z k j < 0
              · go_wp2
                go_ret
                exact ⟨⟨_, rfl, rfl, fun h => by cases h⟩⟩
              · by_cases h2 : n ≤ Z k j
                · go_wp2
                  go_ret
                  exact ⟨⟨_, rfl, rfl, fun h => by cases h⟩⟩
                · go_wp2
                  go_round
                  case rel => exact ⟨j + 1, by omega, by go_num, fun c hc => by
                    rcases Nat.lt_succ_iff_lt_or_eq.1 hc with h | h
                    · exact unhide HJ c h
                    · subst h; omega⟩
                  case measure => simp [intOf]; omega
            · have hj' : j = L k := by omega
              go_wp2
              go_round
              case rel => exact ⟨k + 1, by omega, by go_num, fun r hr c hc => by
                rcases Nat.lt_succ_iff_lt_or_eq.1 hr with h | h
                · exact unhide HR r h c hc
                · subst h; exact unhide HJ c (by omega)⟩
              case measure => simp [intOf]; omega
      · go_wp2
        go_ret
        exact ⟨⟨_, rfl, rfl, fun _ r hr => unhide HR r (by omega)⟩⟩
end Go.Proofs.Qxb6000048aMods
