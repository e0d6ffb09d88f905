/- A slice of slices of integers, as the walks want it; the leaf functions that only read. -/
import Derived.Test.Qxb6000048aModsRows
import Derived.WalkKit
import Derived.ProofKit
import Derived.OpenShut
import Derived.Handy
namespace Go.Proofs.Qxb6000048aMods
open Go.RowKit

theorem hide {p : Prop} (h : p) : Hid p := h
theorem unhide {p : Prop} (h : Hid p) : p := h

/-- A '[][]int' value ('.slice a len _') in the world w: row r is '.slice (A r) (L r) (C r)', its numbers 'Z r c'. -/
structure Tab (w : World) (a : Option Addr) (len : Nat) (A : Nat → Option Addr) (L C : Nat → Nat) (Z : Nat → Nat → Int) : Prop where
  top : 0 < len → ∃ b o, a = some ⟨b, o, none⟩ ∧ ∀ r, r < len → w.cell? ⟨b, o + r, none⟩ = some (.slice (A r) (L r) (C r))
  row : ∀ r, r < len → 0 < L r → ∃ b o, A r = some ⟨b, o, none⟩ ∧ ∀ c, c < L r → w.cell? ⟨b, o + c, none⟩ = some (.int .i64 (Z r c))

structure P8 (len : Nat) (L : Nat → Nat) (w : World) (e : Ending) (w' : World) : Prop where
  out : ∃ b, e = .returned (.bool b) ∧ w' = w ∧ (b = true → len ≤ 1048576 ∧ ∀ r, r < len → L r ≤ 1048576)

set_option maxHeartbeats 400000 in
theorem f8_any (n : Int) (a : Option Addr) (len cap : Nat) (A : Nat → Option Addr) (L C : Nat → Nat) (Z : Nat → Nat → Int) (w : World) (h : Tab w a len A L C Z)
    (hlen : len ≤ 9223372036854775807) (hL : ∀ r, r < len → L r ≤ 9223372036854775807) :
    Calls Trym.prog 8 #[.int .i64 n, .slice a len cap] w (P8 len L w) := by
  rcases Nat.eq_zero_or_pos len with h0 | h0
  · subst h0
    go_enter Trym.func8, Trym.ntmps8
    go_wp2
    go_rounds 1
    go_ret
    exact ⟨⟨_, rfl, rfl, fun _ => ⟨by omega, fun r hr => absurd hr (by omega)⟩⟩⟩
  · obtain ⟨b, o, rfl, hc⟩ := h.top h0
    have HC := hide hc
    have HL := hide hL
    clear hc hL h
    by_cases hbig : len ≤ 1048576
    · go_enter Trym.func8, Trym.ntmps8
      go_wp2
      go_loop [5, 6] (fun t i => ∃ (k : Nat) (z : Int), k ≤ len ∧ i = .int .i64 k ∧ t = .int .i64 z ∧ 0 ≤ z ∧ z ≤ 1048576 ∧ ∀ r, r < k → L r ≤ 1048576) (fun _ i => len - (intOf i).toNat)
      case atStart => exact ⟨0, _, Nat.zero_le _, rfl, rfl, by omega, by omega, fun r hr => absurd hr (by omega)⟩
      case round =>
        obtain ⟨k, z, hk, rfl, rfl, hz0, hz1, hr⟩ := hrel
        have HR := hide hr
        clear hr
        by_cases hlt : k < len
        · have hcell := unhide HC k hlt
          have hLk := unhide HL k hlt
          go_wp2
          · go_ret
            exact ⟨⟨_, rfl, rfl, fun h => by cases h⟩⟩
          · go_ret
            exact ⟨⟨_, rfl, rfl, fun h => by cases h⟩⟩
          · go_round
            case rel => exact ⟨k + 1, _, by omega, by go_num, rfl, by omega, by omega, fun r hr => by
              rcases Nat.lt_succ_iff_lt_or_eq.1 hr with h | h
              · exact unhide HR r h
              · subst h; omega⟩
            case measure => simp [intOf]; omega
        · go_wp2
          go_ret
          exact ⟨⟨_, rfl, rfl, fun _ => ⟨hbig, fun r hr => unhide HR r (by omega)⟩⟩⟩
    · go_enter Trym.func8, Trym.ntmps8
      go_wp2
      go_ret
      exact ⟨⟨_, rfl, rfl, fun h => by cases h⟩⟩
end Go.Proofs.Qxb6000048aMods
