/- zzNewGivingIn. -/
import Derived.Test.Qxb6000048aModsReads
import Derived.Deep.QuietTactic
import Derived.BigQuiet
namespace Go.Proofs.Qxb6000048aMods
open Go.RowKit

structure P10 (n : Int) (len : Nat) (L : Nat → Nat) (Z : Nat → Nat → Int) (w : World) (e : Ending) (w' : World) : Prop where
  out : ∃ b m, e = .returned (.bool b) ∧ w' = w.drewN m ∧ (b = true → 0 ≤ n ∧ n ≤ 65536 ∧ ∀ r, r < len → ∀ c, c < L r → 0 ≤ Z r c ∧ Z r c < n)

theorem Tab.drewN {w : World} {a : Option Addr} {len : Nat} {A : Nat → Option Addr} {L C : Nat → Nat} {Z : Nat → Nat → Int} (h : Tab w a len A L C Z) (m : Nat) : Tab (w.drewN m) a len A L C Z :=
  ⟨fun h0 => by simpa using h.top h0, fun r hr h0 => by simpa using h.row r hr h0⟩

set_option maxHeartbeats 1000000 in
theorem f10_any (n : Int) (a : Option Addr) (len cap : Nat) (A : Nat → Option Addr) (L C : Nat → Nat) (Z : Nat → Nat → Int) (w : World) (h : Tab w a len A L C Z)
    (hlen : len ≤ 1048576) (hL : ∀ r, r < len → L r ≤ 1048576) :
    Calls Trym.prog 10 #[.int .i64 n, .slice a len cap] w (P10 n len L Z w) := by
  have HT := hide h
  have HL := hide hL
  have hs := sumL_bd L len hL len (Nat.le_refl _)
  clear h hL
  by_cases h1 : n < 0
  · go_enter Trym.func10, Trym.ntmps10
    go_wp2_with (go_at_call 9; refine (f9_any _ _ _ A L C Z _ (unhide HT) hlen (unhide HL)).mono ?_; rintro e w' ⟨t, rfl, hw⟩; obtain rfl := hw.symm)
    all_goals go_ret
    all_goals exact ⟨⟨_, 0, rfl, rfl, fun h => by cases h⟩⟩
  by_cases h2 : 65536 < n
  · go_enter Trym.func10, Trym.ntmps10
    go_wp2_with (go_at_call 9; refine (f9_any _ _ _ A L C Z _ (unhide HT) hlen (unhide HL)).mono ?_; rintro e w' ⟨t, rfl, hw⟩; obtain rfl := hw.symm)
    all_goals go_ret
    all_goals exact ⟨⟨_, 0, rfl, rfl, fun h => by cases h⟩⟩
  rcases Nat.eq_zero_or_pos len with h0 | h0
  · subst h0
    by_cases hn : 0 < n
    · go_enter Trym.func10, Trym.ntmps10
      go_wp2_with (go_at_call 9; refine (f9_any _ _ _ A L C Z _ (unhide HT) hlen (unhide HL)).mono ?_; rintro e w' ⟨t, rfl, hw⟩; obtain rfl := hw.symm)
      · go_ret
        exact ⟨⟨_, 0, rfl, rfl, fun h => by cases h⟩⟩
      · go_quiet ((go_at_call 35; exact Calls.quiet_of_same (f35_any _ _ _ A L C Z _ ((unhide HT).drewN _) hlen (unhide HL))))
        go_wp2_with (go_at_call 36; refine (f36_any _ _ _ _ A L C Z _ ((unhide HT).drewN _) hlen (unhide HL)).mono ?_; rintro e w' ⟨b, rfl, rfl, hb⟩; have HB := hide hb; clear hb)
        all_goals go_ret
        all_goals first | exact ⟨⟨_, nq, rfl, rfl, fun h => ⟨by omega, by omega, unhide HB h⟩⟩⟩ | exact ⟨⟨_, nq, rfl, rfl, fun h => by cases h⟩⟩
    · have hd : decide (0 < n) = false := decide_eq_false hn
      go_enter Trym.func10, Trym.ntmps10
      go_wp2_with (go_at_call 9; refine (f9_any _ _ _ A L C Z _ (unhide HT) hlen (unhide HL)).mono ?_; rintro e w' ⟨t, rfl, hw⟩; obtain rfl := hw.symm)
      · go_ret
        exact ⟨⟨_, 0, rfl, rfl, fun h => by cases h⟩⟩
      · go_quiet (fail)
        go_wp2_with (go_at_call 36; refine (f36_any _ _ _ _ A L C Z _ ((unhide HT).drewN _) hlen (unhide HL)).mono ?_; rintro e w' ⟨b, rfl, rfl, hb⟩; have HB := hide hb; clear hb)
        all_goals go_ret
        all_goals first | exact ⟨⟨_, nq, rfl, rfl, fun h => ⟨by omega, by omega, unhide HB h⟩⟩⟩ | exact ⟨⟨_, nq, rfl, rfl, fun h => by cases h⟩⟩
  · by_cases hq : (4194304 : Int) / (len : Int) < n
    · go_enter Trym.func10, Trym.ntmps10
      go_wp2_with (go_at_call 9; refine (f9_any _ _ _ A L C Z _ (unhide HT) hlen (unhide HL)).mono ?_; rintro e w' ⟨t, rfl, hw⟩; obtain rfl := hw.symm)
      all_goals go_ret
      all_goals exact ⟨⟨_, 0, rfl, rfl, fun h => by cases h⟩⟩
    · by_cases hn : 0 < n
      · go_enter Trym.func10, Trym.ntmps10
        go_wp2_with (go_at_call 9; refine (f9_any _ _ _ A L C Z _ (unhide HT) hlen (unhide HL)).mono ?_; rintro e w' ⟨t, rfl, hw⟩; obtain rfl := hw.symm)
        · go_ret
          exact ⟨⟨_, 0, rfl, rfl, fun h => by cases h⟩⟩
        · go_quiet ((go_at_call 35; exact Calls.quiet_of_same (f35_any _ _ _ A L C Z _ ((unhide HT).drewN _) hlen (unhide HL))))
          go_wp2_with (go_at_call 36; refine (f36_any _ _ _ _ A L C Z _ ((unhide HT).drewN _) hlen (unhide HL)).mono ?_; rintro e w' ⟨b, rfl, rfl, hb⟩; have HB := hide hb; clear hb)
          all_goals go_ret
          all_goals first | exact ⟨⟨_, nq, rfl, rfl, fun h => ⟨by omega, by omega, unhide HB h⟩⟩⟩ | exact ⟨⟨_, nq, rfl, rfl, fun h => by cases h⟩⟩
      · have hd : decide (0 < n) = false := decide_eq_false hn
        go_enter Trym.func10, Trym.ntmps10
        go_wp2_with (go_at_call 9; refine (f9_any _ _ _ A L C Z _ (unhide HT) hlen (unhide HL)).mono ?_; rintro e w' ⟨t, rfl, hw⟩; obtain rfl := hw.symm)
        · go_ret
          exact ⟨⟨_, 0, rfl, rfl, fun h => by cases h⟩⟩
        · go_quiet (fail)
          go_wp2_with (go_at_call 36; refine (f36_any _ _ _ _ A L C Z _ ((unhide HT).drewN _) hlen (unhide HL)).mono ?_; rintro e w' ⟨b, rfl, rfl, hb⟩; have HB := hide hb; clear hb)
          all_goals go_ret
          all_goals first | exact ⟨⟨_, nq, rfl, rfl, fun h => ⟨by omega, by omega, unhide HB h⟩⟩⟩ | exact ⟨⟨_, nq, rfl, rfl, fun h => by cases h⟩⟩
end Go.Proofs.Qxb6000048aMods
