/- csvField, ZZcsvField. -/
import Derived.Test.Qxb6000068aModsOwn
import Derived.Deep.DeepCutAuto
import Derived.Deep.CutBlock
import Derived.Deep.Light
namespace Go.Proofs.Qxb6000068aMods
open Go.RowKit Go.PlainAid

structure P29 (w : World) (v : Value) (xs : List Int) (s : ByteArray) (e : Ending) (w' : World) : Prop where
  out : ∃ v', e = .returned v' ∧ Owns w w' v.ownBlock v' (xs ++ csv (sl s))

theorem spec_cases {c : Int} (h : spec c = true) : c = 44 ∨ c = 34 ∨ c = 13 ∨ c = 10 := by
  simp [spec] at h; omega
theorem spec_none {c : Int} (h : ¬ spec c = true) : (c == 44) = false ∧ (c == 34) = false ∧ (c == 13) = false ∧ (c == 10) = false := by
  simp [spec] at h; simp; omega

set_option maxHeartbeats 1000000 in
theorem f29_any (v : Value) (xs : List Int) (s : ByteArray) (w : World) (hown : w.ownsRow 0 5 1 v xs.length (B xs)) (hn : xs.length ≤ 549755813888) (hs : s.size ≤ 1048576) :
    Calls Trym.prog 29 #[v, .string s] w (P29 w v xs s) := by
  have hb := get_bt s
  have HO := hide (Owns.start hown)
  clear hown
  go_enter Trym.func29, Trym.ntmps29
  go_upto_block 0 with fail
  go_cut [5] (fun q wc => w = wc ∧ q = .bool (needs (sl s)))
  case first =>
    go_wp2_with fail
    go_loop [5, 6] (fun q i => ∃ k : Nat, k ≤ s.size ∧ i = .int .i64 k ∧ q = .bool false ∧ needs ((sl s).take k) = false) (fun _ i => s.size - (intOf i).toNat)
    case atStart => exact ⟨0, Nat.zero_le _, rfl, rfl, rfl⟩
    case round =>
      obtain ⟨k, hk, rfl, rfl, hno⟩ := hrel
      have HN := hide hno
      clear hno
      by_cases hlt : k < s.size
      · by_cases hsp : spec (bt s k) = true
        · have HY := hide (needs_of_spec hlt hsp)
          rcases spec_cases hsp with h | h | h | h
          all_goals
            have hq : (bt s k == 44) = decide (bt s k = 44) := by simp [h]
            clear hsp
            go_wp2
            go_meet
            exact ⟨rfl, by rw [unhide HY]⟩
        · obtain ⟨h1, h2, h3, h4⟩ := spec_none hsp
          have HNX : Hid (needs ((sl s).take (k + 1)) = false) := by
            show _ = _
            rw [needs_take hlt, unhide HN]; simpa using hsp
          clear hsp
          go_wp2
          go_round
          case rel => exact ⟨k + 1, by omega, by go_num, rfl, unhide HNX⟩
          case measure => simp [intOf]; omega
      · have HY : Hid (needs (sl s) = false) := by
          show _ = _
          have := unhide HN
          rwa [List.take_of_length_le (by rw [sl_length]; omega)] at this
        go_wp2
        go_meet
        exact ⟨rfl, by rw [unhide HY]⟩
  case rest =>
    obtain ⟨rfl, rfl⟩ := hcut
    have hsl := dbl_len (sl s)
    rw [sl_length] at hsl
    by_cases hne : needs (sl s) = true
    · have HC : Hid (csv (sl s) = 34 :: (dbl (sl s) ++ [34])) := by show _ = _; unfold csv; rw [if_pos hne]
      rw [hne]
      clear hne
      go_wp2_with (at_builtin; refine app1 rfl (.tmp 37) (.tmp 38) rfl w w v.ownBlock v xs 34 (unhide HO) rfl rfl (by omega) ?_; intro v1 w1 hO1)
      go_loopw [0, 8] (fun v' i wr => ∃ k : Nat, k ≤ s.size ∧ i = .int .i64 k ∧ Owns w wr v.ownBlock v' (xs ++ [34] ++ dbl ((sl s).take k))) (fun _ i _ => s.size - (intOf i).toNat)
      case atStart => exact ⟨0, Nat.zero_le _, rfl, by simpa [dbl] using unhide hO1⟩
      case round =>
        obtain ⟨k, hk, rfl, hO⟩ := hrel
        clear hO1
        have HOk := hide hO
        clear hO
        have hdl := dbl_len ((sl s).take k)
        have htl : ((sl s).take k).length ≤ k := List.length_take_le _ _
        have hxl : (xs ++ [34] ++ dbl ((sl s).take k)).length ≤ 1099511627776 - 10 := by simp; omega
        by_cases hlt : k < s.size
        · by_cases hq : bt s k = 34
          · have hqb : (bt s k == 34) = true := by simpa using hq
            have HD := hide (dbl_take_q hlt hq)
            clear hq
            go_wp2_with (first | (at_builtin; refine app1 rfl (.tmp 50) (.tmp 51) rfl w wr v.ownBlock _ _ 34 (unhide HOk) rfl rfl (by omega) ?_; intro v2 w2 hO2) | (at_builtin; refine app1 rfl (.tmp 53) (.tmp 57) rfl w w2 v.ownBlock _ _ (bt s k) (unhide hO2) rfl rfl (by rw [List.length_append]; simp; omega) ?_; intro v3 w3 hO3))
            go_roundw
            case rel => exact ⟨k + 1, by omega, by go_num, by rw [unhide HD, ← List.append_assoc, ← List.append_assoc]; exact unhide hO3⟩
            case measure => simp [intOf]; omega
          · have hqb : (bt s k == 34) = false := by simpa using hq
            have HD := hide (dbl_take_n hlt hq)
            clear hq
            go_wp2_with (at_builtin; refine app1 rfl (.tmp 53) (.tmp 57) rfl w wr v.ownBlock _ _ (bt s k) (unhide HOk) rfl rfl (by omega) ?_; intro v3 w3 hO3)
            go_roundw
            case rel => exact ⟨k + 1, by omega, by go_num, by rw [unhide HD, ← List.append_assoc]; exact unhide hO3⟩
            case measure => simp [intOf]; omega
        · have hk' : k = s.size := by omega
          subst hk'
          rw [sl_all] at HOk hxl
          clear hdl htl
          go_wp2_with (at_builtin; refine app1 rfl (.tmp 59) (.tmp 60) rfl w wr v.ownBlock _ _ 34 (unhide HOk) rfl rfl (by omega) ?_; intro v2 w2 hO2)
          go_ret
          refine ⟨⟨v2, rfl, ?_⟩⟩
          rw [unhide HC]
          have := unhide hO2
          simpa using this
    · have HC : Hid (csv (sl s) = sl s) := by show _ = _; unfold csv; rw [if_neg hne]
      have hnf : needs (sl s) = false := by simpa using hne
      rw [hnf]
      clear hne hnf
      go_wp2_with (at_builtin; refine appS rfl (.tmp 34) (.tmp 35) rfl w w v.ownBlock v xs s (unhide HO) rfl rfl (by omega) hs ?_; intro v1 w1 hO1)
      go_ret
      refine ⟨⟨v1, rfl, ?_⟩⟩
      rw [unhide HC]
      exact unhide hO1
end Go.Proofs.Qxb6000068aMods
