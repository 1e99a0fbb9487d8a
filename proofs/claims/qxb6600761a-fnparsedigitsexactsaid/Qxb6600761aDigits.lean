/-
  The walk of FnParseDigitsExact.
-/
import Derived.Test.Qxb6600761aParse
namespace Go.Proofs.Qxb6600761a
open Go.RowKit

theorem digN_step (B : Nat → Int) (k : Nat) (h : 48 ≤ B k ∧ B k ≤ 57) : digN B (k + 1) = digN B k + 1 := by rw [digN, if_pos h]
theorem digN_stay (B : Nat → Int) (k : Nat) (h : ¬ (48 ≤ B k ∧ B k ≤ 57)) : digN B (k + 1) = digN B k := by rw [digN, if_neg h]

set_option maxRecDepth 100000 in
set_option maxHeartbeats 1000000 in
theorem law6_no (s : ByteArray) (w : World) (hs : s.size ≤ 1048576) (hbad : ¬ ∀ j, j < s.size → 48 ≤ bt s j ∧ bt s j ≤ 57) :
    Calls Try.prog 6 #[.string s] w fun e w' => e = .returned (.bool true) ∧ w' = w := by
  have hd : decide (s.size ≤ 1048576) = true := by simpa using hs
  go_enter Try.func6, Try.ntmps6
  go_wp2_with fail
  refine (bytes13 s _ (by unfold maxLen; omega)).mono ?_
  rintro e w ⟨rfl, rfl⟩
  go_wp2_with fail
  refine (parse14_no s _ (by omega) hbad).mono ?_
  rintro e w ⟨rfl, rfl⟩
  go_wp2_with fail
  go_loop [5, 6] (fun d i => ∃ k : Nat, k ≤ s.size ∧ i = .int .i64 k ∧ d = .int .i64 (digN (bt s) k)) (fun _ i => s.size - (intOf i).toNat)
  case atStart => exact ⟨0, Nat.zero_le _, rfl, rfl⟩
  case round =>
    obtain ⟨k, hk, rfl, rfl⟩ := hrel
    have hdl := digN_le (bt s) k
    by_cases hlt : k < s.size
    · have hb := bt_at s k hlt
      by_cases h1 : 48 ≤ bt s k
      · have d1 : decide (48 ≤ bt s k) = true := by simpa using h1
        by_cases h2 : bt s k ≤ 57
        · have d2 : decide (bt s k ≤ 57) = true := by simpa using h2
          have HS : Hid (digN (bt s) (k + 1) = digN (bt s) k + 1) := digN_step _ _ ⟨h1, h2⟩
          go_wp2
          go_round
          case rel => exact ⟨k + 1, by omega, by go_num, by rw [HS.out]; go_num⟩
          case measure => simp [intOf]; omega
        · have d2 : decide (bt s k ≤ 57) = false := by simpa using h2
          have HS : Hid (digN (bt s) (k + 1) = digN (bt s) k) := digN_stay _ _ (fun h => h2 h.2)
          go_wp2
          go_round
          case rel => exact ⟨k + 1, by omega, by go_num, by rw [HS.out]⟩
          case measure => simp [intOf]; omega
      · have d1 : decide (48 ≤ bt s k) = false := by simpa using h1
        have HS : Hid (digN (bt s) (k + 1) = digN (bt s) k) := digN_stay _ _ (fun h => h1 h.1)
        go_wp2
        go_round
        case rel => exact ⟨k + 1, by omega, by go_num, by rw [HS.out]⟩
        case measure => simp [intOf]; omega
    · obtain rfl : k = s.size := by omega
      have hne : ((digN (bt s) s.size : Int) != (s.size : Int)) = true := by
        rw [bne_iff_ne]
        intro e
        exact hbad (digN_all (bt s) s.size (by omega))
      go_wp2
      go_ret
      exact ⟨rfl, rfl⟩

set_option maxRecDepth 100000 in
set_option maxHeartbeats 1000000 in
theorem law6_yes (s : ByteArray) (w : World) (hs : s.size ≤ 1048576) (hall : ∀ j, j < s.size → 48 ≤ bt s j ∧ bt s j ≤ 57) :
    Calls Try.prog 6 #[.string s] w fun e w' => e = .returned (.bool true) ∧ w' = w := by
  have hd : decide (s.size ≤ 1048576) = true := by simpa using hs
  go_enter Try.func6, Try.ntmps6
  go_wp2_with fail
  refine (bytes13 s _ (by unfold maxLen; omega)).mono ?_
  rintro e w ⟨rfl, rfl⟩
  go_wp2_with fail
  refine (parse14_yes s _ (by omega) hall).mono ?_
  rintro e w ⟨rfl, rfl⟩
  obtain ⟨V, hV⟩ : ∃ V, wrap64 (exV (bt s) s.size) = V := ⟨_, rfl⟩
  rw [hV]
  have HV : Hid (wrap64 (exV (bt s) s.size) = V) := hV
  clear hV
  go_wp2_with fail
  go_loop [5, 6] (fun d i => ∃ k : Nat, k ≤ s.size ∧ i = .int .i64 k ∧ d = .int .i64 k) (fun _ i => s.size - (intOf i).toNat)
  case atStart => exact ⟨0, Nat.zero_le _, rfl, rfl⟩
  case round =>
    obtain ⟨k, hk, rfl, rfl⟩ := hrel
    by_cases hlt : k < s.size
    · have hb := bt_at s k hlt
      obtain ⟨h1, h2⟩ := hall k hlt
      have d1 : decide (48 ≤ bt s k) = true := by simpa using h1
      have d2 : decide (bt s k ≤ 57) = true := by simpa using h2
      go_wp2
      go_round
      case rel => exact ⟨k + 1, by omega, by go_num, by go_num⟩
      case measure => simp [intOf]; omega
    · obtain rfl : k = s.size := by omega
      have hne : ((s.size : Int) != (s.size : Int)) = false := by simp
      go_wp2
      go_loop [7, 8, 9] (fun x p i => ∃ (t : Nat) (W P : Int), t ≤ s.size ∧ i = .int .i64 ((s.size : Int) - 1 - t) ∧ x = .int .i64 W ∧ p = .int .i64 P ∧ Hid (W = wrap64 (suf (bt s) s.size t)) ∧ Hid (P = wrap64 (10 ^ t))) (fun _ _ i => (intOf i + 1).toNat)
      case atStart => exact ⟨0, 0, 1, Nat.zero_le _, by simp, rfl, rfl, by show (0 : Int) = wrap64 0; unfold wrap64; omega, by show (1 : Int) = wrap64 1; unfold wrap64; omega⟩
      case round =>
        obtain ⟨t, W, P, ht, rfl, rfl, rfl, HW, HP⟩ := hrel
        by_cases hlt2 : t < s.size
        · obtain ⟨q, hq⟩ : ∃ q : Nat, (s.size : Int) - 1 - t = (q : Int) := ⟨s.size - 1 - t, by omega⟩
          have hq1 : q < s.size := by omega
          have HQ : Hid (s.size - 1 - t = q) := by show s.size - 1 - t = q; omega
          have hb := bt_at s q hq1
          obtain ⟨h1, h2⟩ := hall q hq1
          go_wp2
          go_round
          case rel =>
            refine ⟨t + 1, _, _, by omega, ?_, rfl, rfl, ?_, ?_⟩
            · have e : (q : Int) - 1 = (s.size : Int) - 1 - ((t + 1 : Nat) : Int) := by omega
              rw [e]
            · show wrap64 (W + wrap64 ((bt s q - 48) * P)) = wrap64 (suf (bt s) s.size (t + 1))
              rw [HW.out, HP.out, suf, HQ.out, wrap64_mulr, wrap64_addr, wrap64_addl]
            · show wrap64 (P * 10) = wrap64 (10 ^ (t + 1))
              rw [HP.out, wrap64_mull, Int.pow_succ]
          case measure => simp [intOf]; omega
        · obtain rfl : t = s.size := by omega
          have hm : (s.size : Int) - 1 - (s.size : Int) = -1 := by omega
          have e : (V == W) = true := by rw [← HV.out, HW.out, exV_is_suf]; simp
          go_wp2
          go_ret
          exact ⟨rfl, rfl⟩

theorem law6_any (s : ByteArray) (w : World) (hs : s.size ≤ maxLen) :
    Calls Try.prog 6 #[.string s] w fun e w' => e = .returned (.bool true) ∧ w' = w := by
  by_cases h : s.size ≤ 1048576
  · by_cases hall : ∀ j, j < s.size → 48 ≤ bt s j ∧ bt s j ≤ 57
    · exact law6_yes s w h hall
    · exact law6_no s w h hall
  · have hd : decide (s.size ≤ 1048576) = false := by simpa using h
    go_enter Try.func6, Try.ntmps6
    go_wp2_with fail
    refine (bytes13 s _ hs).mono ?_
    rintro e w ⟨rfl, rfl⟩
    go_wp2_with fail
    go_ret
    exact ⟨rfl, rfl⟩
end Go.Proofs.Qxb6600761a
