/-
  The walks of parseDigits and its wrapper.
-/
import Derived.Test.Qxb6600761aProg
import Derived.Test.Qxb6600761aNum
import Derived.WalkKit
namespace Go.Proofs.Qxb6600761a
open Go.RowKit

/-- byte k of s, as a number -/
def bt (s : ByteArray) (k : Nat) : Int := ((s.data.toList.getD k 0).toNat : Int)

theorem bt_at (s : ByteArray) (k : Nat) (h : k < s.size) : (s[k].toNat : Int) = bt s k := by
  unfold bt
  have h' : k < s.data.toList.length := by simpa using h
  rw [List.getD_eq_getElem?_getD, List.getElem?_eq_getElem h']
  rfl

set_option maxHeartbeats 400000 in
theorem parse17_yes (s : ByteArray) (w : World) (hs : s.size ≤ 2097152) (hall : ∀ j, j < s.size → 48 ≤ bt s j ∧ bt s j ≤ 57) :
    Calls Try.prog 17 #[.string s] w fun e w' => e = .returned (.tuple #[.int .i64 (wrap64 (exV (bt s) s.size)), .bool true]) ∧ w' = w := by
  go_enter Try.func17, Try.ntmps17
  go_wp2
  go_loop [4, 8] (fun v i => ∃ k : Nat, k ≤ s.size ∧ i = .int .i64 k ∧ v = .int .i64 (wrap64 (exV (bt s) k))) (fun _ i => s.size - (intOf i).toNat)
  case atStart => exact ⟨0, Nat.zero_le _, rfl, by simp [exV, wrap64]⟩
  case round =>
    obtain ⟨k, hk, rfl, rfl⟩ := hrel
    by_cases hlt : k < s.size
    · have hb := bt_at s k hlt
      obtain ⟨b1, b2⟩ := hall k hlt
      have HV : Hid (wrap64 (wrap64 (wrap64 (exV (bt s) k) * 10) + (bt s k - 48)) = wrap64 (exV (bt s) (k + 1))) := by
        show wrap64 (wrap64 (wrap64 (exV (bt s) k) * 10) + (bt s k - 48)) = wrap64 (exV (bt s) k * 10 + (bt s k - 48))
        rw [wrap64_mull, wrap64_addl]
      go_wp2
      go_round
      case rel => exact ⟨k + 1, by omega, by go_num, by rw [← HV.out]⟩
      case measure => simp [intOf]; omega
    · obtain rfl : k = s.size := by omega
      go_wp2
      go_ret2
      exact ⟨rfl, rfl⟩

set_option maxHeartbeats 400000 in
theorem parse17_no (s : ByteArray) (w : World) (hs : s.size ≤ 2097152) (hbad : ¬ ∀ j, j < s.size → 48 ≤ bt s j ∧ bt s j ≤ 57) :
    Calls Try.prog 17 #[.string s] w fun e w' => e = .returned (.tuple #[.int .i64 0, .bool false]) ∧ w' = w := by
  go_enter Try.func17, Try.ntmps17
  go_wp2
  go_loop [4, 8] (fun v i => ∃ (k : Nat) (x : Int), k ≤ s.size ∧ i = .int .i64 k ∧ v = .int .i64 x ∧ ∀ j, j < k → 48 ≤ bt s j ∧ bt s j ≤ 57) (fun _ i => s.size - (intOf i).toNat)
  case atStart => exact ⟨0, 0, Nat.zero_le _, rfl, rfl, fun j hj => by omega⟩
  case round =>
    obtain ⟨k, x, hk, rfl, rfl, hg⟩ := hrel
    by_cases hlt : k < s.size
    · have hb := bt_at s k hlt
      by_cases b1 : 48 ≤ bt s k
      · have d1 : decide (bt s k < 48) = false := by simp; omega
        by_cases b2 : bt s k ≤ 57
        · have d2 : decide (57 < bt s k) = false := by simp; omega
          have hg' : ∀ j, j < k + 1 → 48 ≤ bt s j ∧ bt s j ≤ 57 := by
            intro j hj
            by_cases e : j = k
            · subst e; exact ⟨b1, b2⟩
            · exact hg j (by omega)
          go_wp2
          go_round
          case rel => exact ⟨k + 1, _, by omega, by go_num, rfl, hg'⟩
          case measure => simp [intOf]; omega
        · have d2 : decide (57 < bt s k) = true := by simp; omega
          go_wp2
          go_ret2
          exact ⟨rfl, rfl⟩
      · have d1 : decide (bt s k < 48) = true := by simp; omega
        go_wp2
        go_ret2
        exact ⟨rfl, rfl⟩
    · obtain rfl : k = s.size := by omega
      exact absurd hg hbad

theorem parse14_yes (s : ByteArray) (w : World) (hs : s.size ≤ 2097152) (hall : ∀ j, j < s.size → 48 ≤ bt s j ∧ bt s j ≤ 57) :
    Calls Try.prog 14 #[.string s] w fun e w' => e = .returned (.tuple #[.int .i64 (wrap64 (exV (bt s) s.size)), .bool true]) ∧ w' = w := by
  go_enter Try.func14, Try.ntmps14
  go_wp2_with fail
  refine (parse17_yes s _ hs hall).mono ?_
  rintro e w ⟨rfl, rfl⟩
  go_wp2_with fail
  go_ret2
  exact ⟨rfl, rfl⟩

theorem parse14_no (s : ByteArray) (w : World) (hs : s.size ≤ 2097152) (hbad : ¬ ∀ j, j < s.size → 48 ≤ bt s j ∧ bt s j ≤ 57) :
    Calls Try.prog 14 #[.string s] w fun e w' => e = .returned (.tuple #[.int .i64 0, .bool false]) ∧ w' = w := by
  go_enter Try.func14, Try.ntmps14
  go_wp2_with fail
  refine (parse17_no s _ hs hbad).mono ?_
  rintro e w ⟨rfl, rfl⟩
  go_wp2_with fail
  go_ret2
  exact ⟨rfl, rfl⟩

theorem bytes13 (s : ByteArray) (w : World) (hs : s.size ≤ maxLen) :
    Calls Try.prog 13 #[.string s] w fun e w' => e = .returned (.bool (decide (s.size ≤ 1048576))) ∧ w' = w := by
  unfold maxLen at hs
  by_cases h : s.size ≤ 1048576
  · go_enter Try.func13, Try.ntmps13
    go_wp2
    go_ret
    exact ⟨by simp [h], rfl⟩
  · go_enter Try.func13, Try.ntmps13
    go_wp2
    go_ret
    exact ⟨by simp [h], rfl⟩
end Go.Proofs.Qxb6600761a
