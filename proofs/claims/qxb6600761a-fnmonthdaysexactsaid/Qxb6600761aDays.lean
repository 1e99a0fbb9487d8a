/-
  The walks of Month.Days and zzCivil.
-/
import Derived.Test.Qxb6600761aProg
import Derived.Test.Qxb6600761aCal
import Derived.WalkKit
namespace Go.Proofs.Qxb6600761a
open Go.RowKit

theorem days9 (m : Int) (w : World) (h0 : 0 ≤ m) (h1 : m ≤ 9223372036854775807) :
    Calls Try.prog 9 #[.int .i64 m] w fun e w' => e = .returned (.int .i64 (days m)) ∧ w' = w := by
  have hm : m % 12 = 0 ∨ m % 12 = 1 ∨ m % 12 = 2 ∨ m % 12 = 3 ∨ m % 12 = 4 ∨ m % 12 = 5 ∨ m % 12 = 6 ∨ m % 12 = 7 ∨ m % 12 = 8 ∨ m % 12 = 9 ∨ m % 12 = 10 ∨ m % 12 = 11 := by omega
  by_cases h2 : m % 12 = 1
  · clear hm
    by_cases h4 : (m / 12) % 4 = 0
    · by_cases h100 : (m / 12) % 100 = 0
      · by_cases h400 : (m / 12) % 400 = 0
        · have hd : days m = 29 := by simp [days, h2, leap, h4, h400]
          go_enter Try.func9, Try.ntmps9
          go_wp2
          go_ret
          exact ⟨by first | rfl | (rw [hd]; rfl), rfl⟩
        · have hd : days m = 28 := by simp [days, h2, leap, h4, h100, h400]
          go_enter Try.func9, Try.ntmps9
          go_wp2
          go_ret
          exact ⟨by first | rfl | (rw [hd]; rfl), rfl⟩
      · have hd : days m = 29 := by simp [days, h2, leap, h4, h100]
        go_enter Try.func9, Try.ntmps9
        go_wp2
        go_ret
        exact ⟨by first | rfl | (rw [hd]; rfl), rfl⟩
    · have hd : days m = 28 := by simp [days, h2, leap, h4]
      go_enter Try.func9, Try.ntmps9
      go_wp2
      go_ret
      exact ⟨by first | rfl | (rw [hd]; rfl), rfl⟩
  · rcases hm with h | h | h | h | h | h | h | h | h | h | h | h
    all_goals first | (exfalso; exact h2 h) | skip
    all_goals
      have hd : days m = (if m % 12 = 3 ∨ m % 12 = 5 ∨ m % 12 = 8 ∨ m % 12 = 10 then 30 else 31) := by rw [days, if_neg h2]
      simp [h] at hd
      clear h2
      go_enter Try.func9, Try.ntmps9
      go_wp2
      go_ret
      exact ⟨by first | rfl | (rw [hd]; rfl), rfl⟩

set_option maxHeartbeats 400000 in
theorem civil10 (y mo : Int) (w : World) (hy0 : 1 ≤ y) (hy1 : y ≤ 10000) (hm0 : 1 ≤ mo) (hm1 : mo ≤ 12) :
    Calls Try.prog 10 #[.int .i64 y, .int .i64 mo] w fun e w' => e = .returned (.int .i64 (civ y mo)) ∧ w' = w := by
  by_cases h : mo ≤ 2
  · have hd : civ y mo = (y - 1) / 400 * 146097 + ((y - 1 - (y - 1) / 400 * 400) * 365 + (y - 1 - (y - 1) / 400 * 400) / 4 - (y - 1 - (y - 1) / 400 * 400) / 100 + (153 * ((mo + 9) % 12) + 2) / 5) := by simp [civ, h]
    rw [hd]
    clear hd
    go_enter Try.func10, Try.ntmps10
    go_wp2
    go_ret
    exact ⟨rfl, rfl⟩
  · have hd : civ y mo = y / 400 * 146097 + ((y - y / 400 * 400) * 365 + (y - y / 400 * 400) / 4 - (y - y / 400 * 400) / 100 + (153 * ((mo + 9) % 12) + 2) / 5) := by simp [civ, h]
    rw [hd]
    clear hd
    go_enter Try.func10, Try.ntmps10
    go_wp2
    go_ret
    exact ⟨rfl, rfl⟩
end Go.Proofs.Qxb6600761a
