/-
  The walk of FnMonthDaysExact.
-/
import Derived.Test.Qxb6600761aDays
import Derived.Test.Qxb6600761aCycle
namespace Go.Proofs.Qxb6600761a
open Go.RowKit
theorem ret_true {b : Bool} (h : b = true) : Ending.returned (.bool b) = .returned (.bool true) := by rw [h]
theorem days_same (m : Int) : (days m == wrap64 (days m)) = true := by
  have h := days_bd m
  have e : wrap64 (days m) = days m := by unfold wrap64; omega
  rw [e]; simp

set_option maxHeartbeats 1000000 in
theorem law3 (m : Int) (w : World) (h1 : m ≤ 9223372036854775807) :
    Calls Try.prog 3 #[.int .i64 m] w fun e w' => e = .returned (.bool true) ∧ w' = w := by
  by_cases h0 : m < 0
  · go_enter Try.func3, Try.ntmps3
    go_wp2
    go_ret
    exact ⟨rfl, rfl⟩
  have h0' : 0 ≤ m := by omega
  clear h0
  by_cases hd : (m % 4800 + 4800) % 12 = 11
  · have HD : Hid (days m = civ ((m % 4800 + 4800) / 12 + 1) 1 - civ ((m % 4800 + 4800) / 12) 12) := days_civ_dec m _ (by rw [hd]; rfl)
    go_enter Try.func3, Try.ntmps3
    go_wp2_with fail
    refine (days9 m _ h0' h1).mono ?_
    rintro e w ⟨rfl, rfl⟩
    go_wp2_with fail
    refine (civil10 _ _ _ (by omega) (by omega) (by omega) (by omega)).mono ?_
    rintro e w ⟨rfl, rfl⟩
    go_wp2_with fail
    refine (civil10 _ _ _ (by omega) (by omega) (by omega) (by omega)).mono ?_
    rintro e w ⟨rfl, rfl⟩
    go_wp2_with fail
    go_ret
    exact ⟨by rw [← HD.out]; exact ret_true (days_same m), rfl⟩
  · have HD : Hid (days m = civ ((m % 4800 + 4800) / 12) ((m % 4800 + 4800) % 12 + 1 + 1) - civ ((m % 4800 + 4800) / 12) ((m % 4800 + 4800) % 12 + 1)) := days_civ_lt m _ _ rfl rfl (by omega)
    have hd' : ((m % 4800 + 4800) % 12 + 1 == 12) = false := by simp; omega
    go_enter Try.func3, Try.ntmps3
    go_wp2_with fail
    refine (days9 m _ h0' h1).mono ?_
    rintro e w ⟨rfl, rfl⟩
    go_wp2_with fail
    refine (civil10 _ _ _ (by omega) (by omega) (by omega) (by omega)).mono ?_
    rintro e w ⟨rfl, rfl⟩
    go_wp2_with fail
    refine (civil10 _ _ _ (by omega) (by omega) (by omega) (by omega)).mono ?_
    rintro e w ⟨rfl, rfl⟩
    go_wp2_with fail
    go_ret
    exact ⟨by rw [← HD.out]; exact ret_true (days_same m), rfl⟩
end Go.Proofs.Qxb6600761a
