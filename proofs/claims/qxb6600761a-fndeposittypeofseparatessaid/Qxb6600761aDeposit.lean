/-
  The walks of FnDepositTypeOfSeparates and of what it calls.
-/
import Derived.Test.Qxb6600761aProg
import Derived.WalkKit
namespace Go.Proofs.Qxb6600761a
open Go.RowKit

/-- the kind: 3 foreign and long, 2 foreign, 1 long, 0 else -/
def cls (l f : Bool) : Int := if f then (if l then 3 else 2) else (if l then 1 else 0)

theorem foreign18 (c : ByteArray) (b : Bool) (h : (c.toList == [86, 78, 68]) = b) (w : World) :
    Calls Try.prog 18 #[.string c] w fun e w' => e = .returned (.bool (!b)) ∧ w' = w := by
  go_enter Try.func18, Try.ntmps18
  go_wp2
  go_ret
  exact ⟨by rw [← h]; first | rfl | simp, rfl⟩

theorem dep16 (l : Bool) (c : ByteArray) (b : Bool) (h : (c.toList == [86, 78, 68]) = b) (w : World) :
    Calls Try.prog 16 #[.bool l, .string c] w fun e w' => e = .returned (.int .i64 (cls l (!b))) ∧ w' = w := by
  have HF := fun w => foreign18 c b h w
  clear h
  cases b <;> cases l
  all_goals
    go_enter Try.func16, Try.ntmps16
    go_wp2_with (go_at_call 18; refine (HF _).mono ?_; rintro e w ⟨rfl, rfl⟩)
    go_ret
    exact ⟨rfl, rfl⟩

theorem dep12 (l : Bool) (c : ByteArray) (b : Bool) (h : (c.toList == [86, 78, 68]) = b) (w : World) :
    Calls Try.prog 12 #[.bool l, .string c] w fun e w' => e = .returned (.int .i64 (cls l (!b))) ∧ w' = w := by
  go_enter Try.func12, Try.ntmps12
  go_wp2_with fail
  refine (dep16 l c b h _).mono ?_
  rintro e w ⟨rfl, rfl⟩
  go_wp2_with fail
  go_ret
  exact ⟨rfl, rfl⟩

theorem bytes11 (l1 l2 : Bool) (c1 c2 : ByteArray) (w : World) (h1 : c1.size ≤ maxLen) (h2 : c2.size ≤ maxLen) :
    Calls Try.prog 11 #[.bool l1, .string c1, .bool l2, .string c2] w fun e w' => e = .returned (.bool (decide (c1.size ≤ 1048576 ∧ c2.size ≤ 1048576 ∧ c1.size + c2.size ≤ 1048576))) ∧ w' = w := by
  unfold maxLen at h1 h2
  by_cases a1 : c1.size ≤ 1048576
  · by_cases a2 : c2.size ≤ 1048576
    · by_cases a3 : c1.size + c2.size ≤ 1048576
      · have e1 : decide (c1.size ≤ 1048576 ∧ c2.size ≤ 1048576 ∧ c1.size + c2.size ≤ 1048576) = true := by simp [a1, a2, a3]
        rw [e1]
        go_enter Try.func11, Try.ntmps11
        go_wp2
        go_ret
        exact ⟨rfl, rfl⟩
      · have e1 : decide (c1.size ≤ 1048576 ∧ c2.size ≤ 1048576 ∧ c1.size + c2.size ≤ 1048576) = false := by simp; omega
        rw [e1]
        have a4 : 1048576 < (c1.size : Int) + (c2.size : Int) := by omega
        go_enter Try.func11, Try.ntmps11
        go_wp2
        go_ret
        exact ⟨rfl, rfl⟩
    · have e1 : decide (c1.size ≤ 1048576 ∧ c2.size ≤ 1048576 ∧ c1.size + c2.size ≤ 1048576) = false := by simp; omega
      rw [e1]
      go_enter Try.func11, Try.ntmps11
      go_wp2
      go_ret
      exact ⟨rfl, rfl⟩
  · have e1 : decide (c1.size ≤ 1048576 ∧ c2.size ≤ 1048576 ∧ c1.size + c2.size ≤ 1048576) = false := by simp; omega
    rw [e1]
    go_enter Try.func11, Try.ntmps11
    go_wp2
    go_ret
    exact ⟨rfl, rfl⟩

set_option maxHeartbeats 1000000 in
theorem law5 (l1 l2 : Bool) (c1 c2 : ByteArray) (w : World) (h1 : c1.size ≤ maxLen) (h2 : c2.size ≤ maxLen) :
    Calls Try.prog 5 #[.bool l1, .string c1, .bool l2, .string c2] w fun e w' => e = .returned (.bool true) ∧ w' = w := by
  cases hd : decide (c1.size ≤ 1048576 ∧ c2.size ≤ 1048576 ∧ c1.size + c2.size ≤ 1048576)
  · go_enter Try.func5, Try.ntmps5
    go_wp2_with fail
    refine (bytes11 l1 l2 c1 c2 _ h1 h2).mono ?_
    rintro e w ⟨rfl, rfl⟩
    rw [hd]
    go_wp2_with fail
    go_ret
    exact ⟨rfl, rfl⟩
  · have hd' := of_decide_eq_true hd
    obtain ⟨a1, a2, a3⟩ := hd'
    cases f1 : c1.toList == [86, 78, 68] <;> cases f2 : c2.toList == [86, 78, 68] <;> cases l1 <;> cases l2
    all_goals
      go_enter Try.func5, Try.ntmps5
      go_wp2_with fail
      refine (bytes11 _ _ c1 c2 _ h1 h2).mono ?_
      rintro e w ⟨rfl, rfl⟩
      rw [hd]
      go_wp2_with fail
      refine (dep12 _ c1 _ f1 _).mono ?_
      rintro e w ⟨rfl, rfl⟩
      go_wp2_with fail
      refine (dep12 _ c2 _ f2 _).mono ?_
      rintro e w ⟨rfl, rfl⟩
      simp only [cls, Bool.not_true, Bool.not_false, if_true]
      go_wp2_with fail
      go_ret
      exact ⟨rfl, rfl⟩
end Go.Proofs.Qxb6600761a
