/-
  The walk of FnMonthDaysFourHundredYears.
-/
import Derived.Test.Qxb6600761aExact
import Derived.Deep.OwnRows
import Derived.Deep.QuietTactic
import Derived.BigQuiet
import Derived.RegionTactic
import Derived.ChangeAlike
namespace Go.Proofs.Qxb6600761a
open Go.RowKit

theorem ring_bd (m : Int) : ∀ k j, 0 ≤ ringAt m k j ∧ ringAt m k j ≤ 31
  | 0, _ => by simp [ringAt]
  | k + 1, j => by
    have h1 := ring_bd m k j
    have h2 := days_bd (m + k)
    rw [ringAt]
    split <;> omega

theorem ring_start (w : World) (m : Int) : (w.alloc (.cells #[.int .i64 0, .int .i64 0, .int .i64 0, .int .i64 0, .int .i64 0, .int .i64 0, .int .i64 0, .int .i64 0, .int .i64 0, .int .i64 0, .int .i64 0, .int .i64 0] 26)).rowIs w.heap.size 26 12 (fun j => .int .i64 (ringAt m 0 j)) :=
  World.rowIs_alloc w _ 26 _ (fun i hi => by
    have h : i = 0 ∨ i = 1 ∨ i = 2 ∨ i = 3 ∨ i = 4 ∨ i = 5 ∨ i = 6 ∨ i = 7 ∨ i = 8 ∨ i = 9 ∨ i = 10 ∨ i = 11 := by simp at hi; omega
    rcases h with rfl | rfl | rfl | rfl | rfl | rfl | rfl | rfl | rfl | rfl | rfl | rfl <;> rfl)

set_option maxRecDepth 100000 in
set_option maxHeartbeats 1000000 in
theorem law4 (m : Int) (w : World) (h0 : 0 ≤ m) (h1 : m ≤ 9223372036854771007) :
    Calls Try.prog 4 #[.int .i64 m] w fun e w' => e = .returned (.bool true) ∧ Grown w w' := by
  go_enter Try.func4, Try.ntmps4
  go_wp2
  go_loopw [4, 5, 6, 7] (fun t v i _ wr => ∃ k : Nat, k ≤ 4800 ∧ i = .int .i64 k ∧ t = .int .i64 (sumD m k) ∧ v = .int .i64 (winAt m k) ∧ wr.rowIs w.heap.size 26 12 (fun j => .int .i64 (ringAt m k j)) ∧ Grown w wr) (fun _ _ i _ _ => 4800 - (intOf i).toNat)
  case atStart => exact ⟨0, Nat.zero_le _, rfl, rfl, rfl, ring_start w m, (Grown.refl _).alloc _ _⟩
  case round =>
    obtain ⟨k, hk, rfl, rfl, rfl, hr, hb⟩ := hrel
    by_cases hlt : k < 4800
    · obtain ⟨q, hq⟩ : ∃ q : Nat, (k : Int) % 12 = (q : Int) := ⟨k % 12, by omega⟩
      have hq' : k % 12 = q := by omega
      have hq1 : q < 12 := by omega
      have c1 := hr.cell hq1
      have f1 := hr.frozen q
      have s1 := sumD_bd m k
      have s2 : 0 ≤ winAt m k ∧ winAt m k ≤ 31 * k := by
        have a1 := sumD_bd m k
        have a2 := sumD_bd m (k - 12)
        have a3 := sumD_add m (k - 12) (k - (k - 12))
        rw [show k - 12 + (k - (k - 12)) = k by omega] at a3
        have a4 := sumD_bd (m + ((k - 12 : Nat) : Int)) (k - (k - 12))
        unfold winAt
        omega
      have s3 : 0 ≤ ringAt m k q ∧ ringAt m k q ≤ 31 := ring_bd m k q
      have s4 := days_bd (m + k)
      have HT : Hid (sumD m k + days (m + k) = sumD m (k + 1)) := rfl
      have HW : Hid (winAt m k + (days (m + k) - ringAt m k q) = winAt m (k + 1)) := by rw [← hq']; exact winAt_step m k
      have HR : Hid (k % 12 = q) := hq'
      clear hq'
      obtain ⟨s1a, s1b⟩ := s1
      obtain ⟨s2a, s2b⟩ := s2
      obtain ⟨s3a, s3b⟩ := s3
      obtain ⟨s4a, s4b⟩ := s4
      have hyr : k < 11 ∨ (11 ≤ k ∧ winAt m k + (days (m + k) - ringAt m k q) = 365) ∨ (11 ≤ k ∧ winAt m k + (days (m + k) - ringAt m k q) = 366) := by
        rcases Nat.lt_or_ge k 11 with h | h
        · exact Or.inl h
        · have := winAt_year m (k + 1) (by omega)
          rw [HW.out]
          omega
      rcases hyr with h11 | ⟨h11, e11⟩ | ⟨h11, e11⟩
      all_goals
        go_wp2_with fail
        refine (days9 _ _ (by omega) (by omega)).mono ?_
        rintro e wr ⟨rfl, rfl⟩
        go_wp2_with fail
        go_roundw
        case rel =>
          refine ⟨k + 1, by omega, by go_num, rfl, ?_, ?_, hb.setCell (Nat.le_refl _) _⟩
          · rw [← HW.out] <;> rw [e11]
          · refine (hr.set q _).congr (fun j _ => ?_)
            show (if j = q then Value.int .i64 (days (m + (k : Int))) else Value.int .i64 (ringAt m k j)) = Value.int .i64 (if j = k % 12 then days (m + (k : Int)) else ringAt m k j)
            rw [HR.out]
            split <;> rfl
        case measure => simp [intOf]; omega
    · have hk' : k = 4800 := by omega
      have e2 : (sumD m k == 146097) = true := by rw [hk', sumD_all m h0]; rfl
      clear hk'
      go_wp2
      go_ret
      exact ⟨rfl, hb⟩

theorem law4_out (m : Int) (w : World) (h : m < 0 ∨ (0 ≤ m ∧ 9223372036854771007 < m)) :
    Calls Try.prog 4 #[.int .i64 m] w fun e w' => e = .returned (.bool true) ∧ Grown w w' := by
  rcases h with h | ⟨h, h'⟩
  · have hd : decide (m < 0) = true := by simpa using h
    go_enter Try.func4, Try.ntmps4
    go_wp2
    go_ret
    exact ⟨rfl, Grown.refl _⟩
  · have hd : decide (m < 0) = false := by simp; omega
    have hd' : decide (9223372036854771007 < m) = true := by simpa using h'
    go_enter Try.func4, Try.ntmps4
    go_wp2
    go_ret
    exact ⟨rfl, Grown.refl _⟩

theorem law4_any (m : Int) (w : World) :
    Calls Try.prog 4 #[.int .i64 m] w fun e w' => e = .returned (.bool true) ∧ Grown w w' := by
  by_cases h0 : m < 0
  · exact law4_out m w (Or.inl h0)
  · by_cases h1 : 9223372036854771007 < m
    · exact law4_out m w (Or.inr ⟨by omega, h1⟩)
    · exact law4 m w (by omega) (by omega)
end Go.Proofs.Qxb6600761a
