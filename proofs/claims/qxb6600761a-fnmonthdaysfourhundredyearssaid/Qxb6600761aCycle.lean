/-
  Sums of days over the 400-year cycle; the ring; the window. Plain.
-/
import Derived.Test.Qxb6600761aCal
namespace Go.Proofs.Qxb6600761a

/-- the days of k months from m on -/
def sumD (m : Int) : Nat → Int
  | 0 => 0
  | k + 1 => sumD m k + days (m + k)

theorem days_bd (m : Int) : 28 ≤ days m ∧ days m ≤ 31 := by
  unfold days
  split
  · split <;> omega
  · split <;> omega

theorem days_shift (m : Int) : days (m + 4800) = days m := by
  rw [← days_period (m + 4800), ← days_period m, show (m + 4800) % 4800 = m % 4800 by omega]

theorem sumD_one (m : Int) (k : Nat) : sumD m (k + 1) = sumD m k + days (m + (k : Int)) := rfl

theorem sumD_succ (m : Int) : ∀ k, sumD (m + 1) k = sumD m (k + 1) - days m
  | 0 => by simp [sumD]
  | k + 1 => by
    have h1 := sumD_one (m + 1) k
    have h2 := sumD_one m (k + 1)
    have h3 := sumD_succ m k
    rw [show m + 1 + (k : Int) = m + ((k + 1 : Nat) : Int) by omega] at h1
    omega

theorem sumD_roll (m : Int) : sumD (m + 1) 4800 = sumD m 4800 := by
  have h := sumD_succ m 4800
  have h2 : sumD m (4800 + 1) = sumD m 4800 + days (m + ((4800 : Nat) : Int)) := rfl
  have h3 : days (m + ((4800 : Nat) : Int)) = days m := days_shift m
  rw [h2, h3] at h
  omega

theorem sumD_any (m : Nat) : sumD (m : Int) 4800 = sumD 0 4800 := by
  induction m with
  | zero => rfl
  | succ m ih =>
    rw [← ih, show ((m + 1 : Nat) : Int) = (m : Int) + 1 by omega]
    exact sumD_roll m

/-- the day count of month m -/
def dc (m : Int) : Int := civ (m / 12) (m % 12 + 1)

theorem dc_step (m : Int) (h0 : 4800 ≤ m) (h1 : m < 9600) : days m = dc (m + 1) - dc m := by
  unfold dc
  by_cases h : m % 12 + 1 = 12
  · rw [h, show (m + 1) / 12 = m / 12 + 1 by omega, show (m + 1) % 12 + 1 = 1 by omega]
    exact days_civ_dec m _ (by omega)
  · rw [show (m + 1) / 12 = m / 12 by omega, show (m + 1) % 12 + 1 = m % 12 + 1 + 1 by omega]
    exact days_civ_lt m _ _ (by omega) (by omega) h

theorem sumD_dc : ∀ k : Nat, k ≤ 4800 → sumD 4800 k = dc (4800 + k) - dc 4800
  | 0, _ => by simp [sumD]
  | k + 1, hk => by
    rw [sumD, sumD_dc k (by omega), dc_step (4800 + k) (by omega) (by omega), show (4800 : Int) + (k : Int) + 1 = 4800 + ((k + 1 : Nat) : Int) by omega]
    omega

theorem sumD_all (m : Int) (h : 0 ≤ m) : sumD m 4800 = 146097 := by
  obtain ⟨n, rfl⟩ := Int.eq_ofNat_of_zero_le h
  have h1 := sumD_any 4800
  have h2 := sumD_dc 4800 (by omega)
  rw [sumD_any, ← h1]
  show sumD 4800 4800 = _
  rw [h2]
  decide

theorem days_31 (m : Int) (h : m % 12 = 0 ∨ m % 12 = 2 ∨ m % 12 = 4 ∨ m % 12 = 6 ∨ m % 12 = 7 ∨ m % 12 = 9 ∨ m % 12 = 11) : days m = 31 := by
  rw [days, if_neg (by omega), if_neg (by omega)]
theorem days_30 (m : Int) (h : m % 12 = 3 ∨ m % 12 = 5 ∨ m % 12 = 8 ∨ m % 12 = 10) : days m = 30 := by
  rw [days, if_neg (by omega), if_pos h]

theorem days_feb (m : Int) (h : m % 12 = 1) : days m = 28 ∨ days m = 29 := by
  rw [days, if_pos h]
  split <;> omega

/-- twelve months in a row -/
theorem year12 (a : Int) : sumD a 12 = 365 ∨ sumD a 12 = 366 := by
  have e : sumD a 12 = days (a + 0) + days (a + 1) + days (a + 2) + days (a + 3) + days (a + 4) + days (a + 5) + days (a + 6) + days (a + 7) + days (a + 8) + days (a + 9) + days (a + 10) + days (a + 11) := by
    simp [sumD]
  rw [e]
  have hm : a % 12 = 0 ∨ a % 12 = 1 ∨ a % 12 = 2 ∨ a % 12 = 3 ∨ a % 12 = 4 ∨ a % 12 = 5 ∨ a % 12 = 6 ∨ a % 12 = 7 ∨ a % 12 = 8 ∨ a % 12 = 9 ∨ a % 12 = 10 ∨ a % 12 = 11 := by omega
  rcases hm with h | h | h | h | h | h | h | h | h | h | h | h
  · have e0 := days_31 (a + 0) (by omega); have e1 := days_feb (a + 1) (by omega); have e2 := days_31 (a + 2) (by omega); have e3 := days_30 (a + 3) (by omega); have e4 := days_31 (a + 4) (by omega); have e5 := days_30 (a + 5) (by omega); have e6 := days_31 (a + 6) (by omega); have e7 := days_31 (a + 7) (by omega); have e8 := days_30 (a + 8) (by omega); have e9 := days_31 (a + 9) (by omega); have e10 := days_30 (a + 10) (by omega); have e11 := days_31 (a + 11) (by omega); omega
  · have e0 := days_feb (a + 0) (by omega); have e1 := days_31 (a + 1) (by omega); have e2 := days_30 (a + 2) (by omega); have e3 := days_31 (a + 3) (by omega); have e4 := days_30 (a + 4) (by omega); have e5 := days_31 (a + 5) (by omega); have e6 := days_31 (a + 6) (by omega); have e7 := days_30 (a + 7) (by omega); have e8 := days_31 (a + 8) (by omega); have e9 := days_30 (a + 9) (by omega); have e10 := days_31 (a + 10) (by omega); have e11 := days_31 (a + 11) (by omega); omega
  · have e0 := days_31 (a + 0) (by omega); have e1 := days_30 (a + 1) (by omega); have e2 := days_31 (a + 2) (by omega); have e3 := days_30 (a + 3) (by omega); have e4 := days_31 (a + 4) (by omega); have e5 := days_31 (a + 5) (by omega); have e6 := days_30 (a + 6) (by omega); have e7 := days_31 (a + 7) (by omega); have e8 := days_30 (a + 8) (by omega); have e9 := days_31 (a + 9) (by omega); have e10 := days_31 (a + 10) (by omega); have e11 := days_feb (a + 11) (by omega); omega
  · have e0 := days_30 (a + 0) (by omega); have e1 := days_31 (a + 1) (by omega); have e2 := days_30 (a + 2) (by omega); have e3 := days_31 (a + 3) (by omega); have e4 := days_31 (a + 4) (by omega); have e5 := days_30 (a + 5) (by omega); have e6 := days_31 (a + 6) (by omega); have e7 := days_30 (a + 7) (by omega); have e8 := days_31 (a + 8) (by omega); have e9 := days_31 (a + 9) (by omega); have e10 := days_feb (a + 10) (by omega); have e11 := days_31 (a + 11) (by omega); omega
  · have e0 := days_31 (a + 0) (by omega); have e1 := days_30 (a + 1) (by omega); have e2 := days_31 (a + 2) (by omega); have e3 := days_31 (a + 3) (by omega); have e4 := days_30 (a + 4) (by omega); have e5 := days_31 (a + 5) (by omega); have e6 := days_30 (a + 6) (by omega); have e7 := days_31 (a + 7) (by omega); have e8 := days_31 (a + 8) (by omega); have e9 := days_feb (a + 9) (by omega); have e10 := days_31 (a + 10) (by omega); have e11 := days_30 (a + 11) (by omega); omega
  · have e0 := days_30 (a + 0) (by omega); have e1 := days_31 (a + 1) (by omega); have e2 := days_31 (a + 2) (by omega); have e3 := days_30 (a + 3) (by omega); have e4 := days_31 (a + 4) (by omega); have e5 := days_30 (a + 5) (by omega); have e6 := days_31 (a + 6) (by omega); have e7 := days_31 (a + 7) (by omega); have e8 := days_feb (a + 8) (by omega); have e9 := days_31 (a + 9) (by omega); have e10 := days_30 (a + 10) (by omega); have e11 := days_31 (a + 11) (by omega); omega
  · have e0 := days_31 (a + 0) (by omega); have e1 := days_31 (a + 1) (by omega); have e2 := days_30 (a + 2) (by omega); have e3 := days_31 (a + 3) (by omega); have e4 := days_30 (a + 4) (by omega); have e5 := days_31 (a + 5) (by omega); have e6 := days_31 (a + 6) (by omega); have e7 := days_feb (a + 7) (by omega); have e8 := days_31 (a + 8) (by omega); have e9 := days_30 (a + 9) (by omega); have e10 := days_31 (a + 10) (by omega); have e11 := days_30 (a + 11) (by omega); omega
  · have e0 := days_31 (a + 0) (by omega); have e1 := days_30 (a + 1) (by omega); have e2 := days_31 (a + 2) (by omega); have e3 := days_30 (a + 3) (by omega); have e4 := days_31 (a + 4) (by omega); have e5 := days_31 (a + 5) (by omega); have e6 := days_feb (a + 6) (by omega); have e7 := days_31 (a + 7) (by omega); have e8 := days_30 (a + 8) (by omega); have e9 := days_31 (a + 9) (by omega); have e10 := days_30 (a + 10) (by omega); have e11 := days_31 (a + 11) (by omega); omega
  · have e0 := days_30 (a + 0) (by omega); have e1 := days_31 (a + 1) (by omega); have e2 := days_30 (a + 2) (by omega); have e3 := days_31 (a + 3) (by omega); have e4 := days_31 (a + 4) (by omega); have e5 := days_feb (a + 5) (by omega); have e6 := days_31 (a + 6) (by omega); have e7 := days_30 (a + 7) (by omega); have e8 := days_31 (a + 8) (by omega); have e9 := days_30 (a + 9) (by omega); have e10 := days_31 (a + 10) (by omega); have e11 := days_31 (a + 11) (by omega); omega
  · have e0 := days_31 (a + 0) (by omega); have e1 := days_30 (a + 1) (by omega); have e2 := days_31 (a + 2) (by omega); have e3 := days_31 (a + 3) (by omega); have e4 := days_feb (a + 4) (by omega); have e5 := days_31 (a + 5) (by omega); have e6 := days_30 (a + 6) (by omega); have e7 := days_31 (a + 7) (by omega); have e8 := days_30 (a + 8) (by omega); have e9 := days_31 (a + 9) (by omega); have e10 := days_31 (a + 10) (by omega); have e11 := days_30 (a + 11) (by omega); omega
  · have e0 := days_30 (a + 0) (by omega); have e1 := days_31 (a + 1) (by omega); have e2 := days_31 (a + 2) (by omega); have e3 := days_feb (a + 3) (by omega); have e4 := days_31 (a + 4) (by omega); have e5 := days_30 (a + 5) (by omega); have e6 := days_31 (a + 6) (by omega); have e7 := days_30 (a + 7) (by omega); have e8 := days_31 (a + 8) (by omega); have e9 := days_31 (a + 9) (by omega); have e10 := days_30 (a + 10) (by omega); have e11 := days_31 (a + 11) (by omega); omega
  · have e0 := days_31 (a + 0) (by omega); have e1 := days_31 (a + 1) (by omega); have e2 := days_feb (a + 2) (by omega); have e3 := days_31 (a + 3) (by omega); have e4 := days_30 (a + 4) (by omega); have e5 := days_31 (a + 5) (by omega); have e6 := days_30 (a + 6) (by omega); have e7 := days_31 (a + 7) (by omega); have e8 := days_31 (a + 8) (by omega); have e9 := days_30 (a + 9) (by omega); have e10 := days_31 (a + 10) (by omega); have e11 := days_30 (a + 11) (by omega); omega

/-- what the ring holds at j behind k rounds -/
def ringAt (m : Int) : Nat → Nat → Int
  | 0, _ => 0
  | k + 1, j => if j = k % 12 then days (m + k) else ringAt m k j

theorem ringAt_fresh (m : Int) : ∀ k j, k ≤ j → ringAt m k j = 0
  | 0, _, _ => rfl
  | k + 1, j, h => by
    rw [ringAt, if_neg (by omega)]
    exact ringAt_fresh m k j (by omega)

theorem ringAt_old (m : Int) (k : Nat) : ∀ d, d < 12 → ringAt m (k + 1 + d) (k % 12) = days (m + k)
  | 0, _ => by simp [ringAt]
  | d + 1, h => by
    show ringAt m (k + 1 + d + 1) (k % 12) = _
    rw [ringAt, if_neg (by omega)]
    exact ringAt_old m k d (by omega)

/-- the window behind k rounds -/
def winAt (m : Int) (k : Nat) : Int := sumD m k - sumD m (k - 12)

theorem winAt_step (m : Int) (k : Nat) : winAt m k + (days (m + k) - ringAt m k (k % 12)) = winAt m (k + 1) := by
  unfold winAt
  rw [sumD_one]
  by_cases h : k < 12
  · rw [ringAt_fresh m k (k % 12) (by omega), show k + 1 - 12 = 0 by omega, show k - 12 = 0 by omega]
    omega
  · obtain ⟨d, rfl⟩ : ∃ d, k = d + 12 := ⟨k - 12, by omega⟩
    have h1 := ringAt_old m d 11 (by omega)
    rw [show d + 1 + 11 = d + 12 by omega] at h1
    rw [show (d + 12) % 12 = d % 12 by omega, h1, show d + 12 + 1 - 12 = d + 1 by omega, show d + 12 - 12 = d by omega]
    have h2 := sumD_one m d
    omega

theorem sumD_add (m : Int) (a : Nat) : ∀ b, sumD m (a + b) = sumD m a + sumD (m + a) b
  | 0 => by simp [sumD]
  | b + 1 => by
    have h1 := sumD_add m a b
    have h2 := sumD_one m (a + b)
    have h3 := sumD_one (m + a) b
    rw [show m + ((a + b : Nat) : Int) = m + (a : Int) + (b : Int) by omega] at h2
    rw [← Nat.add_assoc]
    omega

theorem winAt_year (m : Int) (k : Nat) (h : 12 ≤ k) : winAt m k = 365 ∨ winAt m k = 366 := by
  obtain ⟨d, rfl⟩ : ∃ d, k = d + 12 := ⟨k - 12, by omega⟩
  have h1 := sumD_add m d 12
  have h2 := year12 (m + d)
  unfold winAt
  rw [show d + 12 - 12 = d by omega]
  omega

theorem sumD_bd (m : Int) : ∀ k : Nat, 0 ≤ sumD m k ∧ sumD m k ≤ 31 * k
  | 0 => by simp [sumD]
  | k + 1 => by
    have h1 := sumD_bd m k
    have h2 := days_bd (m + k)
    rw [sumD_one]
    omega
end Go.Proofs.Qxb6600761a
