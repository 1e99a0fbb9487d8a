/-
  The plain calendar: days of a month, the day count, their tie. Nothing of the program here.
-/
namespace Go.Proofs.Qxb6600761a

def leap (y : Int) : Bool := decide (y % 4 = 0 ∧ (y % 100 ≠ 0 ∨ y % 400 = 0))
def days (m : Int) : Int :=
  if m % 12 = 1 then (if leap (m / 12) then 29 else 28)
  else if m % 12 = 3 ∨ m % 12 = 5 ∨ m % 12 = 8 ∨ m % 12 = 10 then 30 else 31
def civ (y mo : Int) : Int :=
  let y := if mo ≤ 2 then y - 1 else y
  y / 400 * 146097 + ((y - y / 400 * 400) * 365 + (y - y / 400 * 400) / 4 - (y - y / 400 * 400) / 100 + (153 * ((mo + 9) % 12) + 2) / 5)

theorem leap_mod (a b : Int) (h : a % 400 = b % 400) : leap a = leap b := by
  have h1 : a % 4 = b % 4 := by omega
  have h2 : a % 100 = b % 100 := by omega
  simp only [leap, h, h1, h2]

theorem days_period (m : Int) : days (m % 4800 + 4800) = days m := by
  have h1 : (m % 4800 + 4800) % 12 = m % 12 := by omega
  have h2 : leap ((m % 4800 + 4800) / 12) = leap (m / 12) := leap_mod _ _ (by omega)
  simp only [days, h1, h2]

theorem civ_feb (y : Int) (h0 : 400 ≤ y) (h1 : y ≤ 799) : civ y 3 - civ y 2 = if leap y then 29 else 28 := by
  simp only [civ]
  have e : (leap y = true) ↔ (y % 4 = 0 ∧ (y % 100 ≠ 0 ∨ y % 400 = 0)) := by simp [leap]
  by_cases h : leap y = true
  · rw [if_pos h]
    have := e.1 h
    simp
    omega
  · rw [if_neg h]
    have : ¬ (y % 4 = 0 ∧ (y % 100 ≠ 0 ∨ y % 400 = 0)) := fun x => h (e.2 x)
    simp
    omega

theorem civ_other (y mo : Int) (hm0 : 1 ≤ mo) (hm1 : mo ≤ 11) (hm2 : mo ≠ 2) : civ y (mo + 1) - civ y mo = if mo = 4 ∨ mo = 6 ∨ mo = 9 ∨ mo = 11 then 30 else 31 := by
  have hm : mo = 1 ∨ mo = 3 ∨ mo = 4 ∨ mo = 5 ∨ mo = 6 ∨ mo = 7 ∨ mo = 8 ∨ mo = 9 ∨ mo = 10 ∨ mo = 11 := by omega
  rcases hm with rfl | rfl | rfl | rfl | rfl | rfl | rfl | rfl | rfl | rfl <;> simp only [civ] <;> simp <;> omega

theorem civ_dec (y : Int) : civ (y + 1) 1 - civ y 12 = 31 := by
  simp only [civ]; simp; omega

theorem days_civ_lt (m y mo : Int) (hy : y = (m % 4800 + 4800) / 12) (hmo : mo = (m % 4800 + 4800) % 12 + 1) (h : mo ≠ 12) : days m = civ y (mo + 1) - civ y mo := by
  rw [← days_period]
  have h0 : 400 ≤ y := by omega
  have h1 : y ≤ 799 := by omega
  have h2 : (m % 4800 + 4800) % 12 = mo - 1 := by omega
  unfold days
  rw [← hy, h2]
  by_cases e : mo = 2
  · subst e
    rw [if_pos (by omega), show (2 : Int) + 1 = 3 by omega, civ_feb y h0 h1]
  · rw [if_neg (by omega), civ_other y mo (by omega) (by omega) e]
    by_cases g : mo = 4 ∨ mo = 6 ∨ mo = 9 ∨ mo = 11
    · rw [if_pos g, if_pos (by omega)]
    · rw [if_neg g, if_neg (by omega)]

theorem days_civ_dec (m y : Int) (hmo : (m % 4800 + 4800) % 12 + 1 = 12) : days m = civ (y + 1) 1 - civ y 12 := by
  rw [← days_period, civ_dec, days, if_neg (by omega), if_neg (by omega)]

end Go.Proofs.Qxb6600761a
