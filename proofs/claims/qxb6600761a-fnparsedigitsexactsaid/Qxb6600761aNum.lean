/-
  Numbers by their digits, modulo the width of an int. Plain.
-/
import Derived.RowKit
namespace Go.Proofs.Qxb6600761a
open Go.RowKit

theorem wrap64_by (x y : Int) : wrap64 (x - 18446744073709551616 * y) = wrap64 x := by unfold wrap64; omega
theorem wrap64_is (x : Int) : wrap64 x = x - 18446744073709551616 * ((x + 9223372036854775808) / 18446744073709551616) := by unfold wrap64; omega
theorem wrap64_addl (a b : Int) : wrap64 (wrap64 a + b) = wrap64 (a + b) := by unfold wrap64; omega
theorem wrap64_addr (a b : Int) : wrap64 (a + wrap64 b) = wrap64 (a + b) := by unfold wrap64; omega
theorem wrap64_mull (a b : Int) : wrap64 (wrap64 a * b) = wrap64 (a * b) := by
  rw [wrap64_is a, Int.sub_mul, Int.mul_assoc, wrap64_by]
theorem wrap64_mulr (a b : Int) : wrap64 (a * wrap64 b) = wrap64 (a * b) := by
  rw [Int.mul_comm, wrap64_mull, Int.mul_comm]

/-- the number that the first k digits name -/
def exV (B : Nat → Int) : Nat → Int
  | 0 => 0
  | k + 1 => exV B k * 10 + (B k - 48)

/-- how many of the first k bytes are digits -/
def digN (B : Nat → Int) : Nat → Nat
  | 0 => 0
  | k + 1 => if 48 ≤ B k ∧ B k ≤ 57 then digN B k + 1 else digN B k

theorem digN_le (B : Nat → Int) : ∀ k, digN B k ≤ k
  | 0 => Nat.le_refl _
  | k + 1 => by
    have := digN_le B k
    rw [digN]; split <;> omega

theorem digN_all (B : Nat → Int) : ∀ k, digN B k = k → ∀ j, j < k → 48 ≤ B j ∧ B j ≤ 57
  | 0, _, j, h => by omega
  | k + 1, h, j, hj => by
    have h1 := digN_le B k
    rw [digN] at h
    split at h
    · rename_i hk
      by_cases e : j = k
      · subst e; exact hk
      · exact digN_all B k (by omega) j (by omega)
    · omega

theorem digN_of (B : Nat → Int) : ∀ k, (∀ j, j < k → 48 ≤ B j ∧ B j ≤ 57) → digN B k = k
  | 0, _ => rfl
  | k + 1, h => by
    rw [digN, if_pos (h k (by omega)), digN_of B k (fun j hj => h j (by omega))]

/-- the number that the last t of n digits name -/
def suf (B : Nat → Int) (n : Nat) : Nat → Int
  | 0 => 0
  | t + 1 => suf B n t + (B (n - 1 - t) - 48) * 10 ^ t

theorem exV_suf (B : Nat → Int) (n : Nat) : ∀ t, t ≤ n → exV B n = exV B (n - t) * 10 ^ t + suf B n t
  | 0, _ => by simp [suf]
  | t + 1, h => by
    rw [exV_suf B n t (by omega), suf]
    obtain ⟨k, hk⟩ : ∃ k, n - t = k + 1 := ⟨n - t - 1, by omega⟩
    rw [hk, exV, show n - (t + 1) = k by omega, show n - 1 - t = k by omega, Int.pow_succ, Int.add_mul, Int.mul_assoc, Int.mul_comm 10 (10 ^ t)]
    omega

theorem exV_is_suf (B : Nat → Int) (n : Nat) : suf B n n = exV B n := by
  have := exV_suf B n n (Nat.le_refl _)
  rw [Nat.sub_self] at this
  simp [exV] at this
  exact this.symm
end Go.Proofs.Qxb6600761a
