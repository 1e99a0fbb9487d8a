/-
  The decimal digits of a number, written down and read again: what FnParseDigitsRoundTrip's walk leans on.
-/
import Derived.Test.Qxb6600761aParse
import Derived.Deep.OwnRows
namespace Go.Proofs.Qxb6600761a
open Go.RowKit
theorem Try.info5 : (Try.prog.info? 5).map (fun i => (i.zero, i.size, i.bytes)) = some (some (.int .u8 0), 1, 1) := by kernel_rfl

theorem make34 (k : Nat) (hk : k ≤ 4096) (w : World) :
    (Instr.makeSlice 34 (.int .i64 0) (.int .i64 ((k : Int) + 24))).run Try.prog w = .ok (.slice (some ⟨w.heap.size, 0, none⟩) 0 (k + 24)) (w.alloc (.cells (madeCells #[.int .u8 0] (k + 24)) 5)) := by
  obtain ⟨i, hi, hzz⟩ := Option.map_eq_some_iff.1 Try.info5
  simp only [Prod.mk.injEq] at hzz
  obtain ⟨hz, hs, hb⟩ := hzz
  have hr := run_make (P := Try.prog) w 34 5 i _ Try.underlying34 hi hz .i64 .i64 0 ((k : Int) + 24) (by omega) (by omega) (by rw [hb]; omega) (by omega)
  rw [hs, show ((k : Int) + 24).toNat = k + 24 by omega, Nat.mul_one] at hr
  exact hr

/-- buf behind t zeros -/
def zeroAt (t i : Nat) : Value := .int .u8 (if i < t then 48 else 0)
theorem zeroAt_step (t i : Nat) : (if i = t then Value.int .u8 48 else zeroAt t i) = zeroAt (t + 1) i := by
  unfold zeroAt
  by_cases e : i = t
  · rw [if_pos e, if_pos (by omega)]
  · rw [if_neg e]
    by_cases h : i < t
    · rw [if_pos h, if_pos (by omega)]
    · rw [if_neg h, if_neg (by omega)]

/-- tmp behind c digits of n -/
def tmpAt (n : Int) (c : Nat) (i : Nat) : Value := .int .u8 (if 24 - c ≤ i then 48 + n / 10 ^ (23 - i) % 10 else 0)

theorem tmpAt_step (n : Int) (c i : Nat) (hc : c < 24) (hi : i < 24) : (if i = 23 - c then Value.int .u8 (48 + n / 10 ^ c % 10) else tmpAt n c i) = tmpAt n (c + 1) i := by
  unfold tmpAt
  by_cases e : i = 23 - c
  · have e2 : 23 - i = c := by omega
    rw [if_pos e, if_pos (by omega), e2]
  · rw [if_neg e]
    by_cases h : 24 - c ≤ i
    · rw [if_pos h, if_pos (by omega)]
    · rw [if_neg h, if_neg (by omega)]

theorem tmp_start (w : World) (n : Int) : (w.alloc (.cells #[.int .u8 0, .int .u8 0, .int .u8 0, .int .u8 0, .int .u8 0, .int .u8 0, .int .u8 0, .int .u8 0, .int .u8 0, .int .u8 0, .int .u8 0, .int .u8 0, .int .u8 0, .int .u8 0, .int .u8 0, .int .u8 0, .int .u8 0, .int .u8 0, .int .u8 0, .int .u8 0, .int .u8 0, .int .u8 0, .int .u8 0, .int .u8 0] 35)).rowIs w.heap.size 35 24 (tmpAt n 0) :=
  World.rowIs_alloc w _ 35 _ (fun i hi => by
    have hi' : i < 24 := hi
    have e : tmpAt n 0 i = .int .u8 0 := by simp only [tmpAt]; rw [if_neg (by omega)]
    rw [e]
    have h : i = 0 ∨ i = 1 ∨ i = 2 ∨ i = 3 ∨ i = 4 ∨ i = 5 ∨ i = 6 ∨ i = 7 ∨ i = 8 ∨ i = 9 ∨ i = 10 ∨ i = 11 ∨ i = 12 ∨ i = 13 ∨ i = 14 ∨ i = 15 ∨ i = 16 ∨ i = 17 ∨ i = 18 ∨ i = 19 ∨ i = 20 ∨ i = 21 ∨ i = 22 ∨ i = 23 := by omega
    rcases h with rfl | rfl | rfl | rfl | rfl | rfl | rfl | rfl | rfl | rfl | rfl | rfl | rfl | rfl | rfl | rfl | rfl | rfl | rfl | rfl | rfl | rfl | rfl | rfl <;> rfl)

theorem tmp_zero (w : World) (n : Int) (hn : n = 0) : (w.alloc (.cells #[.int .u8 0, .int .u8 0, .int .u8 0, .int .u8 0, .int .u8 0, .int .u8 0, .int .u8 0, .int .u8 0, .int .u8 0, .int .u8 0, .int .u8 0, .int .u8 0, .int .u8 0, .int .u8 0, .int .u8 0, .int .u8 0, .int .u8 0, .int .u8 0, .int .u8 0, .int .u8 0, .int .u8 0, .int .u8 0, .int .u8 0, .int .u8 48] 35)).rowIs w.heap.size 35 24 (tmpAt n 1) :=
  World.rowIs_alloc w _ 35 _ (fun i hi => by
    have hi' : i < 24 := hi
    subst hn
    have h : i = 0 ∨ i = 1 ∨ i = 2 ∨ i = 3 ∨ i = 4 ∨ i = 5 ∨ i = 6 ∨ i = 7 ∨ i = 8 ∨ i = 9 ∨ i = 10 ∨ i = 11 ∨ i = 12 ∨ i = 13 ∨ i = 14 ∨ i = 15 ∨ i = 16 ∨ i = 17 ∨ i = 18 ∨ i = 19 ∨ i = 20 ∨ i = 21 ∨ i = 22 ∨ i = 23 := by omega
    rcases h with rfl | rfl | rfl | rfl | rfl | rfl | rfl | rfl | rfl | rfl | rfl | rfl | rfl | rfl | rfl | rfl | rfl | rfl | rfl | rfl | rfl | rfl | rfl | rfl <;> rfl)

theorem pow10_lt (n : Int) (c : Nat) (h1 : n ≤ 9223372036854775807) (h : 0 < n / 10 ^ c) : c ≤ 18 := by
  rcases Nat.lt_or_ge 18 c with hc | hc
  · exfalso
    obtain ⟨d, rfl⟩ : ∃ d, c = d + 19 := ⟨c - 19, by omega⟩
    have hp : (0 : Int) < 10 ^ d := Int.pow_pos (by omega)
    have hm : (10 : Int) ^ (d + 19) = 10 ^ d * 10000000000000000000 := by rw [Int.pow_add]; rfl
    have h2 : n / 10 ^ (d + 19) ≤ 0 := by
      apply Int.le_of_lt_add_one
      apply Int.ediv_lt_of_lt_mul (by rw [hm]; omega)
      rw [hm]
      omega
    omega
  · exact hc

theorem pow10_step (n : Int) (c : Nat) : n / 10 ^ c / 10 = n / 10 ^ (c + 1) := by
  rw [Int.pow_succ, Int.ediv_ediv_of_nonneg (Int.le_of_lt (Int.pow_pos (by omega)))]

theorem pow10_le (n : Int) (c : Nat) (h0 : 0 ≤ n) : n / 10 ^ c ≤ n ∧ 0 ≤ n / 10 ^ c :=
  ⟨Int.ediv_le_self _ h0, Int.ediv_nonneg h0 (Int.le_of_lt (Int.pow_pos (by omega)))⟩

/-- the bytes of t zeros and the c digits of n -/
def Bf (n : Int) (t c i : Nat) : Int := if i < t then 48 else 48 + n / 10 ^ (c - 1 - (i - t)) % 10

theorem Bf_dig (n : Int) (t c i : Nat) : 48 ≤ Bf n t c i ∧ Bf n t c i ≤ 57 := by
  unfold Bf
  split <;> omega

/-- buf behind u digits -/
def bufAt (n : Int) (t c u i : Nat) : Value := .int .u8 (if i < t + u then Bf n t c i else 0)

theorem bufAt_step (n : Int) (t c u i : Nat) : (if i = t + u then Value.int .u8 (48 + n / 10 ^ (c - 1 - u) % 10) else bufAt n t c u i) = bufAt n t c (u + 1) i := by
  unfold bufAt
  by_cases e : i = t + u
  · rw [if_pos e, if_pos (by omega), Bf, if_neg (by omega), show i - t = u by omega]
  · rw [if_neg e]
    by_cases h : i < t + u
    · rw [if_pos h, if_pos (by omega)]
    · rw [if_neg h, if_neg (by omega)]

theorem exV_zero (n : Int) (t c : Nat) : ∀ i, i ≤ t → exV (Bf n t c) i = 0
  | 0, _ => rfl
  | i + 1, h => by
    rw [exV, exV_zero n t c i (by omega), Bf, if_pos (by omega)]; rfl

theorem exV_dig (n : Int) (t c : Nat) (hc : n / 10 ^ c = 0) : ∀ u, u ≤ c → exV (Bf n t c) (t + u) = n / 10 ^ (c - u)
  | 0, _ => by rw [Nat.add_zero, exV_zero n t c t (Nat.le_refl _), Nat.sub_zero, hc]
  | u + 1, h => by
    have ih := exV_dig n t c hc u (by omega)
    rw [← Nat.add_assoc, exV, ih, Bf, if_neg (by omega), show t + u - t = u by omega]
    obtain ⟨d, hd⟩ : ∃ d, c - u = d + 1 := ⟨c - u - 1, by omega⟩
    rw [hd, show c - 1 - u = d by omega, show c - (u + 1) = d by omega, ← pow10_step n d]
    omega

theorem exV_all (n : Int) (t c : Nat) (hc : n / 10 ^ c = 0) : exV (Bf n t c) (t + c) = n := by
  rw [exV_dig n t c hc c (Nat.le_refl _), Nat.sub_self, Int.pow_zero, Int.ediv_one]

/-- the string of them -/
def strOf (n : Int) (t c : Nat) : ByteArray := ⟨((List.range (t + c)).map fun i => UInt8.ofNat (Bf n t c i).toNat).toArray⟩

theorem strOf_size (n : Int) (t c : Nat) : (strOf n t c).size = t + c := by simp [strOf, ByteArray.size]

theorem strOf_bt (n : Int) (t c i : Nat) (hi : i < t + c) : bt (strOf n t c) i = Bf n t c i := by
  have h := Bf_dig n t c i
  have e : (strOf n t c).data.toList = (List.range (t + c)).map fun i => UInt8.ofNat (Bf n t c i).toNat := by simp [strOf]
  rw [bt, e, List.getD_eq_getElem?_getD, List.getElem?_map, List.getElem?_range hi]
  simp only [Option.map_some, Option.getD_some, UInt8.toNat_ofNat']
  omega

theorem exV_congr (A B : Nat → Int) : ∀ n, (∀ i, i < n → A i = B i) → exV A n = exV B n
  | 0, _ => rfl
  | n + 1, h => by rw [exV, exV, exV_congr A B n (fun i hi => h i (by omega)), h n (by omega)]

theorem conv34 (n : Int) (t c cap N : Nat) (w : World) (hN : w.rowIs N 5 (t + 24) (bufAt n t c c)) (hc : c ≤ 24) :
    (convert 34 9 (.slice (some ⟨N, 0, none⟩) (t + c) cap)).run Try.prog w = .ok (.string (strOf n t c)) w := by
  have hl : ((List.range (t + c)).map fun i => UInt8.ofNat (Bf n t c i).toNat).length = t + c := by simp
  have h := run_convert_bytes_back (P := Try.prog) w 34 9 5 ⟨N, 0, none⟩ cap ((List.range (t + c)).map fun i => UInt8.ofNat (Bf n t c i).toNat) Try.underlying34 Try.underlying5 Try.underlying9 (fun j hj => by
    rw [hl] at hj
    rw [Addr.add_lit, Nat.zero_add, hN.cell (by omega)]
    have hb := Bf_dig n t c j
    simp only [List.getElem_map, List.getElem_range, UInt8.toNat_ofNat', bufAt]
    rw [if_pos hj]
    congr 2
    omega)
  rw [hl] at h
  exact h

end Go.Proofs.Qxb6600761a
