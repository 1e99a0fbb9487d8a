/-
  The walk of itoaU: a number's digits.
-/
import Derived.Test.Qxb6001216aAll
namespace Go.Proofs.Qxb6001216a
open Go.RowKit

theorem pow10_lt (n : Int) (c : Nat) (h1 : n ≤ 18446744073709551615) (h : 0 < n / 10 ^ c) : c ≤ 19 := by
  rcases Nat.lt_or_ge 19 c with hc | hc
  · exfalso
    obtain ⟨d, rfl⟩ : ∃ d, c = d + 20 := ⟨c - 20, by omega⟩
    have hp : (0 : Int) < 10 ^ d := Int.pow_pos (by omega)
    have hm : (10 : Int) ^ (d + 20) = 10 ^ d * 100000000000000000000 := by rw [Int.pow_add]; rfl
    have h2 : n / 10 ^ (d + 20) ≤ 0 := by
      apply Int.le_of_lt_add_one
      apply Int.ediv_lt_of_lt_mul (by rw [hm]; omega)
      rw [hm]
      omega
    omega
  · exact hc

theorem pow10_step (n : Int) (c : Nat) : n / 10 ^ c / 10 = n / 10 ^ (c + 1) := by
  rw [Int.pow_succ, Int.ediv_ediv_of_nonneg (Int.le_of_lt (Int.pow_pos (by omega)))]

theorem pow10_le (n : Int) (c : Nat) (h0 : 0 ≤ n) : n / 10 ^ c ≤ n ∧ 0 ≤ n / 10 ^ c :=
  ⟨Int.ediv_le_self _ h0, Int.ediv_nonneg h0 (Int.le_of_lt (Int.pow_pos (by omega)))⟩

theorem zero_dig : Dig ⟨#[48]⟩ := by
  intro j hj
  have hj' : j < 1 := hj
  obtain rfl : j = 0 := by omega
  decide

theorem buf_start (w : World) : (w.alloc (.cells #[.int .u8 0, .int .u8 0, .int .u8 0, .int .u8 0, .int .u8 0, .int .u8 0, .int .u8 0, .int .u8 0, .int .u8 0, .int .u8 0, .int .u8 0, .int .u8 0, .int .u8 0, .int .u8 0, .int .u8 0, .int .u8 0, .int .u8 0, .int .u8 0, .int .u8 0, .int .u8 0] 40)).rowIs w.heap.size 40 20 (fun _ => .int .u8 0) :=
  World.rowIs_alloc w _ 40 _ (fun i hi => by
    have hi' : i < 20 := hi
    have h : i = 0 ∨ i = 1 ∨ i = 2 ∨ i = 3 ∨ i = 4 ∨ i = 5 ∨ i = 6 ∨ i = 7 ∨ i = 8 ∨ i = 9 ∨ i = 10 ∨ i = 11 ∨ i = 12 ∨ i = 13 ∨ i = 14 ∨ i = 15 ∨ i = 16 ∨ i = 17 ∨ i = 18 ∨ i = 19 := by omega
    rcases h with rfl | rfl | rfl | rfl | rfl | rfl | rfl | rfl | rfl | rfl | rfl | rfl | rfl | rfl | rfl | rfl | rfl | rfl | rfl | rfl <;> rfl)

/-- the string of the bytes d J .. d 19 -/
def strOf (d : Nat → Int) (J m : Nat) : ByteArray := ⟨((List.range m).map fun i => UInt8.ofNat (d (J + i)).toNat).toArray⟩

theorem strOf_size (d : Nat → Int) (J m : Nat) : (strOf d J m).size = m := by
  show (((List.range m).map fun i => UInt8.ofNat (d (J + i)).toNat).toArray).size = m
  simp

theorem strOf_bt (d : Nat → Int) (J m i : Nat) (hi : i < m) (h : 48 ≤ d (J + i) ∧ d (J + i) ≤ 57) : bt (strOf d J m) i = d (J + i) := by
  have e : (strOf d J m).data.toList = (List.range m).map fun i => UInt8.ofNat (d (J + i)).toNat := by simp [strOf]
  rw [bt, e, List.getD_eq_getElem?_getD, List.getElem?_map, List.getElem?_range hi]
  simp only [Option.map_some, Option.getD_some, UInt8.toNat_ofNat']
  omega

theorem conv27 (d : Nat → Int) (T J m cap : Nat) (w : World) (hT : w.rowIs T 40 20 (fun i => .int .u8 (d i))) (hm : J + m ≤ 20) (hd : ∀ i, J ≤ i → i < 20 → 48 ≤ d i ∧ d i ≤ 57) :
    (convert 27 9 (.slice (some ⟨T, J, none⟩) m cap)).run Try.prog w = .ok (.string (strOf d J m)) w := by
  have hl : ((List.range m).map fun i => UInt8.ofNat (d (J + i)).toNat).length = m := by simp
  have h := run_convert_bytes_back (P := Try.prog) w 27 9 5 ⟨T, J, none⟩ cap ((List.range m).map fun i => UInt8.ofNat (d (J + i)).toNat) Try.underlying27 Try.underlying5 Try.underlying9 (fun j hj => by
    rw [hl] at hj
    rw [Addr.add_lit, hT.cell (by omega)]
    have hb := hd (J + j) (by omega) (by omega)
    simp only [List.getElem_map, List.getElem_range, UInt8.toNat_ofNat']
    congr 2
    omega)
  rw [hl] at h
  exact h

theorem slice40 (T J : Nat) (hJ : J ≤ 19) (w : World) :
    (Instr.sliceAt 40 (.pointer (some ⟨T, 0, none⟩)) (some (.int .i64 (J : Int))) none none).run Try.prog w = .ok (.slice (some ⟨T, J, none⟩) (20 - J) (20 - J)) w := by
  have e1 : Try.prog.arrayLen 40 = 20 := by kernel_rfl
  have e2 : ∀ w, (sizeOf (Try.prog.elem 40)).run Try.prog w = .ok 1 w := fun w => by kernel_rfl
  have h := run_sliceAt_array_l (P := Try.prog) w 40 ⟨T, 0, none⟩ (by kernel_rfl) .i64 (J : Int) (by omega) (by rw [e1]; omega)
  rw [h, e2, e1]
  simp only [Result.andThen, slicedAt, Int.toNat_natCast, Nat.mul_one]
  rw [if_neg (by omega), Addr.add_lit, Nat.zero_add]

set_option maxRecDepth 100000 in
set_option maxHeartbeats 1000000 in
theorem itoa15 (n : Int) (w : World) (h0 : 0 ≤ n) (h1 : n ≤ 18446744073709551615) :
    Calls Try.prog 15 #[.int .u64 n] w fun e w' => ∃ t : ByteArray, e = .returned (.string t) ∧ 0 < t.size ∧ t.size ≤ 20 ∧ Dig t ∧ Below w.heap.size w w' := by
  by_cases hn0 : n = 0
  · have hz : (n == 0) = true := by simp [hn0]
    clear hn0
    go_enter Try.func15, Try.ntmps15
    go_wp2
    go_ret
    exact ⟨⟨#[48]⟩, rfl, by decide, by decide, zero_dig, Below.refl _ _⟩
  · have hz : (n == 0) = false := by simp [hn0]
    have HN : Hid (¬ n = 0) := hn0
    clear hn0
    go_enter Try.func15, Try.ntmps15
    go_wp2
    go_loopw [0, 4] (fun x j wr => ∃ (c J : Nat) (X : Int) (d : Nat → Int), J + c = 20 ∧ j = .int .i64 J ∧ x = .int .u64 X ∧ Hid (X = n / 10 ^ c) ∧ wr.rowIs w.heap.size 40 20 (fun i => .int .u8 (d i)) ∧ (∀ i, J ≤ i → i < 20 → 48 ≤ d i ∧ d i ≤ 57) ∧ Below w.heap.size w wr) (fun _ j _ => (intOf j).toNat)
    case atStart => exact ⟨0, 20, n, fun _ => 0, rfl, rfl, rfl, by unfold Hid; simp, buf_start w, fun i h h' => by omega, (Below.refl _ _).alloc (Nat.le_refl _) _⟩
    case round =>
      obtain ⟨c, J, X, d, hJ, rfl, rfl, HX, hT, hd, hb⟩ := hrel
      by_cases hx : 0 < X
      · have hc := pow10_lt n c h1 (by rw [← HX.out]; exact hx)
        obtain ⟨q, hq⟩ : ∃ q : Nat, (J : Int) - 1 = (q : Int) := ⟨J - 1, by omega⟩
        have hq1 : q < 20 := by omega
        have HC : Hid (q + (c + 1) = 20) := by show q + (c + 1) = 20; omega
        have hJ2 : 1 ≤ J := by omega
        have hJ3 : J ≤ 20 := by omega
        have c1 := hT.cell hq1
        have f1 := hT.frozen q
        have hX1 : X ≤ 18446744073709551615 := by have := pow10_le n c h0; have := HX.out; omega
        have hqJ : Hid (q + 1 = J) := by show q + 1 = J; omega
        clear hJ
        go_wp2
        go_roundw
        case rel =>
          refine ⟨c + 1, q, X / 10, fun i => if i = q then 48 + X % 10 else d i, HC.out, rfl, rfl, ?_, ?_, ?_, hb.setCell (by exact Nat.le_refl _) _⟩
          · show X / 10 = n / 10 ^ (c + 1)
            rw [HX.out]; exact pow10_step n c
          · refine (hT.set q _).congr (fun i _ => ?_)
            show (if i = q then Value.int .u8 (48 + X % 10) else Value.int .u8 (d i)) = Value.int .u8 (if i = q then 48 + X % 10 else d i)
            split <;> rfl
          · intro i hi hi2
            by_cases e : i = q
            · simp only [e, if_true]; omega
            · simp only [e, if_false]
              have := hqJ.out
              exact hd i (by omega) hi2
        case measure => simp [intOf]; omega
      · have hX0 : X = 0 := by have := pow10_le n c h0; have := HX.out; omega
        have hc1 : 1 ≤ c := by
          rcases Nat.lt_or_ge 0 c with h | h
          · exact h
          · exfalso
            obtain rfl : c = 0 := by omega
            have h2 := HX.out
            rw [Int.pow_zero, Int.ediv_one] at h2
            exact HN.out (by omega)
        have hJ4 : J ≤ 19 := by omega
        have hcv := conv27 d w.heap.size J (20 - J) (20 - J) wr hT (by omega) hd
        have hfin : 0 < (strOf d J (20 - J)).size ∧ (strOf d J (20 - J)).size ≤ 20 ∧ Dig (strOf d J (20 - J)) := by
          rw [strOf_size]
          refine ⟨by omega, by omega, fun j hj => ?_⟩
          rw [strOf_size] at hj
          have h3 := hd (J + j) (by omega) (by omega)
          rw [strOf_bt d J (20 - J) j hj h3]
          exact h3
        have HF : Hid (0 < (strOf d J (20 - J)).size ∧ (strOf d J (20 - J)).size ≤ 20 ∧ Dig (strOf d J (20 - J))) := hfin
        clear hfin hJ hX0 hd hT
        have hsl := slice40 w.heap.size J hJ4
        go_wp2
        go_ret
        exact ⟨_, rfl, HF.out.1, HF.out.2.1, HF.out.2.2, hb⟩
end Go.Proofs.Qxb6001216a
