/-
  The walk of FnAllDigitsDecimalRendering.
-/
import Derived.Test.Qxb6001216aItoa
import Derived.RegionTactic
import Derived.Lib.Strings
import Derived.ChangeAlike
namespace Go.Proofs.Qxb6001216a
open Go.RowKit

/-- string([]byte{c}) over a new block -/
theorem conv1 (c : Int) (h0 : 0 ≤ c) (h1 : c ≤ 255) (T : Nat) (w : World) (hc : w.cell? ⟨T, 0, none⟩ = some (.int .u8 c)) :
    (convert 27 9 (.slice (some ⟨T, 0, none⟩) 1 1)).run Try.prog w = .ok (.string ⟨#[UInt8.ofNat c.toNat]⟩) w := by
  have h := run_convert_bytes_back (P := Try.prog) w 27 9 5 ⟨T, 0, none⟩ 1 [UInt8.ofNat c.toNat] Try.underlying27 Try.underlying5 Try.underlying9 (fun j hj => by
    have hj' : j < 1 := hj
    obtain rfl : j = 0 := by omega
    rw [Addr.add_lit, hc]
    simp only [List.getElem_cons_zero, UInt8.toNat_ofNat']
    congr 2
    omega)
  exact h

theorem dig_iff (s : ByteArray) : Dig s ↔ ∀ b, b ∈ s.data.toList → 48 ≤ (b.toNat : Int) ∧ (b.toNat : Int) ≤ 57 := by
  have hl : s.data.toList.length = s.size := Array.length_toList
  constructor
  · intro h b hb
    obtain ⟨j, hj, rfl⟩ := List.getElem_of_mem hb
    have := h j (by omega)
    rw [bt, List.getD_eq_getElem?_getD, List.getElem?_eq_getElem hj] at this
    exact this
  · intro h j hj
    have hj' : j < s.data.toList.length := by omega
    rw [bt, List.getD_eq_getElem?_getD, List.getElem?_eq_getElem hj']
    exact h _ (List.getElem_mem hj')

/-- one byte put into a string -/
theorem ins_list (t : ByteArray) (q : Nat) (x : UInt8) (hq : q ≤ t.size) : (t.extract 0 q ++ ⟨#[x]⟩ ++ t.extract q t.size).data.toList = t.data.toList.take q ++ [x] ++ t.data.toList.drop q := by
  have hl : t.data.toList.length = t.size := Array.length_toList
  have e1 : (t.extract 0 q).data.toList = t.data.toList.take q := by rw [Lib.extract_data]; simp
  have e2 : (t.extract q t.size).data.toList = t.data.toList.drop q := by
    rw [Lib.extract_data, List.take_of_length_le]
    rw [List.length_drop]; omega
  rw [ByteArray.data_append, ByteArray.data_append, Array.toList_append, Array.toList_append, e1, e2]

theorem ins_size (t : ByteArray) (q : Nat) (x : UInt8) (hq : q ≤ t.size) : (t.extract 0 q ++ ⟨#[x]⟩ ++ t.extract q t.size).size = t.size + 1 := by
  have hl : t.data.toList.length = t.size := Array.length_toList
  have h : (t.extract 0 q ++ ⟨#[x]⟩ ++ t.extract q t.size).data.toList.length = t.size + 1 := by
    rw [ins_list t q x hq]
    simp only [List.length_append, List.length_take, List.length_drop, List.length_cons, List.length_nil]
    omega
  rw [Array.length_toList] at h
  exact h

theorem ins_dig (t : ByteArray) (q : Nat) (c : Int) (c0 : 0 ≤ c) (c1 : c ≤ 255) (hq : q ≤ t.size) (hd : Dig t) : Dig (t.extract 0 q ++ ⟨#[UInt8.ofNat c.toNat]⟩ ++ t.extract q t.size) ↔ 48 ≤ c ∧ c ≤ 57 := by
  have hx : ((UInt8.ofNat c.toNat).toNat : Int) = c := by rw [UInt8.toNat_ofNat']; omega
  rw [dig_iff, ins_list t q _ hq]
  rw [dig_iff] at hd
  constructor
  · intro h
    have := h (UInt8.ofNat c.toNat) (by simp)
    rw [hx] at this
    exact this
  · intro h b hb
    simp only [List.append_assoc, List.mem_append, List.mem_cons, List.not_mem_nil, or_false] at hb
    rcases hb with hb | hb | hb
    · exact hd b (List.mem_of_mem_take hb)
    · rw [hb, hx]; exact h
    · exact hd b (List.mem_of_mem_drop hb)

set_option maxHeartbeats 1000000 in
theorem law4 (n p c : Int) (w : World) (h0 : 0 ≤ n) (h1 : n ≤ 18446744073709551615) (p0 : 0 ≤ p) (p1 : p ≤ 4294967295) (c0 : 0 ≤ c) (c1 : c ≤ 255) :
    Calls Try.prog 4 #[.int .u64 n, .int .u32 p, .int .u8 c] w fun e w' => e = .returned (.bool true) ∧ Below w.heap.size w w' := by
  go_enter Try.func4, Try.ntmps4
  go_wp2_with fail
  refine (itoa15 n _ h0 h1).mono ?_
  rintro e w1 ⟨t, rfl, t0, t1, hd, hb1⟩
  go_wp2_with fail
  refine (all14_yes t _ (by omega) t0 hd).mono ?_
  rintro e w2 ⟨rfl, hb2⟩
  have hb2' : Below w.heap.size w w2 := hb1.trans (hb2.mono hb1.size)
  clear hb1 hb2
  obtain ⟨q, hq⟩ : ∃ q : Nat, p % ((t.size : Int) + 1) = (q : Int) := ⟨(p % ((t.size : Int) + 1)).toNat, by have := Int.emod_nonneg p (show (t.size : Int) + 1 ≠ 0 by omega); omega⟩
  have hq1 : q ≤ t.size := by have := Int.emod_lt_of_pos p (show 0 < (t.size : Int) + 1 by omega); omega
  have hcv : (convert 27 9 (.slice (some ⟨w2.heap.size, 0, none⟩) 1 1)).run Try.prog ((w2.alloc (.cells #[.int .u8 c] 5)).drew) = .ok (.string ⟨#[UInt8.ofNat c.toNat]⟩) ((w2.alloc (.cells #[.int .u8 c] 5)).drew) := by
    exact conv1 c c0 c1 _ _ (by go_simp)
  go_wp2_with fail
  go_region
  have hz := ins_size t q (UInt8.ofNat c.toNat) hq1
  have hi := ins_dig t q c c0 c1 hq1 hd
  generalize t.extract 0 q ++ ⟨#[UInt8.ofNat c.toNat]⟩ ++ t.extract q t.size = u at *
  have hz1 : u.size ≤ 1048576 := by omega
  have hz0 : 0 < u.size := by omega
  have hbW : Below w.heap.size w (w2.alloc (.cells #[.int .u8 c] 5)).drew := (hb2'.alloc hb2'.size _).drew
  clear hz hcv hq
  by_cases g : 48 ≤ c ∧ c ≤ 57
  · have hu := hi.2 g
    obtain ⟨g1, g2⟩ := g
    clear hi
    have d1 : decide (48 ≤ c) = true := by simpa using g1
    have d2 : decide (c ≤ 57) = true := by simpa using g2
    go_wp2_with fail
    refine (all14_yes u _ hz1 hz0 hu).mono ?_
    rintro e w3 ⟨rfl, hb3⟩
    go_wp2_with fail
    go_ret
    exact ⟨rfl, hbW.trans (hb3.mono hbW.size)⟩
  · have hu : ¬ Dig u := fun h => g (hi.1 h)
    clear hi
    by_cases g1 : 48 ≤ c
    · have g2 : ¬ c ≤ 57 := fun h => g ⟨g1, h⟩
      have d1 : decide (48 ≤ c) = true := by simpa using g1
      have d2 : decide (c ≤ 57) = false := by simpa using g2
      clear g
      go_wp2_with fail
      refine (all14_no u _ hz1 hu).mono ?_
      rintro e w3 ⟨rfl, hb3⟩
      go_wp2_with fail
      go_ret
      exact ⟨rfl, hbW.trans (hb3.mono hbW.size)⟩
    · have d1 : decide (48 ≤ c) = false := by simpa using g1
      clear g
      go_wp2_with fail
      refine (all14_no u _ hz1 hu).mono ?_
      rintro e w3 ⟨rfl, hb3⟩
      go_wp2_with fail
      go_ret
      exact ⟨rfl, hbW.trans (hb3.mono hbW.size)⟩
end Go.Proofs.Qxb6001216a
