/-
  absorb and the reading of a replica's state back.
-/
import Derived.Test.Qxb6600760aSet
import Derived.Test.Qxb6600760aDelete
import Derived.Deep.RegionWith
import Derived.WalkSmall
import Derived.Test.Qxb6600760aScan
namespace Go.Proofs.Qxb6600760a
open Go.RowKit

/-- the run after k spans have been taken in -/
def runTo (c : Int) (L : Nat → Int) : Nat → Int
  | 0 => c
  | k + 1 => if runTo c L k < L k then L k else runTo c L k

def optC (c : Int) : Option Value := if c = 0 then none else some (.int .u64 c)
def optS (S n cap : Nat) : Option Value := if n = 0 then none else some (.slice (some ⟨S, 0, none⟩) n cap)

theorem optC_get (c : Int) : (optC c).getD (.int .u64 0) = .int .u64 c := by
  unfold optC; split <;> simp_all

theorem runTo_bd (c : Int) (L : Nat → Int) (n : Nat) (hc0 : 0 ≤ c) (hc1 : c ≤ 18446744073709551615) (hL : ∀ i, i < n → 0 ≤ L i ∧ L i ≤ 18446744073709551615) : ∀ k, k ≤ n → 0 ≤ runTo c L k ∧ runTo c L k ≤ 18446744073709551615
  | 0, _ => ⟨hc0, hc1⟩
  | k + 1, hk => by
    have := runTo_bd c L n hc0 hc1 hL k (by omega)
    have h2 := hL k (by omega)
    simp only [runTo]
    split <;> omega

/-- the blocks that absorb may turn -/
def MMS (M1 M2 S : Nat) (k : Nat) : Prop := k = M1 ∨ k = M2 ∨ k = S

/-- what absorb leaves -/
def Absorbed (M1 M2 S : Nat) (r c : Int) (n : Nat) (F L : Nat → Int) (w w' : World) : Prop :=
  ∃ k, k ≤ n ∧ (∀ j, j < k → F j - 1 ≤ runTo c L j) ∧ (k < n → ¬ F k - 1 ≤ runTo c L k) ∧ MapIs w' M1 r (optC (runTo c L k)) ∧ MapIs w' M2 r (optS S (n - k) n) ∧
    Pairs w' (some ⟨S, 0, none⟩) (n - k) (fun i => F (k + i)) (fun i => L (k + i)) ∧ Only (MMS M1 M2 S) w w'

theorem runTo_pos (c : Int) (L : Nat → Int) (n : Nat) (hL : ∀ i, i < n → 1 ≤ L i) : ∀ k, 0 < k → k ≤ n → 1 ≤ runTo c L k
  | 0, h, _ => by omega
  | k + 1, _, hk => by
    have h2 := hL k (by omega)
    simp only [runTo]
    split <;> omega

theorem absorbed_part {M1 M2 S : Nat} {r c : Int} {n k q : Nat} {F L : Nat → Int} {w w1 w2 w3 : World} (hk : k < n) (hin : ∀ j, j < k → F j - 1 ≤ runTo c L j) (ht : ¬ F k - 1 ≤ runTo c L k) (hpos : ¬ runTo c L k = 0)
    (d4 : M1 ≠ M2) (d5 : M1 ≠ S) (d6 : M2 ≠ S) (hS : S < w1.heap.size)
    (ho1 : Only (MMS M1 M2 S) w w1) (hm1 : MapIs w1 M1 r (some (.int .u64 (runTo c L k)))) (ho2 : Only (fun b => b = S) (w1.drewN q) w2) (hs2 : w2.heap.size = (w1.drewN q).heap.size)
    (hcell : ∀ i, i < (n - k) * 2 → w2.cell? ⟨S, i, none⟩ = some (spanTo F L n (k * 2 + i))) (ho3 : Only (fun b => b = M2) w2 w3) (hs3 : w3.heap.size = w2.heap.size)
    (hm3 : MapIs w3 M2 r (some (.slice (some ⟨S, 0, none⟩) (n - k) n))) : Absorbed M1 M2 S r c n F L w w3 := by
  have hs2' : w2.heap.size = w1.heap.size := hs2
  have ho2' : Only (MMS M1 M2 S) w1 w2 := ⟨ho2.os, ho2.tape, ho2.output, ho2.size, fun b hb hnb => ho2.block b hb (fun e => hnb (Or.inr (Or.inr e)))⟩
  have l1 := hm1.lt
  refine ⟨k, by omega, hin, fun _ => ht, ?_, ?_, fun i hi => ⟨S, 0, rfl, by omega, ?_, ?_⟩, (ho1.trans ho2').trans (ho3.mono (fun b e => Or.inr (Or.inl e)))⟩
  · rw [optC, if_neg hpos]
    exact hm1.of_block ((ho3.block M1 (by omega) d4).trans (ho2.block M1 l1 d5))
  · rw [optS, if_neg (by omega)]
    exact hm3
  · rw [ho3.cell (p := ⟨S, 0 + i * 2, none⟩) (by show S < _; omega) (fun e => d6 e.symm), Nat.zero_add, hcell _ (by omega)]
    simp [spanTo, show (k * 2 + i * 2) / 2 = k + i by omega, show (k * 2 + i * 2) % 2 = 0 by omega, show k + i < n by omega]
  · rw [ho3.cell (p := ⟨S, 0 + i * 2 + 1, none⟩) (by show S < _; omega) (fun e => d6 e.symm), Nat.zero_add, hcell _ (by omega)]
    simp [spanTo, show (k * 2 + (i * 2 + 1)) / 2 = k + i by omega, show (k * 2 + (i * 2 + 1)) % 2 = 1 by omega, show k + i < n by omega]

theorem absorbed_all {M1 M2 S : Nat} {r c : Int} {n : Nat} {F L : Nat → Int} {w w1 w2 : World} (hin : ∀ j, j < n → F j - 1 ≤ runTo c L j) (hpos : ¬ runTo c L n = 0) (d4 : M1 ≠ M2)
    (ho1 : Only (MMS M1 M2 S) w w1) (hm1 : MapIs w1 M1 r (some (.int .u64 (runTo c L n)))) (ho3 : Only (fun b => b = M2) w1 w2) (hm3 : MapIs w2 M2 r none) : Absorbed M1 M2 S r c n F L w w2 := by
  refine ⟨n, by omega, hin, fun h => by omega, ?_, ?_, fun i hi => by omega, ho1.trans (ho3.mono (fun b e => Or.inr (Or.inl e)))⟩
  · rw [optC, if_neg hpos]
    exact hm1.of_block (ho3.block M1 hm1.lt d4)
  · rw [optS, if_pos (by omega)]
    exact hm3

theorem absorb40_none (C M1 M2 S : Nat) (r c : Int) (F L : Nat → Int) (w : World)
    (h0 : w.cell? ⟨C, 0, none⟩ = some (.map (some M1))) (h1 : w.cell? ⟨C, 1, none⟩ = some (.map (some M2)))
    (m1 : MapIs w M1 r (optC c)) (m2 : MapIs w M2 r (optS S 0 0)) :
    Calls Try.prog 40 #[.pointer (some ⟨C, 0, none⟩), .int .u64 r] w fun e w' => e = .returned (.tuple #[]) ∧ Absorbed M1 M2 S r c 0 F L w w' := by
  have hl1 : ∀ k, (Instr.lookup 58 (.map (some M1)) (.int .u64 r) false).run Try.prog (w.drewN k) = .ok (.int .u64 c) (w.drewN k) := by
    intro k
    rw [(m1.of_block (w' := w.drewN k) rfl).look Try.underlying58 Try.underlying37 zero31 false, optC_get]
    rfl
  have hl2 : ∀ k, (Instr.lookup 59 (.map (some M2)) (.int .u64 r) false).run Try.prog (w.drewN k) = .ok (.slice none 0 0) (w.drewN k) := by
    intro k
    rw [(m2.of_block (w' := w.drewN k) rfl).look Try.underlying59 Try.underlying37 zero53 false]
    rfl
  have hfin : ∀ q, Absorbed M1 M2 S r c 0 F L w (w.drewN q) := fun q =>
    ⟨0, Nat.le_refl _, fun j hj => by omega, fun h => by omega, m1.of_block rfl, m2.of_block rfl, fun i hi => by omega, ⟨rfl, rfl, rfl, Nat.le_refl _, fun _ _ _ => rfl⟩⟩
  clear m1 m2
  go_enter Try.func40, Try.ntmps40
  go_wp2
  go_quiet (fail)
  go_wp2
  refine wp_loop_rounds 1 ?_
  rw [rounds_succ]
  go_wp2
  exact bodyPost_ret (results_none rfl _ _ _) rfl ⟨rfl, hfin _⟩

set_option maxHeartbeats 2000000 in
theorem absorb40_some (C M1 M2 S : Nat) (r c : Int) (n : Nat) (F L : Nat → Int) (w : World) (hn : n ≤ 1048576) (hn0 : 0 < n)
    (h0 : w.cell? ⟨C, 0, none⟩ = some (.map (some M1))) (h1 : w.cell? ⟨C, 1, none⟩ = some (.map (some M2))) (hC : C < w.heap.size)
    (d1 : C ≠ M1) (d3 : C ≠ S) (d4 : M1 ≠ M2) (d5 : M1 ≠ S) (d6 : M2 ≠ S)
    (m1 : MapIs w M1 r (optC c)) (m2 : MapIs w M2 r (optS S n n)) (hr : w.rowIs S 65 (n * 2) (spanTo F L n))
    (uF : ∀ i, i < n → 1 ≤ F i ∧ F i ≤ 18446744073709551615) (uL : ∀ i, i < n → 1 ≤ L i ∧ L i ≤ 18446744073709551615) (hc0 : 0 ≤ c) (hc1 : c ≤ 18446744073709551615) :
    Calls Try.prog 40 #[.pointer (some ⟨C, 0, none⟩), .int .u64 r] w fun e w' => e = .returned (.tuple #[]) ∧ Absorbed M1 M2 S r c n F L w w' := by
  have hl1 : ∀ k, (Instr.lookup 58 (.map (some M1)) (.int .u64 r) false).run Try.prog (w.drewN k) = .ok (.int .u64 c) (w.drewN k) := by
    intro k
    rw [(m1.of_block (w' := w.drewN k) rfl).look Try.underlying58 Try.underlying37 zero31 false, optC_get]
    rfl
  have hl2 : ∀ k, (Instr.lookup 59 (.map (some M2)) (.int .u64 r) false).run Try.prog (w.drewN k) = .ok (.slice (some ⟨S, 0, none⟩) n n) (w.drewN k) := by
    intro k
    rw [(m2.of_block (w' := w.drewN k) rfl).look Try.underlying59 Try.underlying37 zero53 false]
    simp [optS, show ¬ n = 0 by omega]
  have hbd := runTo_bd c L n hc0 hc1 (fun i hi => ⟨by have := uL i hi; omega, (uL i hi).2⟩)
  go_enter Try.func40, Try.ntmps40
  go_wp2
  go_quiet (fail)
  go_wp2
  clear hl1 hl2
  go_loopw [4, 6] (fun i j wr => ∃ k : Nat, k ≤ n ∧ j = .int .i64 k ∧ i = .int .u64 (runTo c L k) ∧ (∀ j, j < k → F j - 1 ≤ runTo c L j) ∧ w.drewN nq = wr) (fun _ j _ => n - (intOf j).toNat)
  case atStart => exact ⟨0, Nat.zero_le _, rfl, rfl, fun j hj => by omega, rfl⟩
  case round =>
    obtain ⟨k, hk, rfl, rfl, hin, rfl⟩ := hrel
    have hb0 := (hbd k hk).1
    have hb1 := (hbd k hk).2
    by_cases hlt : k < n
    · have x0 := hr.cell (i := k * 2) (by omega)
      have x1 := hr.cell (i := k * 2 + 1) (by omega)
      have x0' : w.cell? ⟨S, k * 2, none⟩ = some (.int .u64 (F k)) := by rw [x0]; simp [spanTo, hlt]
      have x1' : w.cell? ⟨S, k * 2 + 1, none⟩ = some (.int .u64 (L k)) := by rw [x1]; simp [spanTo, hlt, show (k * 2 + 1) / 2 = k by omega]
      clear x0 x1
      have f0 := (uF k hlt).1
      have f1 := (uF k hlt).2
      have f2 := (uL k hlt).1
      have f3 := (uL k hlt).2
      by_cases ht : F k - 1 ≤ runTo c L k
      · have hin' : ∀ j, j < k + 1 → F j - 1 ≤ runTo c L j := by
          intro j hj
          by_cases e : j = k
          · subst e; exact ht
          · exact hin j (by omega)
        go_wp2
        go_roundw
        case rel => exact ⟨k + 1, by omega, by go_num, rfl, hin', trivial⟩
        case measure => simp [intOf]; omega
      · by_cases hk0 : k = 0
        · subst hk0
          have hfin : ∀ q, Absorbed M1 M2 S r c n F L w (w.drewN q) := fun q =>
            ⟨0, Nat.zero_le _, hin, fun _ => ht, m1.of_block rfl, m2.of_block rfl, fun i hi => ⟨S, 0, rfl, hr.lt, by
                have := hr.cell (i := i * 2) (by omega)
                show w.cell? ⟨S, 0 + i * 2, none⟩ = _
                rw [Nat.zero_add, this]; simp [spanTo, show i < n by omega], by
                have := hr.cell (i := i * 2 + 1) (by omega)
                show w.cell? ⟨S, 0 + i * 2 + 1, none⟩ = _
                rw [Nat.zero_add, this]; simp [spanTo, show (i * 2 + 1) / 2 = i by omega, show i < n by omega]⟩, ⟨rfl, rfl, rfl, Nat.le_refl _, fun _ _ _ => rfl⟩⟩
          have x0'' : w.cell? ⟨S, 0, none⟩ = some (.int .u64 (F 0)) := by simpa using x0'
          clear m1 m2 hr x0' x1'
          go_wp2
          exact bodyPost_ret (results_none rfl _ _ _) rfl ⟨rfl, hfin _⟩
        · have hz : ((k : Int) == 0) = false := by simp [hk0]
          have hz2 : ((k : Int) == (n : Int)) = false := by simp; omega
          obtain ⟨w1, hrun1, hm1, ho1, hs1⟩ := (m1.of_block (w' := w.drewN nq) rfl).store Try.underlying58 Try.underlying37 (.int .u64 (runTo c L k))
          have ho1' : Only (MMS M1 M2 S) w w1 := ⟨ho1.os, ho1.tape, ho1.output, ho1.size, fun b hb hnb => ho1.block b hb (fun e => hnb (Or.inl e))⟩
          have hs1' : w1.heap.size = w.heap.size := hs1
          have m2' : MapIs w1 M2 r (optS S n n) := m2.of_block (ho1.block M2 m2.lt (fun e => d4 e.symm))
          have hr1 : w1.rowIs S 65 (n * 2) (spanTo F L n) := hr.of_block (ho1.block S hr.lt (fun e => d5 e.symm))
          have hc1' : w1.cell? ⟨C, 1, none⟩ = some (.map (some M2)) := by rw [← h1]; exact ho1.cell (p := ⟨C, 1, none⟩) hC d1
          have hk1 : 0 < k := by omega
          have hrd : w1.drew.rowIs S 65 (n * 2) (spanTo F L n) := hr1
          have hpos : ¬ runTo c L k = 0 := by have := runTo_pos c L n (fun i hi => (uL i hi).1) k hk1 hk; omega
          clear m1 m2 hr hbd uF uL
          go_wp2
          go_region_with (go_at_call 41; refine (delete41 S n k (spanTo F L n) (fun _ => rfl) w1.drew hn hk1 hlt hrd).mono ?_; rintro e w2 ⟨rfl, ho2, hs2, hcell⟩; have hc2 : w2.cell? ⟨C, 1, none⟩ = some (.map (some M2)) := (ho2.cell (p := ⟨C, 1, none⟩) (by show C < w1.heap.size; omega) d3).trans hc1'; obtain ⟨w3, hrun3, hm3, ho3, hs3⟩ := (MapIs.of_block (w' := w2) m2' (ho2.block M2 (by exact m2'.lt) d6)).store Try.underlying59 Try.underlying37 (.slice (some ⟨S, 0, none⟩) (n - k) n))
          all_goals
            go_wp2
            go_end0
            exact ⟨rfl, absorbed_part hlt hin (Int.not_le.2 ht) hpos d4 d5 d6 hr1.lt ho1' hm1 ho2 hs2 hcell ho3 hs3 hm3⟩
    · obtain rfl : k = n := by omega
      have hz : ((k : Int) == 0) = false := by simp; omega
      obtain ⟨w1, hrun1, hm1, ho1, hs1⟩ := (m1.of_block (w' := w.drewN nq) rfl).store Try.underlying58 Try.underlying37 (.int .u64 (runTo c L k))
      have ho1' : Only (MMS M1 M2 S) w w1 := ⟨ho1.os, ho1.tape, ho1.output, ho1.size, fun b hb hnb => ho1.block b hb (fun e => hnb (Or.inl e))⟩
      have m2' : MapIs w1 M2 r (optS S k k) := m2.of_block (ho1.block M2 m2.lt (fun e => d4 e.symm))
      have hc1' : w1.cell? ⟨C, 1, none⟩ = some (.map (some M2)) := by rw [← h1]; exact ho1.cell (p := ⟨C, 1, none⟩) hC d1
      obtain ⟨w2, hrun2, hm2, ho2, hs2⟩ := m2'.drop Try.underlying59 Try.underlying37 37 0
      have hpos : ¬ runTo c L k = 0 := by have := runTo_pos c L k (fun i hi => (uL i hi).1) k hn0 (Nat.le_refl _); omega
      have hfin := absorbed_all hin hpos d4 ho1' hm1 ho2 hm2
      clear m1 m2 hr hbd uF uL hm1 hm2 m2' ho1 ho1' ho2
      go_wp2
      go_end0
      exact ⟨rfl, hfin⟩

theorem absorb40 (C M1 M2 S : Nat) (r c : Int) (n : Nat) (F L : Nat → Int) (w : World) (hn : n ≤ 1048576)
    (h0 : w.cell? ⟨C, 0, none⟩ = some (.map (some M1))) (h1 : w.cell? ⟨C, 1, none⟩ = some (.map (some M2))) (hC : C < w.heap.size)
    (d1 : C ≠ M1) (d3 : C ≠ S) (d4 : M1 ≠ M2) (d5 : M1 ≠ S) (d6 : M2 ≠ S)
    (m1 : MapIs w M1 r (optC c)) (m2 : MapIs w M2 r (optS S n n)) (hr : w.rowIs S 65 (n * 2) (spanTo F L n))
    (uF : ∀ i, i < n → 1 ≤ F i ∧ F i ≤ 18446744073709551615) (uL : ∀ i, i < n → 1 ≤ L i ∧ L i ≤ 18446744073709551615) (hc0 : 0 ≤ c) (hc1 : c ≤ 18446744073709551615) :
    Calls Try.prog 40 #[.pointer (some ⟨C, 0, none⟩), .int .u64 r] w fun e w' => e = .returned (.tuple #[]) ∧ Absorbed M1 M2 S r c n F L w w' := by
  by_cases hn0 : n = 0
  · subst hn0
    exact absorb40_none C M1 M2 S r c F L w h0 h1 m1 m2
  · exact absorb40_some C M1 M2 S r c n F L w hn (by omega) h0 h1 hC d1 d3 d4 d5 d6 m1 m2 hr uF uL hc0 hc1

theorem zzabsorb27 (C M1 M2 S : Nat) (r c : Int) (n : Nat) (F L : Nat → Int) (w : World) (hn : n ≤ 1048576)
    (h0 : w.cell? ⟨C, 0, none⟩ = some (.map (some M1))) (h1 : w.cell? ⟨C, 1, none⟩ = some (.map (some M2))) (hC : C < w.heap.size)
    (d1 : C ≠ M1) (d3 : C ≠ S) (d4 : M1 ≠ M2) (d5 : M1 ≠ S) (d6 : M2 ≠ S)
    (m1 : MapIs w M1 r (optC c)) (m2 : MapIs w M2 r (optS S n n)) (hr : w.rowIs S 65 (n * 2) (spanTo F L n))
    (uF : ∀ i, i < n → 1 ≤ F i ∧ F i ≤ 18446744073709551615) (uL : ∀ i, i < n → 1 ≤ L i ∧ L i ≤ 18446744073709551615) (hc0 : 0 ≤ c) (hc1 : c ≤ 18446744073709551615) :
    Calls Try.prog 27 #[.pointer (some ⟨C, 0, none⟩), .int .u64 r] w fun e w' => e = .returned (.tuple #[]) ∧ Absorbed M1 M2 S r c n F L w w' := by
  go_enter Try.func27, Try.ntmps27
  go_wp2_with fail
  refine (absorb40 C M1 M2 S r c n F L w hn h0 h1 hC d1 d3 d4 d5 d6 m1 m2 hr uF uL hc0 hc1).mono ?_
  rintro e w1 ⟨rfl, ha⟩
  go_wp2_with fail
  go_end0
  exact ⟨rfl, ha⟩

theorem pairs_mono {w w' : World} {a : Option Addr} {n : Nat} {F L : Nat → Int} (h : Pairs w a n F L) (hb : Below w.heap.size w w') : Pairs w' a n F L := by
  intro i hi
  obtain ⟨b, o, e, hlt, x0, x1⟩ := h i hi
  exact ⟨b, o, e, Nat.lt_of_lt_of_le hlt hb.size, by rw [← x0]; exact hb.cell hlt, by rw [← x1]; exact hb.cell hlt⟩

set_option maxHeartbeats 1000000 in
theorem replica28 (C M1 M2 S : Nat) (r c : Int) (n cap : Nat) (F L : Nat → Int) (w : World) (hn : n ≤ 1048576)
    (h0 : w.cell? ⟨C, 0, none⟩ = some (.map (some M1))) (h1 : w.cell? ⟨C, 1, none⟩ = some (.map (some M2)))
    (m1 : MapIs w M1 r (optC c)) (m2 : MapIs w M2 r (optS S n cap)) (hP : Pairs w (some ⟨S, 0, none⟩) n F L) :
    Calls Try.prog 28 #[.pointer (some ⟨C, 0, none⟩), .int .u64 r] w fun e w' => ∃ v v', e = .returned (.tuple #[.int .u64 c, .bool (!(c == 0)), v, v', .bool (!(n == 0))]) ∧ Two w' v v' n F L ∧ Below w.heap.size w w' := by
  have hl1 : (Instr.lookup 58 (.map (some M1)) (.int .u64 r) true).run Try.prog w = .ok (.tuple #[.int .u64 c, .bool (!(c == 0))]) w := by
    rw [m1.look Try.underlying58 Try.underlying37 zero31 true, optC_get]
    by_cases hc : c = 0 <;> simp [optC, hc]
  obtain ⟨a, cp, hP', hl2⟩ : ∃ a cp, Pairs w a n F L ∧ (Instr.lookup 59 (.map (some M2)) (.int .u64 r) true).run Try.prog w = .ok (.tuple #[.slice a n cp, .bool (!(n == 0))]) w := by
    by_cases hn0 : n = 0
    · subst hn0
      refine ⟨none, 0, fun i hi => by omega, ?_⟩
      rw [m2.look Try.underlying59 Try.underlying37 zero53 true]
      simp [optS]
    · refine ⟨_, cap, hP, ?_⟩
      rw [m2.look Try.underlying59 Try.underlying37 zero53 true]
      simp [optS, hn0]
  clear m1 m2 hP
  generalize (!(c == 0)) = bc at *
  generalize (!(n == 0)) = bn at *
  go_enter Try.func28, Try.ntmps28
  go_wp2_with fail
  refine (unspans33 a n cp F L _ hn hP').mono ?_
  rintro e w1 ⟨rfl, hr1, hr2, hb, hs⟩
  go_wp2_with fail
  refine bodyPost_ret (v := .tuple #[.int .u64 c, .bool bc, .slice (some ⟨w.heap.size, 0, none⟩) n n, .slice (some ⟨w.heap.size + 1, 0, none⟩) n n, .bool bn]) (by simp [results, Try.results28, go_sem]) rfl ⟨_, _, rfl, ⟨hn, _, _, _, _, rfl, rfl, ?_, ?_⟩, hb⟩
  · exact row_of_rowIs hr1
  · exact row_of_rowIs hr2
end Go.Proofs.Qxb6600760a
