/-
  The walk of (*Clock).Contains over a clock of one replica.
-/
import Derived.Test.Qxb6600760aSet
import Derived.Deep.RegionWith
import Derived.WalkSmall
namespace Go.Proofs.Qxb6600760a
open Go.RowKit

theorem memB_iff {F L : Nat → Int} {x : Int} {n : Nat} : memB F L x n = true ↔ ∃ i, i < n ∧ F i ≤ x ∧ x ≤ L i := by
  constructor
  · induction n with
    | zero => intro h; simp [memB] at h
    | succ n ih =>
      intro h
      simp only [memB, Bool.or_eq_true, Bool.and_eq_true, decide_eq_true_eq] at h
      rcases h with h | h
      · obtain ⟨i, hi, h1, h2⟩ := ih h
        exact ⟨i, by omega, h1, h2⟩
      · exact ⟨n, by omega, h.1, h.2⟩
  · rintro ⟨i, hi, h1, h2⟩
    exact memB_hit hi h1 h2

theorem sdB_iff {F L : Nat → Int} {n : Nat} : sdB F L n = true ↔ (∀ i, i < n → F i ≤ L i) ∧ (∀ i, i + 1 < n → L i < F (i + 1)) := by
  induction n with
  | zero => simp [sdB]
  | succ n ih =>
    simp only [sdB, Bool.and_eq_true, Bool.or_eq_true, decide_eq_true_eq, beq_iff_eq]
    constructor
    · rintro ⟨⟨h1, h2⟩, h3⟩
      obtain ⟨g1, g2⟩ := ih.1 h1
      refine ⟨fun i hi => ?_, fun i hi => ?_⟩
      · by_cases e : i = n
        · subst e; exact h2
        · exact g1 i (by omega)
      · by_cases e : i + 1 = n
        · subst e
          rcases h3 with h3 | h3
          · omega
          · simpa using h3
        · exact g2 i (by omega)
    · rintro ⟨h1, h2⟩
      refine ⟨⟨ih.2 ⟨fun i hi => h1 i (by omega), fun i hi => h2 i (by omega)⟩, h1 n (by omega)⟩, ?_⟩
      by_cases e : n = 0
      · exact Or.inl e
      · right
        obtain ⟨k, rfl⟩ : ∃ k, n = k + 1 := ⟨n - 1, by omega⟩
        exact h2 k (by omega)

/-- sorted, disjoint: firsts and lasts rise -/
theorem rise {F L : Nat → Int} {n : Nat} (h1 : ∀ i, i < n → F i ≤ L i) (h2 : ∀ i, i + 1 < n → L i < F (i + 1)) (i d : Nat) (h : i + d < n) : L i ≤ L (i + d) ∧ F i ≤ F (i + d) := by
  induction d with
  | zero => exact ⟨by simp, by simp⟩
  | succ d ih =>
    have := ih (by omega)
    have a1 := h1 (i + d) (by omega)
    have a2 := h2 (i + d) (by omega)
    have a3 := h1 (i + d + 1) (by omega)
    exact ⟨by rw [← Nat.add_assoc]; omega, by rw [← Nat.add_assoc]; omega⟩

theorem found_is {F L : Nat → Int} {x : Int} {n i : Nat} (hs : sdB F L n = true) (h1 : ∀ j, j < i → L j < x) (h2 : ∀ j, i ≤ j → j < n → x ≤ L j) : decide (i < n ∧ F i ≤ x) = memB F L x n := by
  obtain ⟨g1, g2⟩ := sdB_iff.1 hs
  rw [Bool.eq_iff_iff, decide_eq_true_eq, memB_iff]
  constructor
  · rintro ⟨hi, hF⟩
    exact ⟨i, hi, hF, h2 i (Nat.le_refl _) hi⟩
  · rintro ⟨k, hk, hF, hL⟩
    have hik : i ≤ k := by
      rcases Nat.lt_or_ge k i with h | h
      · have := h1 k h; omega
      · exact h
    obtain ⟨d, rfl⟩ : ∃ d, k = i + d := ⟨k - i, by omega⟩
    have := (rise g1 g2 i d hk).2
    exact ⟨by omega, by omega⟩

theorem search38' (a : Option Addr) (n c : Nat) (F L : Nat → Int) (x : Int) (w : World) (hn : n ≤ 1048576) (hP : Pairs w a n F L) (hs : sdB F L n = true) :
    Calls Try.prog 38 #[.slice a n c, .int .u64 x, .func (.func 39) #[] #[]] w fun e w' => ∃ i : Nat, e = .returned (.tuple #[.int .i64 i, .bool (memB F L x n)]) ∧ Below w.heap.size w w' := by
  obtain ⟨g1, g2⟩ := sdB_iff.1 hs
  refine (search38 a n c F L x w hn hP (fun i j hij hj => ?_)).mono ?_
  · obtain ⟨d, rfl⟩ : ∃ d, j = i + d := ⟨j - i, by omega⟩
    exact (rise g1 g2 i d hj).1
  · rintro e w' ⟨i, hi, rfl, h1, h2, hb⟩
    exact ⟨i, by rw [found_is hs h1 h2], hb⟩

set_option maxHeartbeats 1000000 in
theorem contains23_core (C M1 M2 : Nat) (qr qc v : Int) (a : Option Addr) (n cp : Nat) (F L : Nat → Int) (w : World) (hn : n ≤ 1048576)
    (h0 : w.cell? ⟨C, 0, none⟩ = some (.map (some M1))) (h1 : w.cell? ⟨C, 1, none⟩ = some (.map (some M2))) (hC : C < w.heap.size)
    (hl1 : ∀ k, (Instr.lookup 58 (.map (some M1)) (.int .u64 qr) false).run Try.prog ((w.alloc (.cells #[.int .u64 qr, .int .u64 qc] 39)).drewN k) = .ok (.int .u64 v) ((w.alloc (.cells #[.int .u64 qr, .int .u64 qc] 39)).drewN k))
    (hl2 : ∀ k, (Instr.lookup 59 (.map (some M2)) (.int .u64 qr) false).run Try.prog ((w.alloc (.cells #[.int .u64 qr, .int .u64 qc] 39)).drewN k) = .ok (.slice a n cp) ((w.alloc (.cells #[.int .u64 qr, .int .u64 qc] 39)).drewN k))
    (hP : Pairs w a n F L) (hs : sdB F L n = true) (hq : ¬ qc = 0) (hv : ¬ qc ≤ v) :
    Calls Try.prog 23 #[.pointer (some ⟨C, 0, none⟩), .agg #[.int .u64 qr, .int .u64 qc]] w fun e w' => e = .returned (.bool (memB F L qc n)) ∧ Below w.heap.size w w' := by
  have hq0 : (qc == 0) = false := by simpa using hq
  have c0 : (w.alloc (.cells #[.int .u64 qr, .int .u64 qc] 39)).cell? ⟨C, 0, none⟩ = some (.map (some M1)) := by rw [← h0]; exact World.cell?_of_block (w := w) (Below.heap_alloc w _ _ hC)
  have c1 : (w.alloc (.cells #[.int .u64 qr, .int .u64 qc] 39)).cell? ⟨C, 1, none⟩ = some (.map (some M2)) := by rw [← h1]; exact World.cell?_of_block (w := w) (Below.heap_alloc w _ _ hC)
  go_enter Try.func23, Try.ntmps23
  go_wp2
  go_quiet (fail)
  go_wp2
  have hP1 : Pairs ((w.alloc (.cells #[.int .u64 qr, .int .u64 qc] 39)).drewN (nq + 1)) a n F L := by
    intro i hi
    obtain ⟨b, o, e, hb, x0, x1⟩ := hP i hi
    refine ⟨b, o, e, by simp; omega, ?_, ?_⟩
    · rw [← x0]; exact World.cell?_of_block (w := w) (Below.heap_alloc w _ _ hb)
    · rw [← x1]; exact World.cell?_of_block (w := w) (Below.heap_alloc w _ _ hb)
  go_region_with (go_at_call 38; refine (search38' a n cp F L qc _ hn hP1 hs).mono ?_; rintro e w2 ⟨i, rfl, hb⟩)
  all_goals
    go_wp2
    go_ret
    refine ⟨rfl, ?_⟩
    refine Below.trans ?_ (hb.mono ?_)
    · exact below_drewN ((Below.refl _ _).alloc (Nat.le_refl _) _) _
    · simp

theorem contains23_zero (C : Nat) (qr : Int) (w : World) :
    Calls Try.prog 23 #[.pointer (some ⟨C, 0, none⟩), .agg #[.int .u64 qr, .int .u64 0]] w fun e w' => e = .returned (.bool false) ∧ Below w.heap.size w w' := by
  go_enter Try.func23, Try.ntmps23
  go_wp2
  go_ret
  exact ⟨rfl, (Below.refl _ _).alloc (Nat.le_refl _) _⟩

theorem contains23_run (C M1 : Nat) (qr qc v : Int) (w : World)
    (h0 : w.cell? ⟨C, 0, none⟩ = some (.map (some M1))) (hC : C < w.heap.size)
    (hl1 : ∀ k, (Instr.lookup 58 (.map (some M1)) (.int .u64 qr) false).run Try.prog ((w.alloc (.cells #[.int .u64 qr, .int .u64 qc] 39)).drewN k) = .ok (.int .u64 v) ((w.alloc (.cells #[.int .u64 qr, .int .u64 qc] 39)).drewN k))
    (hq : ¬ qc = 0) (hv : qc ≤ v) :
    Calls Try.prog 23 #[.pointer (some ⟨C, 0, none⟩), .agg #[.int .u64 qr, .int .u64 qc]] w fun e w' => e = .returned (.bool true) ∧ Below w.heap.size w w' := by
  have hq0 : (qc == 0) = false := by simpa using hq
  have c0 : (w.alloc (.cells #[.int .u64 qr, .int .u64 qc] 39)).cell? ⟨C, 0, none⟩ = some (.map (some M1)) := by rw [← h0]; exact World.cell?_of_block (w := w) (Below.heap_alloc w _ _ hC)
  go_enter Try.func23, Try.ntmps23
  go_wp2
  go_quiet (fail)
  go_wp2
  go_ret
  exact ⟨rfl, below_drewN ((Below.refl _ _).alloc (Nat.le_refl _) _) _⟩

/-- what Contains answers of a clock of one replica -/
def hasB (r c : Int) (F L : Nat → Int) (n : Nat) (qr qc : Int) : Bool := decide (qc ≠ 0 ∧ qr = r ∧ (qc ≤ c ∨ memB F L qc n = true))

theorem contains23 (C M1 M2 S : Nat) (r c qr qc : Int) (n : Nat) (F L : Nat → Int) (w : World) (hn : n ≤ 1048576) (hq0 : 0 ≤ qc)
    (h0 : w.cell? ⟨C, 0, none⟩ = some (.map (some M1))) (h1 : w.cell? ⟨C, 1, none⟩ = some (.map (some M2))) (hC : C < w.heap.size)
    (m1 : MapIs w M1 r (if c = 0 then none else some (.int .u64 c))) (m2 : MapIs w M2 r (if n = 0 then none else some (.slice (some ⟨S, 0, none⟩) n n)))
    (hr : w.rowIs S 65 (n * 2) (spanTo F L n)) (hs : sdB F L n = true) :
    Calls Try.prog 23 #[.pointer (some ⟨C, 0, none⟩), .agg #[.int .u64 qr, .int .u64 qc]] w fun e w' => e = .returned (.bool (hasB r c F L n qr qc)) ∧ Below w.heap.size w w' := by
  by_cases hq : qc = 0
  · subst hq
    have : hasB r c F L n qr 0 = false := by simp [hasB]
    rw [this]
    exact contains23_zero C qr w
  have up : ∀ {M : Nat} {o : Option Value} (k : Nat), MapIs w M r o → MapIs ((w.alloc (.cells #[.int .u64 qr, .int .u64 qc] 39)).drewN k) M r o := fun k h => h.of_block (Below.heap_alloc w _ _ h.lt)
  by_cases hqr : qr = r
  · subst hqr
    have hl1 : ∀ k, (Instr.lookup 58 (.map (some M1)) (.int .u64 qr) false).run Try.prog ((w.alloc (.cells #[.int .u64 qr, .int .u64 qc] 39)).drewN k) = .ok (.int .u64 c) ((w.alloc (.cells #[.int .u64 qr, .int .u64 qc] 39)).drewN k) := by
      intro k
      rw [(up k m1).look Try.underlying58 Try.underlying37 zero31 false]
      by_cases hc : c = 0 <;> simp [hc]
    by_cases hv : qc ≤ c
    · have : hasB qr c F L n qr qc = true := by simp [hasB, hq, hv]
      rw [this]
      exact contains23_run C M1 qr qc c w h0 hC hl1 hq hv
    · have : hasB qr c F L n qr qc = memB F L qc n := by simp [hasB, hq, hv]
      rw [this]
      by_cases hn0 : n = 0
      · subst hn0
        refine contains23_core C M1 M2 qr qc c none 0 0 F L w (by omega) h0 h1 hC hl1 (fun k => ?_) (fun i hi => by omega) hs hq hv
        rw [(up k m2).look Try.underlying59 Try.underlying37 zero53 false]
        simp
      · refine contains23_core C M1 M2 qr qc c (some ⟨S, 0, none⟩) n n F L w hn h0 h1 hC hl1 (fun k => ?_) (fun i hi => ⟨S, 0, rfl, hr.lt, ?_, ?_⟩) hs hq hv
        · rw [(up k m2).look Try.underlying59 Try.underlying37 zero53 false]
          simp [hn0]
        · have := hr.cell (i := i * 2) (by omega)
          simpa [spanTo, hi] using this
        · have := hr.cell (i := i * 2 + 1) (by omega)
          rw [Nat.zero_add, this]
          simp [spanTo, hi, show (i * 2 + 1) / 2 = i by omega]
  · have hl1 : ∀ k, (Instr.lookup 58 (.map (some M1)) (.int .u64 qr) false).run Try.prog ((w.alloc (.cells #[.int .u64 qr, .int .u64 qc] 39)).drewN k) = .ok (.int .u64 0) ((w.alloc (.cells #[.int .u64 qr, .int .u64 qc] 39)).drewN k) := by
      intro k
      rw [(up k m1).miss Try.underlying58 Try.underlying37 zero31 false hqr]
      simp
    have : hasB r c F L n qr qc = memB F L qc 0 := by simp [hasB, hqr, memB]
    rw [this]
    refine contains23_core C M1 M2 qr qc 0 none 0 0 F L w (by omega) h0 h1 hC hl1 (fun k => ?_) (fun i hi => by omega) rfl hq (by omega)
    rw [(up k m2).miss Try.underlying59 Try.underlying37 zero53 false hqr]
    simp
end Go.Proofs.Qxb6600760a
