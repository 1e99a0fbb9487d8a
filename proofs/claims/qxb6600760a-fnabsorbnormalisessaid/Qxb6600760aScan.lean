/-
  The walk of FnContainsMatchesScan.
-/
import Derived.Test.Qxb6600760aContains
namespace Go.Proofs.Qxb6600760a
open Go.RowKit

/-- the numbers of a made row, as a Row -/
theorem row_of_rowIs {w : World} {B n : Nat} {F : Nat → Int} (h : w.rowIs B 31 n (upTo F n)) : Row w (some ⟨B, 0, none⟩) n F := fun i hi => ⟨B, 0, rfl, h.lt, by
  have := h.cell hi
  rw [Nat.zero_add, this]
  simp [upTo, hi]⟩

theorem clock21' (r : Int) (w : World) :
    Calls Try.prog 21 #[] w fun e w' => ∃ C M1 M2, e = .returned (.pointer (some ⟨C, 0, none⟩)) ∧ w'.cell? ⟨C, 0, none⟩ = some (.map (some M1)) ∧ w'.cell? ⟨C, 1, none⟩ = some (.map (some M2)) ∧
      w.heap.size ≤ M1 ∧ M1 < M2 ∧ M2 < C ∧ C < w'.heap.size ∧ MapIs w' M1 r none ∧ MapIs w' M2 r none ∧ Below w.heap.size w w' := by
  refine (clock21 w).mono ?_
  rintro e w' ⟨rfl, rfl⟩
  refine ⟨_, _, _, rfl, ?_, ?_, Nat.le_refl _, Nat.lt_succ_self _, Nat.lt_succ_self _, by simp, ⟨0, 0, ?_⟩, ⟨0, 0, ?_⟩, ?_⟩
  · have h := (MapKept.heap_alloc ((w.alloc (.map #[] 0)).alloc (.map #[] 0)) (.cells #[.map (some w.heap.size), .map (some (w.heap.size + 1))] 61)).1
    rw [show ((w.alloc (.map #[] 0)).alloc (.map #[] 0)).heap.size = w.heap.size + 2 by simp] at h
    simp only [World.cell?, h]; rfl
  · have h := (MapKept.heap_alloc ((w.alloc (.map #[] 0)).alloc (.map #[] 0)) (.cells #[.map (some w.heap.size), .map (some (w.heap.size + 1))] 61)).1
    rw [show ((w.alloc (.map #[] 0)).alloc (.map #[] 0)).heap.size = w.heap.size + 2 by simp] at h
    simp only [World.cell?, h]; rfl
  · rw [Below.heap_alloc _ _ _ (by simp; omega), Below.heap_alloc _ _ _ (by simp)]
    exact (MapKept.heap_alloc w _).1
  · rw [Below.heap_alloc _ _ _ (by simp)]
    have := (MapKept.heap_alloc (w.alloc (.map #[] 0)) (.map #[] 0)).1
    rw [show (w.alloc (.map #[] 0)).heap.size = w.heap.size + 1 by simp] at this
    exact this
  · exact (((Below.refl _ _).alloc (Nat.le_refl _) _).alloc (by simp) _).alloc (by simp; omega) _

theorem split12' (a : Option Addr) (n c : Nat) (F L : Nat → Int) (w : World) (hn : n ≤ 1048576) (hP : Pairs w a n F L) :
    Calls Try.prog 12 #[.slice a n c] w fun e w' => ∃ B1 B2, e = .returned (.tuple #[.slice (some ⟨B1, 0, none⟩) n n, .slice (some ⟨B2, 0, none⟩) n n]) ∧
      w.heap.size ≤ B1 ∧ w.heap.size ≤ B2 ∧ B1 < w'.heap.size ∧ B2 < w'.heap.size ∧ Row w' (some ⟨B1, 0, none⟩) n F ∧ Row w' (some ⟨B2, 0, none⟩) n L ∧ Below w.heap.size w w' := by
  refine (split12 a n c F L w hn hP).mono ?_
  rintro e w' ⟨rfl, h1, h2, hb, _⟩
  exact ⟨_, _, rfl, Nat.le_refl _, Nat.le_succ _, h1.lt, h2.lt, row_of_rowIs h1, row_of_rowIs h2, hb⟩

set_option maxHeartbeats 2000000 in
theorem law6 (rep contig : Int) (a : Option Addr) (n cap : Nat) (F L : Nat → Int) (qr qc : Int) (w : World) (hlen : n ≤ maxLen) (hq0 : 0 ≤ qc) (hP : Pairs w a n F L) :
    Calls Try.prog 6 #[.int .u64 rep, .int .u64 contig, .slice a n cap, .int .u64 qr, .int .u64 qc] w fun e w' => e = .returned (.bool true) ∧ Below w.heap.size w w' := by
  by_cases hn1' : 1048576 < n
  · go_enter Try.func6, Try.ntmps6
    have hd : decide (n ≤ 1048576) = false := by simpa using hn1'
    go_wp2_with (go_at_call 19; refine (bytes19 _ _ _ _ _ _ _ _ hlen).mono ?_; rintro e w ⟨rfl, rfl⟩)
    go_ret
    exact ⟨rfl, Below.refl _ _⟩
  have hn1 : n ≤ 1048576 := by omega
  clear hn1'
  by_cases hn2' : 32768 < n
  · go_enter Try.func6, Try.ntmps6
    have hd : decide (n ≤ 1048576) = true := by simpa using hn1
    go_wp2_with (go_at_call 19; refine (bytes19 _ _ _ _ _ _ _ _ hlen).mono ?_; rintro e w ⟨rfl, rfl⟩)
    go_ret
    exact ⟨rfl, Below.refl _ _⟩
  have hn2 : n ≤ 32768 := by omega
  clear hn2'
  have hd : decide (n ≤ 1048576) = true := by simpa using hn1
  go_enter Try.func6, Try.ntmps6
  go_wp2_with (go_at_call 19; refine (bytes19 _ _ _ _ _ _ _ _ hlen).mono ?_; rintro e w ⟨rfl, rfl⟩)
  refine (split12' a n cap F L w hn1 hP).mono ?_
  rintro e w1 ⟨B1, B2, rfl, b1, b2, c1, c2, hr1, hr2, hb1⟩
  go_wp2_with fail
  refine (sorted20 _ _ n n n F L w1 hn1 hr1 hr2).mono ?_
  rintro e w2 ⟨rfl, j, rfl⟩
  cases hsd : sdB F L n
  · go_wp2_with fail
    go_ret
    exact ⟨rfl, below_drewN hb1 _⟩
  go_wp2_with fail
  refine (clock21' rep _).mono ?_
  rintro e w3 ⟨C, M1, M2, rfl, x0, x1, l1, l2, l3, l4, m1, m2, hb3⟩
  have hb3' : Below w1.heap.size w1 w3 := ⟨hb3.os, hb3.tape, hb3.output, hb3.size, hb3.block⟩
  have l1' : w1.heap.size ≤ M1 := l1
  have r1 : Row w3 (some ⟨B1, 0, none⟩) n F := hr1.mono hb3'.size (fun b o e hb => hb3'.block b hb)
  have r2 : Row w3 (some ⟨B2, 0, none⟩) n L := hr2.mono hb3'.size (fun b o e hb => hb3'.block b hb)
  clear hb3 l1
  go_wp2_with fail
  refine (set22 C M1 M2 rep contig (some ⟨B1, 0, none⟩) (some ⟨B2, 0, none⟩) n n n F L w3 hn1 x0 x1 l4 (by omega) (by omega) (by omega) m1 m2 r1 r2 (by intro b o e; simp at e; omega) (by intro b o e; simp at e; omega)).mono ?_
  rintro e w4 ⟨rfl, k1, k2, S, s1, s2, hrS, k3⟩
  have x0' : w4.cell? ⟨C, 0, none⟩ = some (.map (some M1)) := by rw [← x0]; exact k2.cell l4 (by unfold MM; show ¬ (C = M1 ∨ C = M2); omega)
  have x1' : w4.cell? ⟨C, 1, none⟩ = some (.map (some M2)) := by rw [← x1]; exact k2.cell l4 (by unfold MM; show ¬ (C = M1 ∨ C = M2); omega)
  have r1' : Row w4 (some ⟨B1, 0, none⟩) n F := r1.mono k2.size (fun b o e hb => k2.block b hb (by simp at e; unfold MM; omega))
  have r2' : Row w4 (some ⟨B2, 0, none⟩) n L := r2.mono k2.size (fun b o e hb => k2.block b hb (by simp at e; unfold MM; omega))
  have hC4 : C < w4.heap.size := Nat.lt_of_lt_of_le l4 k2.size
  have hb4 : Below w.heap.size w w4 := (hb1.trans (hb3'.mono hb1.size)).trans (k2.below (by have := hb1.size; have := hb3'.size; omega) (fun k hk => by have := hb1.size; unfold MM; omega))
  go_wp2_with fail
  refine (contains23 C M1 M2 S rep contig qr qc n F L w4 hn1 hq0 x0' x1' hC4 k1 k3 hrS hsd).mono ?_
  rintro e w5 ⟨rfl, hb5⟩
  have r1'' : Row w5 (some ⟨B1, 0, none⟩) n F := r1'.mono hb5.size (fun b o e hb => hb5.block b hb)
  have r2'' : Row w5 (some ⟨B2, 0, none⟩) n L := r2'.mono hb5.size (fun b o e hb => hb5.block b hb)
  have hbE : Below w.heap.size w w5 := hb4.trans (hb5.mono hb4.size)
  clear hb1 hr1 hr2 r1 r2 r1' r2' hrS k1 k2 k3 m1 m2 x0 x1 x0' x1' hb3' hb4 hb5 hP
  by_cases hq : qc = 0
  · have e1 : hasB rep contig F L n qr qc = false := by simp [hasB, hq]
    have e2 : (qc != 0) = false := by simp [hq]
    go_wp2_with fail
    go_ret
    exact ⟨rfl, hbE⟩
  have e2 : (qc != 0) = true := by simp [hq]
  by_cases hr : qr = rep
  · have e3 : (qr == rep) = true := by simp [hr]
    by_cases hc : qc ≤ contig
    · have e1 : hasB rep contig F L n qr qc = true := by simp [hasB, hq, hr, hc]
      clear hr
      go_wp2_with fail
      go_ret
      exact ⟨rfl, hbE⟩
    · have e1 : hasB rep contig F L n qr qc = memB F L qc n := by simp [hasB, hq, hr, hc]
      clear hr
      go_wp2_with (go_at_call 24; refine (memberOf24 _ _ n n n F L qc _ hn1 r1'' r2'').mono ?_; rintro e w5 ⟨rfl, rfl⟩)
      go_ret
      exact ⟨by simp; omega, hbE⟩
  · have e1 : hasB rep contig F L n qr qc = false := by simp [hasB, hr]
    have e3 : (qr == rep) = false := by simp [hr]
    go_wp2_with fail
    go_ret
    exact ⟨rfl, hbE⟩
end Go.Proofs.Qxb6600760a
