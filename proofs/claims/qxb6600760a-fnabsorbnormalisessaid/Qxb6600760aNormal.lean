/-
  The walk of FnAbsorbNormalises, and its plain law.
-/
import Derived.Test.Qxb6600760aAbsorb
namespace Go.Proofs.Qxb6600760a
open Go.RowKit

theorem canB_iff {F L : Nat → Int} {n : Nat} : canB F L n = true ↔ (∀ i, i < n → F i ≠ 0 ∧ F i ≤ L i) ∧ (∀ i, i + 1 < n → L i < F (i + 1) - 1) := by
  induction n with
  | zero => simp [canB]
  | succ n ih =>
    simp only [canB, Bool.and_eq_true, Bool.or_eq_true, decide_eq_true_eq, beq_iff_eq]
    constructor
    · rintro ⟨⟨⟨h1, h0⟩, h2⟩, h3⟩
      obtain ⟨g1, g2⟩ := ih.1 h1
      refine ⟨fun i hi => ?_, fun i hi => ?_⟩
      · by_cases e : i = n
        · subst e; exact ⟨h0, h2⟩
        · exact g1 i (by omega)
      · by_cases e : i + 1 = n
        · subst e
          rcases h3 with h3 | h3
          · omega
          · simpa using h3
        · exact g2 i (by omega)
    · rintro ⟨h1, h2⟩
      refine ⟨⟨⟨ih.2 ⟨fun i hi => h1 i (by omega), fun i hi => h2 i (by omega)⟩, (h1 n (by omega)).1⟩, (h1 n (by omega)).2⟩, ?_⟩
      by_cases e : n = 0
      · exact Or.inl e
      · right
        obtain ⟨k, rfl⟩ : ∃ k, n = k + 1 := ⟨n - 1, by omega⟩
        exact h2 k (by omega)

theorem canB_tail {F L : Nat → Int} {n k : Nat} (hk : k ≤ n) (h : canB F L n = true) : canB (fun i => F (k + i)) (fun i => L (k + i)) (n - k) = true := by
  obtain ⟨h1, h2⟩ := canB_iff.1 h
  exact canB_iff.2 ⟨fun i hi => h1 (k + i) (by omega), fun i hi => h2 (k + i) (by omega)⟩

theorem memB_run {c x : Int} (_hc : 0 ≤ c) : memB (fun _ => 1) (fun _ => c) x (runN c) = true ↔ 1 ≤ x ∧ x ≤ c := by
  rw [memB_iff]
  unfold runN
  constructor
  · rintro ⟨i, hi, h1, h2⟩
    exact ⟨h1, h2⟩
  · rintro ⟨h1, h2⟩
    exact ⟨0, by rw [if_neg (by omega)]; omega, h1, h2⟩

/-- the run has taken in what the spans held -/
theorem run_takes {c : Int} {F L : Nat → Int} {n : Nat} (h1 : ∀ i, i < n → 1 ≤ F i) (x : Int) : ∀ k, k ≤ n → (∀ j, j < k → F j - 1 ≤ runTo c L j) → ((1 ≤ x ∧ x ≤ runTo c L k) ↔ ((1 ≤ x ∧ x ≤ c) ∨ ∃ i, i < k ∧ F i ≤ x ∧ x ≤ L i))
  | 0, _, _ => by simp [runTo]
  | k + 1, hk, hin => by
    have ih := run_takes h1 x k (by omega) (fun j hj => hin j (by omega))
    have a1 := h1 k (by omega)
    have a2 := hin k (by omega)
    have split : (∃ i, i < k + 1 ∧ F i ≤ x ∧ x ≤ L i) ↔ ((∃ i, i < k ∧ F i ≤ x ∧ x ≤ L i) ∨ (F k ≤ x ∧ x ≤ L k)) := by
      constructor
      · rintro ⟨i, hi, h⟩
        by_cases e : i = k
        · subst e; exact Or.inr h
        · exact Or.inl ⟨i, by omega, h⟩
      · rintro (⟨i, hi, h⟩ | h)
        · exact ⟨i, by omega, h⟩
        · exact ⟨k, by omega, h⟩
    rw [split, ← or_assoc, ← ih]
    simp only [runTo]
    split <;> omega

theorem agree_absorbed {c : Int} {F L : Nat → Int} {n k : Nat} (hc : 0 ≤ c) (hr : 0 ≤ runTo c L k) (h1 : ∀ i, i < n → 1 ≤ F i) (hk : k ≤ n) (hin : ∀ j, j < k → F j - 1 ≤ runTo c L j) :
    Agree (runN (runTo c L k)) (n - k) (runN c) n (fun _ => 1) (fun _ => runTo c L k) (fun i => F (k + i)) (fun i => L (k + i)) (fun _ => 1) (fun _ => c) F L := by
  intro x
  rw [Bool.eq_iff_iff, Bool.or_eq_true, Bool.or_eq_true, memB_run hr, memB_run hc, run_takes h1 x k hk hin, memB_iff, memB_iff]
  constructor
  · rintro ((h | ⟨i, hi, h⟩) | ⟨i, hi, h⟩)
    · exact Or.inl h
    · exact Or.inr ⟨i, by omega, h⟩
    · exact Or.inr ⟨k + i, by omega, h⟩
  · rintro (h | ⟨i, hi, h⟩)
    · exact Or.inl (Or.inl h)
    · by_cases e : i < k
      · exact Or.inl (Or.inr ⟨i, e, h⟩)
      · refine Or.inr ⟨i - k, by omega, ?_⟩
        rw [show k + (i - k) = i by omega]
        exact h

theorem two_mono {w w' : World} {v v' : Value} {n : Nat} {F L : Nat → Int} (h : Two w v v' n F L) (hb : Below w.heap.size w w') : Two w' v v' n F L := by
  obtain ⟨h1, a, c, a', c', e, e', r, r'⟩ := h
  exact ⟨h1, a, c, a', c', e, e', r.mono hb.size (fun b o _ hl => hb.block b hl), r'.mono hb.size (fun b o _ hl => hb.block b hl)⟩

theorem posB (c : Int) (h : 0 ≤ c) : (!(c == 0)) = decide (0 < c) := by
  rw [Bool.eq_iff_iff]; simp; omega
theorem posN (m : Nat) : (!(m == 0)) = decide (0 < (m : Int)) := by
  rw [Bool.eq_iff_iff]; simp; omega

set_option maxHeartbeats 1000000 in
theorem law8 (rep contig : Int) (a : Option Addr) (n cap : Nat) (F L : Nat → Int) (w : World) (hlen : n ≤ maxLen) (hc0 : 0 ≤ contig) (hc1 : contig ≤ 18446744073709551615) (hP : Pairs w a n F L)
    (uF : ∀ i, i < n → 0 ≤ F i ∧ F i ≤ 18446744073709551615) (uL : ∀ i, i < n → 0 ≤ L i ∧ L i ≤ 18446744073709551615) :
    Calls Try.prog 8 #[.int .u64 rep, .int .u64 contig, .slice a n cap] w fun e w' => e = .returned (.bool true) ∧ Below w.heap.size w w' := by
  by_cases hn1' : 1048576 < n
  · go_enter Try.func8, Try.ntmps8
    have hd : decide (n ≤ 1048576) = false := by simpa using hn1'
    go_wp2_with (go_at_call 26; refine (bytes26 _ _ _ _ _ _ hlen).mono ?_; rintro e w ⟨rfl, rfl⟩)
    go_ret
    exact ⟨rfl, Below.refl _ _⟩
  have hn1 : n ≤ 1048576 := by omega
  clear hn1'
  have hd : decide (n ≤ 1048576) = true := by simpa using hn1
  by_cases hn2' : 4096 < n
  · go_enter Try.func8, Try.ntmps8
    go_wp2_with (go_at_call 26; refine (bytes26 _ _ _ _ _ _ hlen).mono ?_; rintro e w ⟨rfl, rfl⟩)
    go_ret
    exact ⟨rfl, Below.refl _ _⟩
  have hn2 : n ≤ 4096 := by omega
  clear hn2'
  go_enter Try.func8, Try.ntmps8
  go_wp2_with (go_at_call 26; refine (bytes26 _ _ _ _ _ _ hlen).mono ?_; rintro e w ⟨rfl, rfl⟩)
  refine (split12' a n cap F L w hn1 hP).mono ?_
  rintro e w1 ⟨B1, B2, rfl, b1, b2, c1, c2, hr1, hr2, hb1⟩
  go_wp2_with fail
  refine (canon13 _ _ n n n F L w1 hn1 hr1 hr2 uF).mono ?_
  rintro e w2 ⟨rfl, j, rfl⟩
  cases hcn : canB F L n
  · go_wp2_with fail
    go_ret
    exact ⟨rfl, below_drewN hb1 _⟩
  go_wp2_with fail
  refine (clock21' rep _).mono ?_
  rintro e w3 ⟨C, M1, M2, rfl, x0, x1, l1, l2, l3, l4, m1, m2, hb3⟩
  have hb3' : Below w1.heap.size w1 w3 := ⟨hb3.os, hb3.tape, hb3.output, hb3.size, hb3.block⟩
  have l1' : w1.heap.size ≤ M1 := l1
  have r1 : Row w3 (some ⟨B1, 0, none⟩) n F := hr1.mono hb3'.size (fun b o e hb => hb3'.block b hb)
  have r2 : Row w3 (some ⟨B2, 0, none⟩) n L := hr2.mono hb3'.size (fun b o e hb => hb3'.block b hb)
  clear hb3 l1
  go_wp2_with fail
  refine (set22 C M1 M2 rep contig (some ⟨B1, 0, none⟩) (some ⟨B2, 0, none⟩) n n n F L w3 hn1 x0 x1 l4 (by omega) (by omega) (by omega) m1 m2 r1 r2 (by intro b o e; simp at e; omega) (by intro b o e; simp at e; omega)).mono ?_
  rintro e w4 ⟨rfl, k1, k2, S, s1, s2, hrS, k3⟩
  have x0' : w4.cell? ⟨C, 0, none⟩ = some (.map (some M1)) := by rw [← x0]; exact k2.cell l4 (by unfold MM; show ¬ (C = M1 ∨ C = M2); omega)
  have x1' : w4.cell? ⟨C, 1, none⟩ = some (.map (some M2)) := by rw [← x1]; exact k2.cell l4 (by unfold MM; show ¬ (C = M1 ∨ C = M2); omega)
  have r1' : Row w4 (some ⟨B1, 0, none⟩) n F := r1.mono k2.size (fun b o e hb => k2.block b hb (by simp at e; unfold MM; omega))
  have r2' : Row w4 (some ⟨B2, 0, none⟩) n L := r2.mono k2.size (fun b o e hb => k2.block b hb (by simp at e; unfold MM; omega))
  have hC4 : C < w4.heap.size := Nat.lt_of_lt_of_le l4 k2.size
  have hb4 : Below w.heap.size w w4 := (hb1.trans (hb3'.mono hb1.size)).trans (k2.below (by have := hb1.size; have := hb3'.size; omega) (fun k hk => by have := hb1.size; unfold MM; omega))
  obtain ⟨cn1, cn2⟩ := canB_iff.1 hcn
  have uF1 : ∀ i, i < n → 1 ≤ F i ∧ F i ≤ 18446744073709551615 := fun i hi => ⟨by have := cn1 i hi; have := uF i hi; omega, (uF i hi).2⟩
  have uL1 : ∀ i, i < n → 1 ≤ L i ∧ L i ≤ 18446744073709551615 := fun i hi => ⟨by have := cn1 i hi; have := uF1 i hi; omega, (uL i hi).2⟩
  clear hr1 hr2 r1 r2 x0 x1 m1 m2 hb3' hb1
  go_wp2_with fail
  refine (zzabsorb27 C M1 M2 S rep contig n F L w4 hn1 x0' x1' hC4 (by omega) (by omega) (by omega) (by omega) (by omega) k1 k3 hrS uF1 uL1 hc0 hc1).mono ?_
  rintro e w5 ⟨rfl, k, hk, hin, hout, p1, p2, p3, p4⟩
  have y0 : w5.cell? ⟨C, 0, none⟩ = some (.map (some M1)) := by rw [← x0']; exact p4.cell (p := ⟨C, 0, none⟩) hC4 (by unfold MMS; show ¬ (C = M1 ∨ C = M2 ∨ C = S); omega)
  have y1 : w5.cell? ⟨C, 1, none⟩ = some (.map (some M2)) := by rw [← x1']; exact p4.cell (p := ⟨C, 1, none⟩) hC4 (by unfold MMS; show ¬ (C = M1 ∨ C = M2 ∨ C = S); omega)
  have t1 : Row w5 (some ⟨B1, 0, none⟩) n F := r1'.mono p4.size (fun b o e hb => p4.block b hb (by simp at e; unfold MMS; omega))
  have t2 : Row w5 (some ⟨B2, 0, none⟩) n L := r2'.mono p4.size (fun b o e hb => p4.block b hb (by simp at e; unfold MMS; omega))
  have hD : Two w5 (.slice (some ⟨B1, 0, none⟩) n n) (.slice (some ⟨B2, 0, none⟩) n n) n F L := ⟨hn1, _, _, _, _, rfl, rfl, t1, t2⟩
  have hb5 : Below w.heap.size w w5 := hb4.trans (p4.below hb4.size (fun b hb => by unfold MMS; have := k2.size; omega))
  have hbd := runTo_bd contig L n hc0 hc1 uL k hk
  have hag := agree_absorbed hc0 hbd.1 (fun i hi => (uF1 i hi).1) hk hin
  have hct := canB_tail hk hcn
  have uG : ∀ i, i < n - k → 1 ≤ F (k + i) ∧ F (k + i) ≤ 18446744073709551615 := fun i hi => uF1 (k + i) (by omega)
  have uH : ∀ i, i < n - k → 0 ≤ L (k + i) ∧ L (k + i) ≤ 18446744073709551615 := fun i hi => uL (k + i) (by omega)
  have hm1 : n - k ≤ 1048576 := by omega
  have hout' : 0 < n - k → ¬ F (k + 0) - 1 ≤ runTo contig L k := fun h => hout (by omega)
  clear p4 t1 t2 hin hout r1' r2' x0' x1' hrS k1 k2 k3 hb4 uF uF1 uL1 cn1 cn2 hcn
  generalize hG : (fun i => F (k + i)) = G at *
  generalize hH : (fun i => L (k + i)) = H at *
  have uG' : ∀ i, i < n - k → 1 ≤ G i ∧ G i ≤ 18446744073709551615 := by rw [← hG]; exact uG
  have uH' : ∀ i, i < n - k → 0 ≤ H i ∧ H i ≤ 18446744073709551615 := by rw [← hH]; exact uH
  have hout'' : 0 < n - k → ¬ G 0 - 1 ≤ runTo contig L k := by rw [← hG]; exact hout'
  clear hG hH uG uH hout'
  generalize runTo contig L k = nc at *
  generalize n - k = m at *
  obtain ⟨nc0, nc1⟩ := hbd
  go_wp2_with fail
  refine (replica28 C M1 M2 S rep nc m n G H w5 hm1 y0 y1 p1 p2 p3).mono ?_
  rintro e w6 ⟨v, v', rfl, hN, hb6⟩
  have hD6 := two_mono hD hb6
  have hb6' : Below w.heap.size w w6 := hb5.trans (hb6.mono hb5.size)
  clear hb5 hb6 hD p1 p2 p3 y0 y1
  rw [posB nc nc0, posN m]
  obtain ⟨_, an, cn, an', cn', rfl, rfl, rn, rn'⟩ := id hN
  have uG2 : U64 G m := fun i hi => ⟨by have := uG' i hi; omega, (uG' i hi).2⟩
  by_cases hm0 : m = 0
  · have g1 : ¬ (0 : Int) < (m : Int) := by omega
    clear hm0
    go_wp2_with fail
    refine (canon13 an an' m cn cn' G H w6 hm1 rn rn' uG2).mono ?_
    rintro e w7 ⟨rfl, q, rfl⟩
    go_wp2_with fail
    have hb7 : Below w.heap.size w (w6.drewN q) := below_drewN hb6' _
    have hN7 := two_mono hN (below_drewN (Below.refl w6.heap.size w6) q)
    have hD7 := two_mono hD6 (below_drewN (Below.refl w6.heap.size w6) q)
    refine (run29 contig _).mono ?_
    rintro e w8 ⟨o1, o2, rfl, hO, hb8⟩
    have hN8 := two_mono hN7 hb8
    have hD8 := two_mono hD7 hb8
    have hb8' : Below w.heap.size w w8 := hb7.trans (hb8.mono hb7.size)
    clear hb8 hb7 hN7 hD7 hN hD6 hb6' rn rn' uG2
    go_wp2_with fail
    refine (run29 nc _).mono ?_
    rintro e w9 ⟨r1, r2, rfl, hR, hb9⟩
    have hN9 := two_mono hN8 hb9
    have hD9 := two_mono hD8 hb9
    have hO9 := two_mono hO hb9
    have hb9' : Below w.heap.size w w9 := hb8'.trans (hb9.mono hb8'.size)
    clear hb9 hb8' hN8 hD8 hO
    go_wp2_with fail
    refine (same15 r1 r2 _ _ o1 o2 _ _ (runN nc) m (runN contig) n (fun _ => 1) (fun _ => nc) G H (fun _ => 1) (fun _ => contig) F L w9 hR hN9 hO9 hD9 (fun _ _ => ⟨nc0, nc1⟩) uH' (fun _ _ => ⟨hc0, hc1⟩) uL hag).mono ?_
    rintro e w9 ⟨rfl, rfl⟩
    go_wp2_with fail
    go_ret
    exact ⟨rfl, hb9'⟩
  · have g1 : (0 : Int) < (m : Int) := by omega
    have g2 := hout'' (by omega)
    have g3 := uG' 0 (by omega)
    obtain ⟨bn, on, rfl, _, hcell⟩ := rn 0 (by omega)
    have hcell' : w6.cell? ⟨bn, on, none⟩ = some (.int .u64 (G 0)) := hcell
    go_wp2_with fail
    refine (canon13 _ an' m cn cn' G H w6 hm1 rn rn' uG2).mono ?_
    rintro e w7 ⟨rfl, q, rfl⟩
    go_wp2_with fail
    have hb7 : Below w.heap.size w (w6.drewN q) := below_drewN hb6' _
    have hN7 := two_mono hN (below_drewN (Below.refl w6.heap.size w6) q)
    have hD7 := two_mono hD6 (below_drewN (Below.refl w6.heap.size w6) q)
    refine (run29 contig _).mono ?_
    rintro e w8 ⟨o1, o2, rfl, hO, hb8⟩
    have hN8 := two_mono hN7 hb8
    have hD8 := two_mono hD7 hb8
    have hb8' : Below w.heap.size w w8 := hb7.trans (hb8.mono hb7.size)
    clear hb8 hb7 hN7 hD7 hN hD6 hb6' rn rn' uG2
    go_wp2_with fail
    refine (run29 nc _).mono ?_
    rintro e w9 ⟨r1, r2, rfl, hR, hb9⟩
    have hN9 := two_mono hN8 hb9
    have hD9 := two_mono hD8 hb9
    have hO9 := two_mono hO hb9
    have hb9' : Below w.heap.size w w9 := hb8'.trans (hb9.mono hb8'.size)
    clear hb9 hb8' hN8 hD8 hO
    go_wp2_with fail
    refine (same15 r1 r2 _ _ o1 o2 _ _ (runN nc) m (runN contig) n (fun _ => 1) (fun _ => nc) G H (fun _ => 1) (fun _ => contig) F L w9 hR hN9 hO9 hD9 (fun _ _ => ⟨nc0, nc1⟩) uH' (fun _ _ => ⟨hc0, hc1⟩) uL hag).mono ?_
    rintro e w9 ⟨rfl, rfl⟩
    go_wp2_with fail
    go_ret
    exact ⟨rfl, hb9'⟩
end Go.Proofs.Qxb6600760a
