/-
  The walks of the leaves: memberOf, sortedDisjoint, splitRanges, zzSpans, BinarySearchFunc and its closure.
-/
import Derived.Test.Qxb6600760aProg
import Derived.WalkKit
import Derived.Deep.QuietTactic
import Derived.BigQuiet
import Derived.Deep.OwnRows
import Derived.RegionTactic
import Derived.ChangeAlike
import Derived.KernelRfl
namespace Go.Proofs.Qxb6600760a
open Go.RowKit

/-- a slice of uint64 whose first n elements are F 0 .. F (n - 1) -/
def Row (w : World) (a : Option Addr) (n : Nat) (F : Nat → Int) : Prop :=
  ∀ i, i < n → ∃ b o, a = some ⟨b, o, none⟩ ∧ b < w.heap.size ∧ w.cell? ⟨b, o + i, none⟩ = some (.int .u64 (F i))

/-- a slice of pairs of uint64 -/
def Pairs (w : World) (a : Option Addr) (n : Nat) (F L : Nat → Int) : Prop :=
  ∀ i, i < n → ∃ b o, a = some ⟨b, o, none⟩ ∧ b < w.heap.size ∧ w.cell? ⟨b, o + i * 2, none⟩ = some (.int .u64 (F i)) ∧ w.cell? ⟨b, o + i * 2 + 1, none⟩ = some (.int .u64 (L i))


def memB (F L : Nat → Int) (x : Int) : Nat → Bool
  | 0 => false
  | n + 1 => memB F L x n || (decide (F n ≤ x) && decide (x ≤ L n))

theorem memB_hit {F L : Nat → Int} {x : Int} {n k : Nat} (hk : k < n) (h1 : F k ≤ x) (h2 : x ≤ L k) : memB F L x n = true := by
  induction n with
  | zero => omega
  | succ n ih =>
    by_cases e : k = n
    · subst e; simp [memB, h1, h2]
    · simp [memB, ih (by omega)]

theorem memB_step {F L : Nat → Int} {x : Int} {k : Nat} (h : memB F L x k = false) (h2 : ¬ (F k ≤ x ∧ x ≤ L k)) : memB F L x (k + 1) = false := by
  simp [memB, h]; intro h3; simp at h2; exact h2 h3

theorem bytes19 (r c : Int) (a : Option Addr) (n cap : Nat) (q x : Int) (w : World) (hn : n ≤ maxLen) :
    Calls Try.prog 19 #[.int .u64 r, .int .u64 c, .slice a n cap, .int .u64 q, .int .u64 x] w fun e w' => e = .returned (.bool (decide (n ≤ 1048576))) ∧ w' = w := by
  unfold maxLen at hn
  by_cases h : n ≤ 1048576
  · go_enter Try.func19, Try.ntmps19
    go_wp2
    go_ret
    exact ⟨by simp [h], rfl⟩
  · go_enter Try.func19, Try.ntmps19
    go_wp2
    go_ret
    exact ⟨by simp [h], rfl⟩

set_option maxHeartbeats 400000 in
theorem memberOf24 (a a' : Option Addr) (n c c' : Nat) (F L : Nat → Int) (x : Int) (w : World) (hn : n ≤ 1048576) (hF : Row w a n F) (hL : Row w a' n L) :
    Calls Try.prog 24 #[.slice a n c, .slice a' n c', .int .u64 x] w fun e w' => e = .returned (.bool (memB F L x n)) ∧ w' = w := by
  go_enter Try.func24, Try.ntmps24
  go_wp2
  go_loop [7] (fun i => ∃ k : Nat, k ≤ n ∧ i = .int .i64 k ∧ memB F L x k = false) (fun i => n - (intOf i).toNat)
  case atStart => exact ⟨0, Nat.zero_le _, rfl, rfl⟩
  case round =>
    obtain ⟨k, hk, rfl, hm⟩ := hrel
    by_cases hlt : k < n
    · obtain ⟨b, o, rfl, _, hc⟩ := hF k hlt
      obtain ⟨b', o', rfl, _, hc'⟩ := hL k hlt
      by_cases h1 : F k ≤ x
      · by_cases h2 : x ≤ L k
        · have hfin := memB_hit hlt h1 h2
          go_wp2
          go_ret
          exact ⟨rfl, rfl⟩
        · have hst := memB_step hm (fun h => h2 h.2)
          go_wp2
          go_round
          case rel => exact ⟨k + 1, by omega, by go_num, hst⟩
          case measure => simp [intOf]; omega
      · have hst := memB_step hm (fun h => h1 h.1)
        go_wp2
        go_round
        case rel => exact ⟨k + 1, by omega, by go_num, hst⟩
        case measure => simp [intOf]; omega
    · obtain rfl : k = n := by omega
      go_wp2
      go_ret
      exact ⟨rfl, rfl⟩
def sdB (F L : Nat → Int) : Nat → Bool
  | 0 => true
  | n + 1 => sdB F L n && decide (F n ≤ L n) && (n == 0 || decide (L (n - 1) < F n))

theorem sdB_no {F L : Nat → Int} {n k : Nat} (hk : k < n) (h : sdB F L (k + 1) = false) : sdB F L n = false := by
  induction n with
  | zero => omega
  | succ n ih =>
    by_cases e : k = n
    · subst e; exact h
    · simp [sdB, ih (by omega)]

theorem sdB_step0 {F L : Nat → Int} (h : F 0 ≤ L 0) : sdB F L (0 + 1) = true := by simp [sdB, h]
theorem sdB_step {F L : Nat → Int} {k : Nat} (_hk : 0 < k) (hm : sdB F L k = true) (h : F k ≤ L k) (h2 : L (k - 1) < F k) : sdB F L (k + 1) = true := by simp [sdB, hm, h, h2]
theorem sdB_bad1 {F L : Nat → Int} {k : Nat} (h : ¬ F k ≤ L k) : sdB F L (k + 1) = false := by simp [sdB]; omega
theorem sdB_bad2 {F L : Nat → Int} {k : Nat} (hk : 0 < k) (h : ¬ L (k - 1) < F k) : sdB F L (k + 1) = false := by
  have : (k == 0) = false := by simp; omega
  simp [sdB, this]; omega

set_option maxHeartbeats 400000 in
theorem sorted20 (a a' : Option Addr) (n c c' : Nat) (F L : Nat → Int) (w : World) (hn : n ≤ 1048576) (hF : Row w a n F) (hL : Row w a' n L) :
    Calls Try.prog 20 #[.slice a n c, .slice a' n c'] w fun e w' => e = .returned (.bool (sdB F L n)) ∧ ∃ j, w' = w.drewN j := by
  have hnn : ((n : Int) != (n : Int)) = false := by simp
  go_enter Try.func20, Try.ntmps20
  go_wp2
  go_loopw [5] (fun i wr => ∃ k j : Nat, k ≤ n ∧ i = .int .i64 k ∧ sdB F L k = true ∧ wr = w.drewN j) (fun i _ => n - (intOf i).toNat)
  case atStart => exact ⟨0, 0, Nat.zero_le _, rfl, rfl, rfl⟩
  case round =>
    obtain ⟨k, j, hk, rfl, hm, rfl⟩ := hrel
    by_cases hlt : k < n
    · obtain ⟨b, o, rfl, _, hc⟩ := hF k hlt
      obtain ⟨b', o', rfl, _, hc'⟩ := hL k hlt
      by_cases h1 : F k ≤ L k
      · by_cases h0 : 0 < k
        · obtain ⟨_, _, e, _, hc2⟩ := hL (k - 1) (by omega)
          simp only [Option.some.injEq, Addr.mk.injEq] at e
          obtain ⟨rfl, rfl, _⟩ := e
          have e1 : ((k : Int) - 1).toNat = k - 1 := by omega
          by_cases h2 : L (k - 1) < F k
          · have hst := sdB_step h0 hm h1 h2
            go_wp2
            go_quiet (fail)
            go_wp2
            go_quiet (fail)
            go_wp2
            go_roundw
            case rel => exact ⟨k + 1, _, by omega, by go_num, hst, rfl⟩
            case measure => simp [intOf]; omega
          · have hst := sdB_no hlt (sdB_bad2 (L := L) (F := F) h0 h2)
            go_wp2
            go_quiet (fail)
            go_wp2
            go_quiet (fail)
            go_wp2
            go_ret
            exact ⟨by simp [hst], _, by simp only [World.drewN_drewN]; rfl⟩
        · obtain rfl : k = 0 := by omega
          have hst := sdB_step0 h1
          simp only [Nat.add_zero] at hc hc'
          have hd : decide ((0 : Int) < ((0 : Nat) : Int)) = false := by simp
          go_wp2
          go_quiet (fail)
          go_wp2
          go_quiet (fail)
          go_wp2
          go_roundw
          case rel => exact ⟨0 + 1, _, by omega, by go_num, hst, rfl⟩
          case measure => simp [intOf]; omega
      · have hst := sdB_no hlt (sdB_bad1 h1)
        go_wp2
        go_quiet (fail)
        go_wp2
        go_ret
        exact ⟨by simp [hst], _, by simp only [World.drewN_drewN]; rfl⟩
    · obtain rfl : k = n := by omega
      go_wp2
      go_ret
      exact ⟨by simp [hm], _, rfl⟩
theorem Try.info31 : (Try.prog.info? 31).map (fun i => (i.zero, i.size, i.bytes)) = some (some (.int .u64 0), 1, 8) := by kernel_rfl
theorem Try.info65 : (Try.prog.info? 65).map (fun i => (i.zero, i.size, i.bytes)) = some (some (.agg #[.int .u64 0, .int .u64 0]), 2, 16) := by kernel_rfl

def upTo (F : Nat → Int) (k : Nat) (j : Nat) : Value := .int .u64 (if j < k then F j else 0)

theorem upTo_step (F : Nat → Int) (k j : Nat) : (if j = k then Value.int .u64 (F k) else upTo F k j) = upTo F (k + 1) j := by
  unfold upTo
  by_cases h : j = k
  · subst h; simp
  · by_cases h2 : j < k
    · simp [h, h2, show j < k + 1 by omega]
    · simp [h, h2, show ¬ j < k + 1 by omega]

set_option maxHeartbeats 400000 in
theorem split12 (a : Option Addr) (n c : Nat) (F L : Nat → Int) (w : World) (hn : n ≤ 1048576) (hP : Pairs w a n F L) :
    Calls Try.prog 12 #[.slice a n c] w fun e w' => e = .returned (.tuple #[.slice (some ⟨w.heap.size, 0, none⟩) n n, .slice (some ⟨w.heap.size + 1, 0, none⟩) n n]) ∧
      w'.rowIs w.heap.size 31 n (upTo F n) ∧ w'.rowIs (w.heap.size + 1) 31 n (upTo L n) ∧ Below w.heap.size w w' ∧ w'.heap.size = w.heap.size + 2 := by
  have hmk := run_make_row' (P := Try.prog) 24 31 (.int .u64 0) 8 Try.underlying24 Try.info31 rfl .i64 .i64 n (by omega) (by omega)
  go_enter Try.func12, Try.ntmps12
  go_wp2
  go_loopw [6] (fun i wr => ∃ k : Nat, k ≤ n ∧ i = .int .i64 k ∧ wr.rowIs w.heap.size 31 n (upTo F k) ∧ wr.rowIs (w.heap.size + 1) 31 n (upTo L k) ∧ Below w.heap.size w wr ∧ wr.heap.size = w.heap.size + 2) (fun i _ => n - (intOf i).toNat)
  case atStart =>
    refine ⟨0, Nat.zero_le _, rfl, ?_, ?_, ?_, ?_⟩
    · exact (World.rowIs_made _ _ _ _).alloc _ |>.congr (fun i _ => by simp [upTo])
    · have := World.rowIs_made (w.alloc (.cells (madeCells #[.int .u64 0] n) 31)) (.int .u64 0) n 31
      exact (by simpa using this : World.rowIs _ _ _ _ _).congr (fun i _ => by simp [upTo])
    · exact ((Below.refl _ _).alloc (Nat.le_refl _) _).alloc (by simp) _
    · simp
  case round =>
    obtain ⟨k, hk, rfl, hr1, hr2, hb, hsz⟩ := hrel
    by_cases hlt : k < n
    · obtain ⟨b, o, rfl, hbs, hc0, hc1⟩ := hP k hlt
      rw [← hb.cell (by exact hbs)] at hc0 hc1
      have f1 := hr1.frozen k
      have f2 := hr2.frozen k
      have d1 := hr1.cell hlt
      have d2 := hr2.cell hlt
      have ne1 : b ≠ w.heap.size := by omega
      go_wp2
      go_roundw
      case rel =>
        refine ⟨k + 1, by omega, by go_num, ?_, ?_, ?_, ?_⟩
        · exact ((hr1.set k _).setOther (by simp) _).congr (fun j _ => upTo_step F k j)
        · exact ((hr2.setOther (by simp) _).set k _).congr (fun j _ => upTo_step L k j)
        · exact (hb.setCell (by simp) _).setCell (by simp) _
        · simp [World.setCell, hsz]
      case measure => simp [intOf]; omega
    · obtain rfl : k = n := by omega
      go_wp2
      go_ret2
      exact ⟨rfl, hr1, hr2, hb, hsz⟩

def cmpV (f l x : Int) : Int := if l < x then -1 else if x < f then 1 else 0

theorem cmp39 (f l x : Int) (w : World) :
    Calls Try.prog 39 #[.agg #[.int .u64 f, .int .u64 l], .int .u64 x] w fun e w' => e = .returned (.int .i64 (cmpV f l x)) ∧ w' = w.alloc (.cells #[.int .u64 f, .int .u64 l] 65) := by
  by_cases h1 : l < x
  · have e1 : cmpV f l x = -1 := by simp [cmpV, h1]
    go_enter Try.func39, Try.ntmps39
    go_wp2
    go_ret
    exact ⟨by first | rfl | (rw [e1]; rfl), rfl⟩
  · by_cases h2 : x < f
    · have e1 : cmpV f l x = 1 := by simp [cmpV, h1, h2]
      go_enter Try.func39, Try.ntmps39
      go_wp2
      go_ret
      exact ⟨by first | rfl | (rw [e1]; rfl), rfl⟩
    · have e1 : cmpV f l x = 0 := by simp [cmpV, h1, h2]
      go_enter Try.func39, Try.ntmps39
      go_wp2
      go_ret
      exact ⟨by first | rfl | (rw [e1]; rfl), rfl⟩

set_option maxHeartbeats 400000 in
theorem search38 (a : Option Addr) (n c : Nat) (F L : Nat → Int) (x : Int) (w : World) (hn : n ≤ 1048576) (hP : Pairs w a n F L)
   (hs : ∀ i j, i ≤ j → j < n → L i ≤ L j) :
    Calls Try.prog 38 #[.slice a n c, .int .u64 x, .func (.func 39) #[] #[]] w fun e w' => ∃ i : Nat, i ≤ n ∧ e = .returned (.tuple #[.int .i64 i, .bool (decide (i < n ∧ F i ≤ x))]) ∧ (∀ j, j < i → L j < x) ∧ (∀ j, i ≤ j → j < n → x ≤ L j) ∧ Below w.heap.size w w' := by
  go_enter Try.func38, Try.ntmps38
  go_wp2
  go_loopw [9, 10, 11] (fun i j _ wr => ∃ lo hi : Nat, lo ≤ hi ∧ hi ≤ n ∧ i = .int .i64 lo ∧ j = .int .i64 hi ∧ (∀ j, j < lo → L j < x) ∧ (∀ j, hi ≤ j → j < n → x ≤ L j) ∧ Below w.heap.size w wr) (fun i j _ _ => (intOf j).toNat - (intOf i).toNat)
  case atStart => exact ⟨0, n, Nat.zero_le _, Nat.le_refl _, rfl, rfl, fun j h => by omega, fun j h h2 => by omega, Below.refl _ _⟩
  case round =>
    obtain ⟨lo, hi, hlh, hhn, rfl, rfl, h1, h2, hb⟩ := hrel
    by_cases hlt : lo < hi
    · obtain ⟨m, hm⟩ : ∃ m : Nat, ((lo : Int) + (hi : Int)) / 2 = (m : Int) := ⟨(lo + hi) / 2, by omega⟩
      have hm1 : lo ≤ m := by omega
      have hm2 : m < hi := by omega
      have hm3 : m < n := by omega
      obtain ⟨b, o, rfl, hbs, hc0, hc1⟩ := hP m hm3
      rw [← hb.cell (by exact hbs)] at hc0 hc1
      by_cases h3 : L m < x
      · have e3 : cmpV (F m) (L m) x = -1 := by simp [cmpV, h3]
        have hd : decide ((-1 : Int) < 0) = true := by decide
        go_wp2_with (go_at_call 39; refine (cmp39 _ _ _ _).mono ?_; rintro e w' ⟨rfl, rfl⟩)
        go_roundw
        case rel => exact ⟨m + 1, hi, by omega, by omega, by go_num, rfl, fun j hj => by have := hs j m (by omega) hm3; omega, h2, hb.alloc (by have := hb.size; omega) _⟩
        case measure => simp [intOf]; omega
      · have e3 : ¬ cmpV (F m) (L m) x < 0 := by simp [cmpV, h3]; split <;> omega
        go_wp2_with (go_at_call 39; refine (cmp39 _ _ _ _).mono ?_; rintro e w' ⟨rfl, rfl⟩)
        go_roundw
        case rel => exact ⟨lo, m, by omega, by omega, rfl, rfl, h1, fun j hj hj2 => by have := hs m j (by omega) hj2; omega, hb.alloc (by have := hb.size; omega) _⟩
        case measure => simp [intOf]; omega
    · obtain rfl : lo = hi := by omega
      by_cases h3 : lo < n
      · obtain ⟨b, o, rfl, hbs, hc0, hc1⟩ := hP lo h3
        rw [← hb.cell (by exact hbs)] at hc0 hc1
        have h4 := h2 lo (Nat.le_refl _) h3
        have e3 : (cmpV (F lo) (L lo) x == 0) = decide (lo < n ∧ F lo ≤ x) := by
          have h5 : ¬ L lo < x := by omega
          by_cases h6 : x < F lo
          · simp [cmpV, h5, h6]
          · simp [cmpV, h5, h6, h3]; omega
        have e4 : Hid ((cmpV (F lo) (L lo) x == 0) = decide (lo < n ∧ F lo ≤ x)) := e3
        clear e3
        go_wp2_with (go_at_call 39; refine (cmp39 _ _ _ _).mono ?_; rintro e w' ⟨rfl, rfl⟩)
        go_ret2
        exact ⟨lo, hhn, by rw [← e4.out]; rfl, h1, h2, hb.alloc (by have := hb.size; omega) _⟩
      · have e3 : decide (lo < n ∧ F lo ≤ x) = false := by simp; omega
        go_wp2
        go_ret2
        exact ⟨lo, hhn, by rw [e3]; rfl, h1, h2, hb⟩

/-- the cells of a row of spans of which k are laid -/
def spanTo (F L : Nat → Int) (k : Nat) (j : Nat) : Value := .int .u64 (if j / 2 < k then (if j % 2 = 0 then F (j / 2) else L (j / 2)) else 0)

theorem spanTo_step (F L : Nat → Int) (k j : Nat) : (if j = k * 2 + 1 then Value.int .u64 (L k) else if j = k * 2 then Value.int .u64 (F k) else spanTo F L k j) = spanTo F L (k + 1) j := by
  unfold spanTo
  by_cases h : j = k * 2 + 1
  · have e1 : j / 2 = k := by omega
    have e2 : j % 2 = 1 := by omega
    simp [h]; simp [show (k * 2 + 1) / 2 = k by omega]
  · by_cases h' : j = k * 2
    · simp [h']
    · by_cases h2 : j / 2 < k
      · simp [h, h', h2, show j / 2 < k + 1 by omega]
      · simp [h, h', h2, show ¬ j / 2 < k + 1 by omega]

theorem make53 (n : Nat) (hn : n ≤ 1048576) (w : World) :
    (Instr.makeSlice 53 (.int .i64 (n : Int)) (.int .i64 (n : Int))).run Try.prog w = .ok (.slice (some ⟨w.heap.size, 0, none⟩) n n) (w.alloc (.cells (madeCells #[.int .u64 0, .int .u64 0] (n * 2)) 65)) := by
  obtain ⟨i, hi, hzz⟩ := Option.map_eq_some_iff.1 Try.info65
  simp only [Prod.mk.injEq] at hzz
  obtain ⟨hz, hs, hb⟩ := hzz
  have hr := run_make (P := Try.prog) w 53 65 i _ Try.underlying53 hi hz .i64 .i64 n n (by omega) (Int.le_refl _) (by rw [hb]; omega) (by omega)
  simp only [Int.toNat_natCast, hs] at hr
  exact hr

theorem made2 (w : World) (n : Nat) : (w.alloc (.cells (madeCells #[.int .u64 0, .int .u64 0] (n * 2)) 65)).rowIs w.heap.size 65 (n * 2) (spanTo (fun _ => 0) (fun _ => 0) 0) := by
  refine ⟨_, Go.Deep.blk_alloc_new _ _, size_madeCells _ _, fun i hi => ?_⟩
  have h2 : i % 2 = 0 ∨ i % 2 = 1 := by omega
  rcases h2 with h2 | h2 <;> simp [madeCells, hi, spanTo, h2]

set_option maxHeartbeats 400000 in
theorem spans35 (a a' : Option Addr) (n c c' : Nat) (F L : Nat → Int) (w : World) (hn : n ≤ 1048576) (hF : Row w a n F) (hL : Row w a' n L) :
    Calls Try.prog 35 #[.slice a n c, .slice a' n c'] w fun e w' => e = .returned (.slice (some ⟨w.heap.size, 0, none⟩) n n) ∧
      w'.rowIs w.heap.size 65 (n * 2) (spanTo F L n) ∧ Below w.heap.size w w' ∧ w'.heap.size = w.heap.size + 1 := by
  have hmk := make53 n hn
  go_enter Try.func35, Try.ntmps35
  go_wp2
  go_loopw [7] (fun i wr => ∃ k : Nat, k ≤ n ∧ i = .int .i64 k ∧ wr.rowIs w.heap.size 65 (n * 2) (spanTo F L k) ∧ Below w.heap.size w wr ∧ wr.heap.size = w.heap.size + 1) (fun i _ => n - (intOf i).toNat)
  case atStart =>
    refine ⟨0, Nat.zero_le _, rfl, ?_, ?_, ?_⟩
    · exact (made2 w n).congr (fun i _ => by simp [spanTo])
    · exact (Below.refl _ _).alloc (Nat.le_refl _) _
    · simp
  case round =>
    obtain ⟨k, hk, rfl, hr1, hb, hsz⟩ := hrel
    by_cases hlt : k < n
    · obtain ⟨b, o, rfl, hbs, hc0⟩ := hF k hlt
      obtain ⟨b', o', rfl, hbs', hc0'⟩ := hL k hlt
      rw [← hb.cell (by assumption)] at hc0 hc0'
      have f1 := hr1.frozen (k * 2)
      have f2 := hr1.frozen (k * 2 + 1)
      have d1 := hr1.cell (i := k * 2) (by omega)
      have d2 := hr1.cell (i := k * 2 + 1) (by omega)
      go_wp2
      go_region
      go_wp2
      go_roundw
      case rel =>
        refine ⟨k + 1, by omega, by go_num, ?_, ?_, ?_⟩
        · exact (((hr1.set (k * 2) _).set (k * 2 + 1) _).congr (fun j _ => spanTo_step F L k j)).drew
        · exact ((hb.setCell (by simp) _).setCell (by simp) _).drew
        · simp [World.setCell, hsz]
      case measure => simp [intOf]; omega
    · obtain rfl : k = n := by omega
      go_wp2
      go_ret
      exact ⟨rfl, hr1, hb, hsz⟩
end Go.Proofs.Qxb6600760a
