/-
  The walks of canonical, agreeAt, agreeOnPointsOf, sameUnions, runOf, zzUnspans.
-/
import Derived.Test.Qxb6600760aLeaf
namespace Go.Proofs.Qxb6600760a
open Go.RowKit

/-- F's first n numbers fit a uint64 -/
def U64 (F : Nat → Int) (n : Nat) : Prop := ∀ i, i < n → 0 ≤ F i ∧ F i ≤ 18446744073709551615

def canB (F L : Nat → Int) : Nat → Bool
  | 0 => true
  | n + 1 => canB F L n && decide (F n ≠ 0) && decide (F n ≤ L n) && (n == 0 || decide (L (n - 1) < F n - 1))

theorem canB_no {F L : Nat → Int} {n k : Nat} (hk : k < n) (h : canB F L (k + 1) = false) : canB F L n = false := by
  induction n with
  | zero => omega
  | succ n ih =>
    by_cases e : k = n
    · subst e; exact h
    · simp [canB, ih (by omega)]
theorem canB_step0 {F L : Nat → Int} (h0 : ¬ F 0 = 0) (h : F 0 ≤ L 0) : canB F L (0 + 1) = true := by simp [canB, h, h0]
theorem canB_step {F L : Nat → Int} {k : Nat} (hm : canB F L k = true) (h0 : ¬ F k = 0) (h : F k ≤ L k) (h2 : L (k - 1) < F k - 1) : canB F L (k + 1) = true := by simp [canB, hm, h, h0, h2]
theorem canB_bad0 {F L : Nat → Int} {k : Nat} (h : F k = 0) : canB F L (k + 1) = false := by simp [canB, h]
theorem canB_bad1 {F L : Nat → Int} {k : Nat} (h : ¬ F k ≤ L k) : canB F L (k + 1) = false := by
  simp only [canB, h, decide_false, Bool.and_false, Bool.false_and]
theorem canB_bad2 {F L : Nat → Int} {k : Nat} (hk : 0 < k) (h : ¬ L (k - 1) < F k - 1) : canB F L (k + 1) = false := by
  have : (k == 0) = false := by simp; omega
  simp only [canB, h, this, decide_false, Bool.and_false, Bool.or_false]

set_option maxHeartbeats 1000000 in
theorem canon13 (a a' : Option Addr) (n c c' : Nat) (F L : Nat → Int) (w : World) (hn : n ≤ 1048576) (hF : Row w a n F) (hL : Row w a' n L) (uF : U64 F n) :
    Calls Try.prog 13 #[.slice a n c, .slice a' n c'] w fun e w' => e = .returned (.bool (canB F L n)) ∧ ∃ j, w' = w.drewN j := by
  have hnn : ((n : Int) != (n : Int)) = false := by simp
  go_enter Try.func13, Try.ntmps13
  go_wp2
  go_loopw [5] (fun i wr => ∃ k j : Nat, k ≤ n ∧ i = .int .i64 k ∧ canB F L k = true ∧ wr = w.drewN j) (fun i _ => n - (intOf i).toNat)
  case atStart => exact ⟨0, 0, Nat.zero_le _, rfl, rfl, rfl⟩
  case round =>
    obtain ⟨k, j, hk, rfl, hm, rfl⟩ := hrel
    by_cases hlt : k < n
    · obtain ⟨b, o, rfl, _, hc⟩ := hF k hlt
      obtain ⟨b', o', rfl, _, hc'⟩ := hL k hlt
      obtain ⟨u0, u1⟩ := uF k hlt
      by_cases hz : F k = 0
      · have hz' : (F k == 0) = true := by simpa using hz
        have hst := canB_no hlt (canB_bad0 (L := L) hz)
        clear hz
        go_wp2
        go_quiet (fail)
        go_wp2
        go_ret
        exact ⟨by simp [hst], _, by simp only [World.drewN_drewN]; rfl⟩
      have hz' : (F k == 0) = false := by simpa using hz
      have u2 : 1 ≤ F k := by omega
      by_cases h1 : F k ≤ L k
      · by_cases h0 : 0 < k
        · obtain ⟨_, _, e, _, hc2⟩ := hL (k - 1) (by omega)
          simp only [Option.some.injEq, Addr.mk.injEq] at e
          obtain ⟨rfl, rfl, _⟩ := e
          have e1 : ((k : Int) - 1).toNat = k - 1 := by omega
          by_cases h2 : L (k - 1) < F k - 1
          · have hst := canB_step hm hz h1 h2
            clear hz
            go_wp2
            go_quiet (fail)
            go_wp2
            go_quiet (fail)
            go_wp2
            go_roundw
            case rel => exact ⟨k + 1, _, by omega, by go_num, hst, rfl⟩
            case measure => simp [intOf]; omega
          · have hst := canB_no hlt (canB_bad2 (L := L) (F := F) h0 h2)
            clear hz
            go_wp2
            go_quiet (fail)
            go_wp2
            go_quiet (fail)
            go_wp2
            go_ret
            exact ⟨by simp [hst], _, by simp only [World.drewN_drewN]; rfl⟩
        · obtain rfl : k = 0 := by omega
          have hst := canB_step0 hz h1
          simp only [Nat.add_zero] at hc hc'
          have hd : decide ((0 : Int) < ((0 : Nat) : Int)) = false := by simp
          clear hz
          go_wp2
          go_quiet (fail)
          go_wp2
          go_quiet (fail)
          go_wp2
          go_roundw
          case rel => exact ⟨0 + 1, _, by omega, by go_num, hst, rfl⟩
          case measure => simp [intOf]; omega
      · have hst := canB_no hlt (canB_bad1 h1)
        clear hz
        go_wp2
        go_quiet (fail)
        go_wp2
        go_ret
        exact ⟨by simp [hst], _, by simp only [World.drewN_drewN]; rfl⟩
    · obtain rfl : k = n := by omega
      go_wp2
      go_ret
      exact ⟨by simp [hm], _, rfl⟩

theorem bytes26 (r c : Int) (a : Option Addr) (n cap : Nat) (w : World) (hn : n ≤ maxLen) :
    Calls Try.prog 26 #[.int .u64 r, .int .u64 c, .slice a n cap] w fun e w' => e = .returned (.bool (decide (n ≤ 1048576))) ∧ w' = w := by
  unfold maxLen at hn
  by_cases h : n ≤ 1048576
  · go_enter Try.func26, Try.ntmps26
    go_wp2
    go_ret
    exact ⟨by simp [h], rfl⟩
  · go_enter Try.func26, Try.ntmps26
    go_wp2
    go_ret
    exact ⟨by simp [h], rfl⟩

/-- a pair of slices of uint64 -/
structure Two (w : World) (v v' : Value) (n : Nat) (F L : Nat → Int) : Prop where
  small : n ≤ 1048576
  rows : ∃ a c a' c', v = .slice a n c ∧ v' = .slice a' n c' ∧ Row w a n F ∧ Row w a' n L

theorem agreeAt36 (x : Int) (p p' q q' u u' v v' : Value) (np nq nu nv : Nat) (PF PL QF QL UF UL VF VL : Nat → Int) (w : World)
    (hp : Two w p p' np PF PL) (hq : Two w q q' nq QF QL) (hu : Two w u u' nu UF UL) (hv : Two w v v' nv VF VL)
    (h : (memB PF PL x np || memB QF QL x nq) = (memB UF UL x nu || memB VF VL x nv)) :
    Calls Try.prog 36 #[.int .u64 x, p, p', q, q', u, u', v, v'] w fun e w' => e = .returned (.bool true) ∧ w' = w := by
  obtain ⟨p1, ap, cp, ap', cp', rfl, rfl, rp, rp'⟩ := hp
  obtain ⟨q1, aq, cq, aq', cq', rfl, rfl, rq, rq'⟩ := hq
  obtain ⟨u1, au, cu, au', cu', rfl, rfl, ru, ru'⟩ := hu
  obtain ⟨v1, av, cv, av', cv', rfl, rfl, rv, rv'⟩ := hv
  cases e1 : memB PF PL x np <;> cases e2 : memB UF UL x nu <;> simp only [e1, e2, Bool.true_or, Bool.false_or] at h
  all_goals
    go_enter Try.func36, Try.ntmps36
    go_wp2_with fail
    refine (memberOf24 ap ap' np cp cp' PF PL x _ p1 rp rp').mono ?_
    rintro e w ⟨rfl, rfl⟩
    go_wp2_with fail
  · refine (memberOf24 aq aq' nq cq cq' QF QL x _ q1 rq rq').mono ?_
    rintro e w ⟨rfl, rfl⟩
    go_wp2_with fail
    refine (memberOf24 au au' nu cu cu' UF UL x _ u1 ru ru').mono ?_
    rintro e w ⟨rfl, rfl⟩
    go_wp2_with fail
    refine (memberOf24 av av' nv cv cv' VF VL x _ v1 rv rv').mono ?_
    rintro e w ⟨rfl, rfl⟩
    go_wp2_with fail
    go_ret
    exact ⟨by simp, rfl⟩
  · refine (memberOf24 aq aq' nq cq cq' QF QL x _ q1 rq rq').mono ?_
    rintro e w ⟨rfl, rfl⟩
    go_wp2_with fail
    refine (memberOf24 au au' nu cu cu' UF UL x _ u1 ru ru').mono ?_
    rintro e w ⟨rfl, rfl⟩
    go_wp2_with fail
    go_ret
    exact ⟨by simp, rfl⟩
  · refine (memberOf24 au au' nu cu cu' UF UL x _ u1 ru ru').mono ?_
    rintro e w ⟨rfl, rfl⟩
    go_wp2_with fail
    refine (memberOf24 av av' nv cv cv' VF VL x _ v1 rv rv').mono ?_
    rintro e w ⟨rfl, rfl⟩
    go_wp2_with fail
    go_ret
    exact ⟨by simp [← h], rfl⟩
  · refine (memberOf24 au au' nu cu cu' UF UL x _ u1 ru ru').mono ?_
    rintro e w ⟨rfl, rfl⟩
    go_wp2_with fail
    go_ret
    exact ⟨by simp, rfl⟩

/-- the two unions hold the same numbers -/
def Agree (np nq nu nv : Nat) (PF PL QF QL UF UL VF VL : Nat → Int) : Prop := ∀ x : Int, (memB PF PL x np || memB QF QL x nq) = (memB UF UL x nu || memB VF VL x nv)

set_option maxHeartbeats 1000000 in
theorem points37 (s s' p p' q q' u u' v v' : Value) (ns np nq nu nv : Nat) (SF SL PF PL QF QL UF UL VF VL : Nat → Int) (w : World)
    (hs : Two w s s' ns SF SL) (hp : Two w p p' np PF PL) (hq : Two w q q' nq QF QL) (hu : Two w u u' nu UF UL) (hv : Two w v v' nv VF VL) (uS : ∀ i, i < ns → 0 ≤ SL i ∧ SL i ≤ 18446744073709551615)
    (h : Agree np nq nu nv PF PL QF QL UF UL VF VL) :
    Calls Try.prog 37 #[s, s', p, p', q, q', u, u', v, v'] w fun e w' => e = .returned (.bool true) ∧ w' = w := by
  obtain ⟨s1, az, cz, az', cz', rfl, rfl, rs, rs'⟩ := hs
  go_enter Try.func37, Try.ntmps37
  go_wp2
  go_loopw [21] (fun i wr => ∃ k : Nat, k ≤ ns ∧ i = .int .i64 k ∧ w = wr) (fun i _ => ns - (intOf i).toNat)
  case atStart => exact ⟨0, Nat.zero_le _, rfl, rfl⟩
  case round =>
    obtain ⟨k, hk, rfl, rfl⟩ := hrel
    by_cases hlt : k < ns
    · obtain ⟨b, o, rfl, _, hc⟩ := rs k hlt
      obtain ⟨b', o', rfl, _, hc'⟩ := rs' k hlt
      obtain ⟨u0, u1⟩ := uS k hlt
      have hl : (ns : Int) ≤ 1048576 := by omega
      by_cases hmx : SL k = 18446744073709551615
      · have hd : (SL k != 18446744073709551615) = false := by simp [hmx]
        clear hmx
        go_wp2_with fail
        refine (agreeAt36 _ p p' q q' u u' v v' np nq nu nv PF PL QF QL UF UL VF VL _ hp hq hu hv (h _)).mono ?_
        rintro e w ⟨rfl, rfl⟩
        go_wp2_with fail
        go_roundw
        case rel => exact ⟨k + 1, by omega, by go_num, trivial⟩
        case measure => simp [intOf]; omega
      · have hd : (SL k != 18446744073709551615) = true := by simp [hmx]
        have u2 : SL k ≤ 18446744073709551614 := by omega
        clear hmx
        go_wp2_with fail
        refine (agreeAt36 _ p p' q q' u u' v v' np nq nu nv PF PL QF QL UF UL VF VL _ hp hq hu hv (h _)).mono ?_
        rintro e w ⟨rfl, rfl⟩
        go_wp2_with fail
        refine (agreeAt36 _ p p' q q' u u' v v' np nq nu nv PF PL QF QL UF UL VF VL _ hp hq hu hv (h _)).mono ?_
        rintro e w ⟨rfl, rfl⟩
        go_wp2_with fail
        go_roundw
        case rel => exact ⟨k + 1, by omega, by go_num, trivial⟩
        case measure => simp [intOf]; omega
    · obtain rfl : k = ns := by omega
      go_wp2
      go_ret
      exact ⟨rfl, rfl⟩

set_option maxHeartbeats 1000000 in
theorem same15 (p p' q q' u u' v v' : Value) (np nq nu nv : Nat) (PF PL QF QL UF UL VF VL : Nat → Int) (w : World)
    (hp : Two w p p' np PF PL) (hq : Two w q q' nq QF QL) (hu : Two w u u' nu UF UL) (hv : Two w v v' nv VF VL)
    (uP : ∀ i, i < np → 0 ≤ PL i ∧ PL i ≤ 18446744073709551615) (uQ : ∀ i, i < nq → 0 ≤ QL i ∧ QL i ≤ 18446744073709551615) (uU : ∀ i, i < nu → 0 ≤ UL i ∧ UL i ≤ 18446744073709551615) (uV : ∀ i, i < nv → 0 ≤ VL i ∧ VL i ≤ 18446744073709551615)
    (h : Agree np nq nu nv PF PL QF QL UF UL VF VL) :
    Calls Try.prog 15 #[p, p', q, q', u, u', v, v'] w fun e w' => e = .returned (.bool true) ∧ w' = w := by
  go_enter Try.func15, Try.ntmps15
  go_wp2_with fail
  refine (agreeAt36 _ p p' q q' u u' v v' np nq nu nv PF PL QF QL UF UL VF VL _ hp hq hu hv (h _)).mono ?_
  rintro e w ⟨rfl, rfl⟩
  go_wp2_with fail
  refine (points37 p p' p p' q q' u u' v v' np np nq nu nv PF PL PF PL QF QL UF UL VF VL _ hp hp hq hu hv uP h).mono ?_
  rintro e w ⟨rfl, rfl⟩
  go_wp2_with fail
  refine (points37 q q' p p' q q' u u' v v' nq np nq nu nv QF QL PF PL QF QL UF UL VF VL _ hq hp hq hu hv uQ h).mono ?_
  rintro e w ⟨rfl, rfl⟩
  go_wp2_with fail
  refine (points37 u u' p p' q q' u u' v v' nu np nq nu nv UF UL PF PL QF QL UF UL VF VL _ hu hp hq hu hv uU h).mono ?_
  rintro e w ⟨rfl, rfl⟩
  go_wp2_with fail
  refine (points37 v v' p p' q q' u u' v v' nv np nq nu nv VF VL PF PL QF QL UF UL VF VL _ hv hp hq hu hv uV h).mono ?_
  rintro e w ⟨rfl, rfl⟩
  go_wp2_with fail
  go_ret
  exact ⟨rfl, rfl⟩

/-- how many ranges the run 1 .. c is -/
def runN (c : Int) : Nat := if c = 0 then 0 else 1

/-- the run 1 .. c as a list of ranges -/
theorem run29 (c : Int) (w : World) :
    Calls Try.prog 29 #[.int .u64 c] w fun e w' => ∃ v v', e = .returned (.tuple #[v, v']) ∧ Two w' v v' (runN c) (fun _ => 1) (fun _ => c) ∧ Below w.heap.size w w' := by
  by_cases hc : c = 0
  · have hc' : (c == 0) = true := by simp [hc]
    have e1 : runN c = 0 := by simp [runN, hc]
    clear hc
    go_enter Try.func29, Try.ntmps29
    go_wp2
    go_ret2
    refine ⟨.slice none 0 0, .slice none 0 0, rfl, ?_, Below.refl _ _⟩
    rw [e1]
    exact ⟨by omega, none, 0, none, 0, rfl, rfl, fun i hi => by omega, fun i hi => by omega⟩
  · have hc' : (c == 0) = false := by simp [hc]
    have e1 : runN c = 1 := by simp [runN, hc]
    clear hc
    go_enter Try.func29, Try.ntmps29
    go_wp2
    go_ret2
    refine ⟨.slice (some ⟨w.heap.size, 0, none⟩) 1 1, .slice (some ⟨w.heap.size + 1, 0, none⟩) 1 1, rfl, ?_, ((Below.refl _ _).alloc (Nat.le_refl _) _).alloc (by simp) _⟩
    rw [e1]
    refine ⟨by omega, _, _, _, _, rfl, rfl, fun i hi => ⟨w.heap.size, 0, rfl, by simp; omega, ?_⟩, fun i hi => ⟨w.heap.size + 1, 0, rfl, by simp, ?_⟩⟩
    · obtain rfl : i = 0 := by omega
      go_simp
    · obtain rfl : i = 0 := by omega
      go_simp

set_option maxHeartbeats 400000 in
theorem unspans33 (a : Option Addr) (n c : Nat) (F L : Nat → Int) (w : World) (hn : n ≤ 1048576) (hP : Pairs w a n F L) :
    Calls Try.prog 33 #[.slice a n c] w fun e w' => e = .returned (.tuple #[.slice (some ⟨w.heap.size, 0, none⟩) n n, .slice (some ⟨w.heap.size + 1, 0, none⟩) n n]) ∧
      w'.rowIs w.heap.size 31 n (upTo F n) ∧ w'.rowIs (w.heap.size + 1) 31 n (upTo L n) ∧ Below w.heap.size w w' ∧ w'.heap.size = w.heap.size + 2 := by
  have hmk := run_make_row' (P := Try.prog) 24 31 (.int .u64 0) 8 Try.underlying24 Try.info31 rfl .i64 .i64 n (by omega) (by omega)
  go_enter Try.func33, Try.ntmps33
  go_wp2
  go_loopw [6] (fun i wr => ∃ k : Nat, k ≤ n ∧ i = .int .i64 k ∧ wr.rowIs w.heap.size 31 n (upTo F k) ∧ wr.rowIs (w.heap.size + 1) 31 n (upTo L k) ∧ Below w.heap.size w wr ∧ wr.heap.size = w.heap.size + 2) (fun i _ => n - (intOf i).toNat)
  case atStart =>
    refine ⟨0, Nat.zero_le _, rfl, ?_, ?_, ?_, ?_⟩
    · exact (World.rowIs_made _ _ _ _).alloc _ |>.congr (fun i _ => by simp [upTo])
    · have := World.rowIs_made (w.alloc (.cells (madeCells #[.int .u64 0] n) 31)) (.int .u64 0) n 31
      exact (by simpa using this : World.rowIs _ _ _ _ _).congr (fun i _ => by simp [upTo])
    · exact ((Below.refl _ _).alloc (Nat.le_refl _) _).alloc (by simp) _
    · simp
  case round =>
    obtain ⟨k, hk, rfl, hr1, hr2, hb, hsz⟩ := hrel
    by_cases hlt : k < n
    · obtain ⟨b, o, rfl, hbs, hc0, hc1⟩ := hP k hlt
      rw [← hb.cell (by exact hbs)] at hc0 hc1
      have f1 := hr1.frozen k
      have f2 := hr2.frozen k
      have d1 := hr1.cell hlt
      have d2 := hr2.cell hlt
      have ne1 : b ≠ w.heap.size := by omega
      go_wp2
      go_roundw
      case rel =>
        refine ⟨k + 1, by omega, by go_num, ?_, ?_, ?_, ?_⟩
        · exact ((hr1.set k _).setOther (by simp) _).congr (fun j _ => upTo_step F k j)
        · exact ((hr2.setOther (by simp) _).set k _).congr (fun j _ => upTo_step L k j)
        · exact (hb.setCell (by simp) _).setCell (by simp) _
        · simp [World.setCell, hsz]
      case measure => simp [intOf]; omega
    · obtain rfl : k = n := by omega
      go_wp2
      go_ret2
      exact ⟨rfl, hr1, hr2, hb, hsz⟩

end Go.Proofs.Qxb6600760a
