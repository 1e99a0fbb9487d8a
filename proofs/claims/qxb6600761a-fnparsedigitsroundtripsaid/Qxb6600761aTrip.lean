/-
  The walk of FnParseDigitsRoundTrip.
-/
import Derived.Test.Qxb6600761aTrip0
namespace Go.Proofs.Qxb6600761a
open Go.RowKit

set_option maxRecDepth 100000 in
set_option maxHeartbeats 1000000 in
theorem law8 (n : Int) (k : Nat) (w : World) (h0 : 0 ≤ n) (h1 : n ≤ 9223372036854775807) (hk : k ≤ 4096) :
    Calls Try.prog 8 #[.int .i64 n, .int .i64 k] w fun e w' => e = .returned (.bool true) ∧ Below w.heap.size w w' := by
  have g1 : decide (n < 0) = false := by simp; omega
  have g2 : decide ((k : Int) < 0) = false := by simp
  have g3 : decide (4096 < (k : Int)) = false := by simp; omega
  have hmk := make34 k hk
  go_enter Try.func8, Try.ntmps8
  go_wp2
  go_loopw [5, 6] (fun b i wr => ∃ t : Nat, t ≤ k ∧ i = .int .i64 t ∧ b = .slice (some ⟨w.heap.size, 0, none⟩) t (k + 24) ∧ wr.rowIs w.heap.size 5 (k + 24) (zeroAt t) ∧ Below w.heap.size w wr) (fun _ i _ => k - (intOf i).toNat)
  case atStart => exact ⟨0, Nat.zero_le _, rfl, rfl, (World.rowIs_made _ _ _ _).congr (fun i _ => by simp [zeroAt]), (Below.refl _ _).alloc (Nat.le_refl _) _⟩
  case round =>
    obtain ⟨t, ht, rfl, rfl, hr, hb⟩ := hrel
    have hsz := hr.lt
    by_cases hlt : t < k
    · have c1 := hr.cell (i := t) (by omega)
      have f1 := hr.frozen t
      go_wp2
      go_roundw
      case rel =>
        refine ⟨t + 1, by omega, by go_num, rfl, ?_, ?_⟩
        · exact ((hr.set t _).congr (fun i _ => zeroAt_step t i)).alloc _
        · exact (hb.setCell (by exact Nat.le_refl _) _).alloc (by simp [World.setCell]; omega) _
      case measure => simp [intOf]; omega
    · obtain rfl : t = k := by omega
      obtain ⟨T, hTe⟩ : ∃ T, wr.heap.size = T := ⟨_, rfl⟩
      have hT0 := tmp_start wr n
      have hT1 := tmp_zero wr n
      rw [hTe] at hT0 hT1
      have hN0 : ∀ c, (wr.alloc (.cells c 35)).rowIs w.heap.size 5 (t + 24) (zeroAt t) := fun c => hr.alloc _
      have hb0 : ∀ c, Below w.heap.size w (wr.alloc (.cells c 35)) := fun c => hb.alloc hb.size _
      have hTN : T ≠ w.heap.size := by omega
      have hTN2 : w.heap.size < T := by omega
      clear hr hb hmk
      have hz : (n == 0) = true ∨ (n == 0) = false := by cases n == 0 <;> simp
      rcases hz with hz | hz
      all_goals
        go_wp2
        go_loopw [8, 9] (fun j x w2 => ∃ (c J : Nat) (X : Int), J + c = 24 ∧ j = .int .i64 J ∧ x = .int .i64 X ∧ Hid (X = n / 10 ^ c) ∧ w2.rowIs T 35 24 (tmpAt n c) ∧ w2.rowIs w.heap.size 5 (t + 24) (zeroAt t) ∧ Below w.heap.size w w2) (fun j _ _ => (intOf j).toNat)
        case atStart =>
          first
          | exact ⟨0, 24, n, rfl, rfl, rfl, by unfold Hid; simp, hT0, hN0 _, hb0 _⟩
          | exact ⟨1, 23, n, rfl, rfl, rfl, by unfold Hid; simp at hz; subst hz; rfl, hT1 (by simpa using hz), hN0 _, hb0 _⟩
        case round =>
          obtain ⟨c, J, X, hJ, rfl, rfl, HX, hT, hN, hb2⟩ := hrel
          by_cases hx : 0 < X
          · have hc := pow10_lt n c h1 (by rw [← HX.out]; exact hx)
            obtain ⟨q, hq⟩ : ∃ q : Nat, (J : Int) - 1 = (q : Int) := ⟨J - 1, by omega⟩
            have hq1 : q < 24 := by omega
            have HQ : Hid (q = 23 - c) := by show q = 23 - c; omega
            have HC : Hid (q + (c + 1) = 24) := by show q + (c + 1) = 24; omega
            have hJ2 : 5 ≤ J := by omega
            have hJ3 : J ≤ 24 := by omega
            have c1 := hT.cell hq1
            have f1 := hT.frozen q
            have hX1 : X ≤ 9223372036854775807 := by have := pow10_le n c h0; have := HX.out; omega
            clear hJ
            go_wp2
            go_roundw
            case rel =>
              refine ⟨c + 1, q, X / 10, HC.out, rfl, rfl, ?_, ?_, hN.setOther (by exact fun e => hTN e.symm) _, hb2.setCell (by exact Nat.le_of_lt hTN2) _⟩
              · show X / 10 = n / 10 ^ (c + 1)
                rw [HX.out]; exact pow10_step n c
              · refine (hT.set q _).congr (fun i hi => ?_)
                rw [← tmpAt_step n c i (by omega) hi, ← HX.out, ← HQ.out]
            case measure => simp [intOf]; omega
          · have hX0 : n / 10 ^ c = 0 := by have := pow10_le n c h0; have := HX.out; omega
            have HX0 : Hid (n / 10 ^ c = 0) := hX0
            clear hX0 HX
            have hc24 : c ≤ 24 := by omega
            have hN' : wr.rowIs w.heap.size 5 (t + 24) (bufAt n t c 0) := hN.congr (fun i _ => by
              unfold zeroAt bufAt Bf
              by_cases h : i < t
              · rw [if_pos h, if_pos (by omega), if_pos h]
              · rw [if_neg h, if_neg (by omega)])
            clear hN
            go_wp2
            go_loopw [5, 8] (fun b j w3 => ∃ (u Q : Nat), u ≤ c ∧ Q = J + u ∧ j = .int .i64 Q ∧ b = .slice (some ⟨w.heap.size, 0, none⟩) (t + u) (t + 24) ∧ w3.rowIs T 35 24 (tmpAt n c) ∧ w3.rowIs w.heap.size 5 (t + 24) (bufAt n t c u) ∧ Below w.heap.size w w3) (fun _ j _ => 24 - (intOf j).toNat)
            case atStart => exact ⟨0, J, Nat.zero_le _, rfl, rfl, rfl, hT, hN', hb2⟩
            case round =>
              clear hT hN' hb2 hT0 hT1 hN0 hb0
              obtain ⟨u, Q, hu, HQ, rfl, rfl, hT, hN, hb3⟩ := hrel
              have HQ' : Hid (Q = J + u) := HQ
              have hQ1 : Q ≤ 24 := by omega
              have hsz3 := hT.lt
              by_cases hlt3 : Q < 24
              · have c1 : wr.cell? ⟨T, Q, none⟩ = some (.int .u8 (48 + n / 10 ^ (c - 1 - u) % 10)) := by
                  rw [hT.cell hlt3]
                  unfold tmpAt
                  rw [if_pos (by omega), show 23 - Q = c - 1 - u by omega]
                have c2 := hN.cell (i := t + u) (by omega)
                have f2 := hN.frozen (t + u)
                have hle : t + u + 1 ≤ t + 24 := by omega
                have hsz4 : w.heap.size < wr.heap.size := by omega
                have HQ3 : Hid (Q + 1 = J + (u + 1)) := by show Q + 1 = J + (u + 1); omega
                have hu1 : u + 1 ≤ c := by omega
                clear HQ hJ
                go_wp2
                go_roundw
                case rel =>
                  refine ⟨u + 1, Q + 1, hu1, HQ3.out, by go_num, rfl, ?_, ?_, ?_⟩
                  · exact (hT.setOther (by exact hTN) _).alloc _
                  · exact ((hN.set (t + u) _).congr (fun i _ => bufAt_step n t c u i)).alloc _
                  · exact (hb3.setCell (by exact Nat.le_refl _) _).alloc (by simp [World.setCell]; omega) _
                case measure => simp [intOf]; omega
              · obtain rfl : u = c := by omega
                have hcv := conv34 n t u (t + 24) w.heap.size wr hN hc24
                have hex : exV (bt (strOf n t u)) (strOf n t u).size = n := by
                  rw [strOf_size, exV_congr _ (Bf n t u) _ (fun i hi => strOf_bt n t u i hi), exV_all n t u HX0.out]
                have hdg : ∀ j, j < (strOf n t u).size → 48 ≤ bt (strOf n t u) j ∧ bt (strOf n t u) j ≤ 57 := by
                  intro j hj
                  rw [strOf_size] at hj
                  rw [strOf_bt n t u j hj]
                  exact Bf_dig n t u j
                have hss : (strOf n t u).size ≤ 2097152 := by rw [strOf_size]; omega
                have HE : Hid (wrap64 (exV (bt (strOf n t u)) (strOf n t u).size) = n) := by
                  show wrap64 _ = n
                  rw [hex]; unfold wrap64; omega
                clear hex hT hN HQ hJ
                go_wp2_with fail
                refine (parse14_yes _ _ hss hdg).mono ?_
                rintro e wr ⟨rfl, rfl⟩
                rw [HE.out]
                go_wp2_with fail
                go_ret
                exact ⟨by simp, hb3⟩

theorem law8_out (n k : Int) (w : World) (h : n < 0 ∨ (0 ≤ n ∧ k < 0) ∨ (0 ≤ n ∧ 0 ≤ k ∧ 4096 < k)) :
    Calls Try.prog 8 #[.int .i64 n, .int .i64 k] w fun e w' => e = .returned (.bool true) ∧ Below w.heap.size w w' := by
  rcases h with h | ⟨h, h2⟩ | ⟨h, h2, h3⟩
  · have g1 : decide (n < 0) = true := by simpa using h
    go_enter Try.func8, Try.ntmps8
    go_wp2
    go_ret
    exact ⟨rfl, Below.refl _ _⟩
  · have g1 : decide (n < 0) = false := by simp; omega
    have g2 : decide (k < 0) = true := by simpa using h2
    go_enter Try.func8, Try.ntmps8
    go_wp2
    go_ret
    exact ⟨rfl, Below.refl _ _⟩
  · have g1 : decide (n < 0) = false := by simp; omega
    have g2 : decide (k < 0) = false := by simp; omega
    have g3 : decide (4096 < k) = true := by simpa using h3
    go_enter Try.func8, Try.ntmps8
    go_wp2
    go_ret
    exact ⟨rfl, Below.refl _ _⟩

theorem law8_any (n k : Int) (w : World) (h1 : n ≤ 9223372036854775807) :
    Calls Try.prog 8 #[.int .i64 n, .int .i64 k] w fun e w' => e = .returned (.bool true) ∧ Below w.heap.size w w' := by
  by_cases h : n < 0 ∨ (0 ≤ n ∧ k < 0) ∨ (0 ≤ n ∧ 0 ≤ k ∧ 4096 < k)
  · exact law8_out n k w h
  · obtain ⟨q, rfl⟩ := Int.eq_ofNat_of_zero_le (show 0 ≤ k by omega)
    exact law8 n q w (by omega) h1 (by omega)
end Go.Proofs.Qxb6600761a
