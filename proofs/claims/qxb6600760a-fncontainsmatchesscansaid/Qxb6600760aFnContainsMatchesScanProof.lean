/-
  The statement 'Rows.FnContainsMatchesScanSaid', out of the walk.
-/
import Derived.Test.Qxb6600760aRows
import Derived.WalkKit
import Derived.ProofKit
import Derived.OpenShut
import Derived.ShutString
import Derived.ChangeOld
import Derived.Below
import Derived.Deep.SlicePairs
import Derived.Test.Qxb6600760aScan
import Derived.Test.Qxb6600760aHead
namespace Go.Proofs.Qxb6600760a.fnContainsMatchesScan
open Go.ChangeShapes Go.WideShapes Go.ChangeAt Go.RowKit
open Go.ChangeMaps (open_string shut_string)
set_option linter.unusedVariables false

theorem own : ownKnob Try.prog.godebug = none := by kernel_rfl
theorem laidOut : laidOutB Try.prog = true := by kernel_rfl

/-! ### THE ROW's STEP: WRITTEN OUT: LEAVE IT -/
set_option maxRecDepth 100000 in
theorem lifted (os : Os) (started : os.Started) (H : Type) (enc : TypeId × Value → H) :
    ReturnsInHanded {} Try.checked os 6 .any (Rows.fnContainsMatchesScanSpec.pre6 enc Try.prog Try.f6 Rows.fnContainsMatchesScanRow.domain false) (Rows.fnContainsMatchesScanSpec.post enc Try.prog Try.f6 false true false false) := by
  refine returnsInHanded_of_change (C := Try.checked) own started (by kernel_rfl) Try.func6
    (ChangeSpec.witness6 (enc := enc) (C := Try.checked) false ⟨#[], #[.int .u64 0, .int .u64 0, .slice none 0 0, .int .u64 0, .int .u64 0], []⟩ 8 (by kernel_rfl) (by kernel_rfl) (by kernel_rfl) (by kernel_rfl)) ?_
  intro W base args ds gs before hval0 hW hcnd _
  have hval : ∀ (j : Nat) t v, Try.f6.params[j]? = some t → args[j]? = some v → Value.okWide Try.prog W .any base t v := hval0
  have hW' := hW
  obtain ⟨p, q, hA0, hV, rfl, hfz, hnd⟩ := hW
  have hA : DataW.TrodAll enc Try.prog W 0 (fun _ => true) true Try.f6.params.toList args.toList ds p := hA0
  rw [Try.params6] at hA hval
  obtain ⟨v0, vs0, d0, ds0, p0, q0, hargs, rfl, rfl, h0, r0⟩ := trodAll_cons hA
  obtain ⟨v1, vs1, d1, ds1, p1, q1, rfl, rfl, rfl, h1, r1⟩ := trodAll_cons r0
  obtain ⟨v2, vs2, d2, ds2, p2, q2, rfl, rfl, rfl, h2, r2⟩ := trodAll_cons r1
  obtain ⟨v3, vs3, d3, ds3, p3, q3, rfl, rfl, rfl, h3, r3⟩ := trodAll_cons r2
  obtain ⟨v4, vs4, d4, ds4, p4, q4, rfl, rfl, rfl, h4, r4⟩ := trodAll_cons r3
  obtain ⟨rfl, rfl, rfl⟩ := trodAll_nil r4
  obtain rfl : args = #[v0, v1, v2, v3, v4] := by cases args; simp_all
  obtain ⟨rfl, rfl⟩ := trodVars_none hV
  obtain ⟨a0, rfl, rfl, rfl, w0⟩ := open_int Try.underlying31 (hval 0 31 v0 rfl rfl) h0
  obtain ⟨a1, rfl, rfl, rfl, w1⟩ := open_int Try.underlying31 (hval 1 31 v1 rfl rfl) h1
  obtain ⟨a2, len2, cap2, rfl⟩ := okWide_slice Try.underlying22 (hval 2 22 v2 rfl rfl)
  have k2 := h2
  have lt2 : ∀ x ∈ p2, x.block < W.heap.size := by obtain ⟨m, hm⟩ := k2; exact DataW.trod_lt m _ _ _ hm
  obtain ⟨F, L, hlen2, w2, wf2⟩ : ∃ F L : Nat → Int, len2 ≤ maxLen ∧ Pairs W a2 len2 F L ∧ ∀ i, i < len2 → (Lit.int .u64 (F i)).wf = true ∧ (Lit.int .u64 (L i)).wf = true := by
    obtain ⟨fuel, hf⟩ := h2
    rcases Go.Deep.open_slice_pairs Try.underlying22 Try.underlying51 (by kernel_rfl) rfl rfl (by kernel_rfl) (by kernel_rfl) hf with ⟨hcs, _⟩ | ⟨x, l, c, m, n, V0, V1, D0, D1, P0, P1, hcs, _, hl, hm, hmm, _, hcell⟩
    · simp [Value.cells] at hcs
      obtain ⟨rfl, rfl, rfl⟩ := hcs
      exact ⟨fun _ => 0, fun _ => 0, Nat.zero_le _, fun i hi => by omega, fun i hi => by omega⟩
    · simp [Value.cells] at hcs
      obtain ⟨rfl, rfl, rfl⟩ := hcs
      simp only [if_true] at hmm
      have each : ∀ i, i < len2 → ∃ q : Int × Int, V0 i = .int .u64 q.1 ∧ V1 i = .int .u64 q.2 ∧ (Lit.int .u64 q.1).wf = true ∧ (Lit.int .u64 q.2).wf = true := by
        intro i hi
        obtain ⟨_, _, t0, t1⟩ := hcell i (by omega)
        obtain ⟨f, e0, _, wf0⟩ := DataW.trod_int Try.underlying31 t0
        obtain ⟨g, e1, _, wf1⟩ := DataW.trod_int Try.underlying31 t1
        simp at e0 e1
        exact ⟨(f, g), e0, e1, wf0, wf1⟩
      obtain ⟨q, hq⟩ := Go.Deep.choose_lt each
      refine ⟨fun i => (q i).1, fun i => (q i).2, by omega, fun i hi => ?_, fun i hi => ⟨(hq i hi).2.2.1, (hq i hi).2.2.2⟩⟩
      obtain ⟨k0, k1, _, _⟩ := hcell i (by omega)
      obtain ⟨b, off, spot⟩ := x
      have hspot : spot = none := by simpa [Addr.add] using World.cell?_spot (hcell 0 (by omega)).1
      subst hspot
      rw [add_plain] at k0 k1
      refine ⟨b, off, rfl, ?_, by rw [k0, (hq i hi).1], by rw [Nat.add_assoc, k1, (hq i hi).2.1]⟩
      simp only [World.cell?] at k0
      rcases Nat.lt_or_ge b W.heap.size with h | h
      · exact h
      · rw [Array.getElem?_eq_none h] at k0; simp at k0
  obtain ⟨a3, rfl, rfl, rfl, w3⟩ := open_int Try.underlying31 (hval 3 31 v3 rfl rfl) h3
  obtain ⟨a4, rfl, rfl, rfl, w4⟩ := open_int Try.underlying31 (hval 4 31 v4 rfl rfl) h4
  clear hA0 hval0
  refine (law6 a0 a1 a2 len2 cap2 F L a3 a4 W hlen2 (bounds_u64 w4).1 w2).mono fun e W' ⟨he, bel⟩ => ?_
  subst he
  exact ⟨_, rfl, _, _, _, [], _, [], hW', trodAll_mk1 (shut_bool Try.underlying4 _), (trodAll_cons_mk (shut_int Try.underlying31 w0) (trodAll_cons_mk (shut_int Try.underlying31 w1) (trodAll_cons_mk (Below.trod laidOut (by kernel_rfl) (of_decide_eq_true (by kernel_rfl)) k2 bel lt2) (trodAll_cons_mk (shut_int Try.underlying31 w3) (trodAll_cons_mk (shut_int Try.underlying31 w4) trodAll_mk0))))), rfl, bel.frame _, fun h => by cases h⟩

/-- the row's closed facts, one by one (those on the dump's head: Head) -/
theorem closed : joinedFacts Try.prog 6 Try.f6 Rows.fnContainsMatchesScanSpec Rows.fnContainsMatchesScanRow = true := by
  unfold joinedFacts
  refine andT (andT (andT (andT (andT (andT (andT (andT (andT (andT (andT (andT (andT (andT (andT (andT (andT (andT (andT (andT (andT (andT (andT (andT (andT (andT (andT (andT (andT (andT (andT ?a1 ?a2) ?a3) ?a4) ?a5) ?a6) ?a7) ?a8) ?a9) ?a10) ?a11) ?a12) ?a13) ?a14) ?a15) ?a16) ?a17) ?a18) ?a19) ?a20) ?a21) ?a22) ?a23) ?a24) ?a25) ?a26) ?a27) ?a28) ?a29) ?a30) ?a31) ?a32
  case a26 => exact may_is
  case a27 => exact eqT lifts_is.symm
  case a28 => rw [make_is]; kernel_rfl
  all_goals kernel_rfl

theorem over : Rows.fnContainsMatchesScanRow.holds Try.pinned (OpenSpec.ofChange Rows.fnContainsMatchesScanSpec) :=
  OpenClaim.holds_of_wide 6 Try.f6 rfl rfl rfl rfl rfl rfl rfl ⟨rfl, rfl, rfl, rfl, rfl⟩ rfl rfl rfl rfl rfl (by kernel_rfl) Try.func6 closed
    (of_decide_eq_true (by kernel_rfl)) (by unfold Func.isWrapper; first | (rw [if_pos (by decide +kernel)]; kernel_rfl) | (rw [if_neg (by decide +kernel)]; exact ⟨rfl, rfl⟩))
    (fun os started H enc _ => lifted os started H enc)

/-- ████ THE STATEMENT ████ -/
theorem proved : Rows.FnContainsMatchesScanSaid := over
end Go.Proofs.Qxb6600760a.fnContainsMatchesScan

