/-
  The statement 'Rows.FnAllDigitsDecimalRenderingSaid', out of the walk.
-/
import Derived.Test.Qxb6001216aRows
import Derived.WalkKit
import Derived.ProofKit
import Derived.OpenShut
import Derived.ShutString
import Derived.ChangeOld
import Derived.Below
import Derived.Test.Qxb6001216aRender
import Derived.Test.Qxb6001216aHead
namespace Go.Proofs.Qxb6001216a.fnAllDigitsDecimalRendering
open Go.ChangeShapes Go.WideShapes Go.ChangeAt Go.RowKit
open Go.ChangeMaps (open_string shut_string)
set_option linter.unusedVariables false      -- a walk need not use every 'w<i>' (that an integer argument fits its kind)

theorem own : ownKnob Try.prog.godebug = none := by kernel_rfl

/-! ### STEP 1: THE WALK: the Go text returns true. 'Below w.heap.size w w'': nothing that was there has turned. Part the cases AHEAD of 'go_enter' where a test parts the walk; take each callee by a contract of your own. -/
theorem walk (a0 : Int) (a1 : Int) (a2 : Int) (w0 : (Lit.int .u64 a0).wf = true) (w1 : (Lit.int .u32 a1).wf = true) (w2 : (Lit.int .u8 a2).wf = true) (w : World) :
    Calls Try.prog 4 #[.int .u64 a0, .int .u32 a1, .int .u8 a2] w fun e w' => e = .returned (.bool true) ∧ Below w.heap.size w w' := by
  exact law4 a0 a1 a2 w (bounds_u64 w0).1 (bounds_u64 w0).2 (bounds_u32 w1).1 (bounds_u32 w1).2 (bounds_u8 w2).1 (bounds_u8 w2).2

/-! ### THE ROW's STEP: WRITTEN OUT: LEAVE IT -/
set_option maxRecDepth 100000 in
theorem lifted (os : Os) (started : os.Started) (H : Type) (enc : TypeId × Value → H) :
    ReturnsInHanded {} Try.checked os 4 .any (Rows.fnAllDigitsDecimalRenderingSpec.pre6 enc Try.prog Try.f4 Rows.fnAllDigitsDecimalRenderingRow.domain false) (Rows.fnAllDigitsDecimalRenderingSpec.post enc Try.prog Try.f4 false true false false) := by
  refine returnsInHanded_of_change (C := Try.checked) own started (by kernel_rfl) Try.func4
    (ChangeSpec.witness6 (enc := enc) (C := Try.checked) false ⟨#[], #[.int .u64 0, .int .u32 0, .int .u8 0], []⟩ 8 (by kernel_rfl) (by kernel_rfl) (by kernel_rfl) (by kernel_rfl)) ?_
  intro W base args ds gs before hval0 hW hcnd _
  have hval : ∀ (j : Nat) t v, Try.f4.params[j]? = some t → args[j]? = some v → Value.okWide Try.prog W .any base t v := hval0
  have hW' := hW
  obtain ⟨p, q, hA0, hV, rfl, hfz, hnd⟩ := hW
  have hA : DataW.TrodAll enc Try.prog W 0 (fun _ => true) true Try.f4.params.toList args.toList ds p := hA0
  rw [Try.params4] at hA hval
  obtain ⟨v0, vs0, d0, ds0, p0, q0, hargs, rfl, rfl, h0, r0⟩ := trodAll_cons hA
  obtain ⟨v1, vs1, d1, ds1, p1, q1, rfl, rfl, rfl, h1, r1⟩ := trodAll_cons r0
  obtain ⟨v2, vs2, d2, ds2, p2, q2, rfl, rfl, rfl, h2, r2⟩ := trodAll_cons r1
  obtain ⟨rfl, rfl, rfl⟩ := trodAll_nil r2
  obtain rfl : args = #[v0, v1, v2] := by cases args; simp_all
  obtain ⟨rfl, rfl⟩ := trodVars_none hV
  obtain ⟨a0, rfl, rfl, rfl, w0⟩ := open_int Try.underlying24 (hval 0 24 v0 rfl rfl) h0
  obtain ⟨a1, rfl, rfl, rfl, w1⟩ := open_int Try.underlying25 (hval 1 25 v1 rfl rfl) h1
  obtain ⟨a2, rfl, rfl, rfl, w2⟩ := open_int Try.underlying5 (hval 2 5 v2 rfl rfl) h2
  clear hA0 hval0
  refine (walk a0 a1 a2 w0 w1 w2 W).mono fun e W' ⟨he, hg⟩ => ?_
  subst he
  exact ⟨_, rfl, _, _, _, [], _, [], hW', (trodAll_cons_mk (shut_bool Try.underlying4 _) trodAll_mk0), (trodAll_cons_mk (shut_int Try.underlying24 w0) (trodAll_cons_mk (shut_int Try.underlying25 w1) (trodAll_cons_mk (shut_int Try.underlying5 w2) trodAll_mk0))), rfl, hg.frame _, fun h => by cases h⟩

/-- the row's closed facts, one by one (those on the dump's head: Head) -/
theorem closed : joinedFacts Try.prog 4 Try.f4 Rows.fnAllDigitsDecimalRenderingSpec Rows.fnAllDigitsDecimalRenderingRow = true := by
  unfold joinedFacts
  refine andT (andT (andT (andT (andT (andT (andT (andT (andT (andT (andT (andT (andT (andT (andT (andT (andT (andT (andT (andT (andT (andT (andT (andT (andT (andT (andT (andT (andT (andT (andT ?a1 ?a2) ?a3) ?a4) ?a5) ?a6) ?a7) ?a8) ?a9) ?a10) ?a11) ?a12) ?a13) ?a14) ?a15) ?a16) ?a17) ?a18) ?a19) ?a20) ?a21) ?a22) ?a23) ?a24) ?a25) ?a26) ?a27) ?a28) ?a29) ?a30) ?a31) ?a32
  case a26 => exact may_is
  case a27 => exact eqT lifts_is.symm
  case a28 => rw [make_is]; kernel_rfl
  all_goals kernel_rfl

theorem over : Rows.fnAllDigitsDecimalRenderingRow.holds Try.pinned (OpenSpec.ofChange Rows.fnAllDigitsDecimalRenderingSpec) :=
  OpenClaim.holds_of_wide 4 Try.f4 rfl rfl rfl rfl rfl rfl rfl ⟨rfl, rfl, rfl, rfl, rfl⟩ rfl rfl rfl rfl rfl (by kernel_rfl) Try.func4 closed
    (of_decide_eq_true (by kernel_rfl)) (by unfold Func.isWrapper; first | (rw [if_pos (by decide +kernel)]; kernel_rfl) | (rw [if_neg (by decide +kernel)]; exact ⟨rfl, rfl⟩))
    (fun os started H enc _ => lifted os started H enc)

/-- ████ THE STATEMENT ████ -/
theorem proved : Rows.FnAllDigitsDecimalRenderingSaid :=
  over
end Go.Proofs.Qxb6001216a.fnAllDigitsDecimalRendering
