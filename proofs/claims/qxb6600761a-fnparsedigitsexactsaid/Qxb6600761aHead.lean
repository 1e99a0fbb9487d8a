/-
  Facts on the dump's head, a long string, which three of the row's closed facts read: asked of the kernel as they stand they cost gigabytes; here the head is first taken as a list of signs.
-/
import Derived.Test.Qxb6600761aRows
import Derived.WalkKit
import Derived.ProofKit
namespace Go.Proofs.Qxb6600761a
set_option maxRecDepth 100000
def cutWord : List Char := [Char.ofNat 99, Char.ofNat 117, Char.ofNat 116]

/-- the dump's head is a string of some signs, whose first word behind the harness's is 'cut' -/
theorem head_ex : ∃ l : List Char, Try.prog.initOrder = String.ofList l ∧ (behindMainWord (wordsSigns l)).head? = some cutWord :=
  ⟨_, rfl, by kernel_rfl⟩
theorem words_is : ∃ rest, behindMainWord (wordsSigns Try.prog.initOrder.toList) = cutWord :: rest := by
  obtain ⟨l, h1, h2⟩ := head_ex
  rw [h1, String.toList_ofList]
  cases h : behindMainWord (wordsSigns l) with
  | nil => rw [h] at h2; cases h2
  | cons a r => rw [h] at h2; exact ⟨r, by rw [Option.some.inj h2]⟩

theorem make_of (P : Program) (rest : List (List Char)) (h : behindMainWord (wordsSigns P.initOrder.toList) = cutWord :: rest) : P.make = some .cut := by
  unfold Program.make
  rw [h]
  rfl
theorem strip_of (rest : List (List Char)) : stripLifts liftWords (cutWord :: rest) = ([], cutWord :: rest) := by
  rfl
theorem lifts_of (P : Program) (rest : List (List Char)) (h : behindMainWord (wordsSigns P.initOrder.toList) = cutWord :: rest) : P.liftsFinal = false := by
  unfold Program.liftsFinal Program.headLifts
  rw [h, strip_of]
  rfl
theorem may_of (P : Program) (rest : List (List Char)) (h : behindMainWord (wordsSigns P.initOrder.toList) = cutWord :: rest) (h1 : P.laysLater = false) (h2 : P.bearsReflect = false) (h3 : P.doorFits [] = true) : P.mayEnter = true := by
  unfold Program.mayEnter
  rw [h]
  show (_ || _ || _) = true
  rw [strip_of, h1, h2, h3]
  rfl
theorem lays_later : Try.prog.laysLater = false := by kernel_rfl
theorem bears_reflect : Try.prog.bearsReflect = false := by kernel_rfl
theorem door_fits : Try.prog.doorFits [] = true := by kernel_rfl
theorem make_is : Try.prog.make = some .cut := by
  obtain ⟨r, h⟩ := words_is
  exact make_of _ r h
theorem lifts_is : Try.prog.liftsFinal = false := by
  obtain ⟨r, h⟩ := words_is
  exact lifts_of _ r h
theorem may_is : Try.prog.mayEnter = true := by
  obtain ⟨r, h⟩ := words_is
  exact may_of _ r h lays_later bears_reflect door_fits

theorem andT {a b : Bool} (h : a = true) (k : b = true) : (a && b) = true := by rw [h, k]; rfl
theorem eqT {a b : Bool} (h : a = b) : (a == b) = true := by rw [h]; cases b <;> rfl
end Go.Proofs.Qxb6600761a
