/-
  The walks of ZZNewClock and ZZSetReplica.
-/
import Derived.Test.Qxb6600760aMaps
import Derived.Test.Qxb6600760aLeaf
import Derived.Carry
namespace Go.Proofs.Qxb6600760a
open Go.RowKit

theorem clock21 (w : World) :
    Calls Try.prog 21 #[] w fun e w' => e = .returned (.pointer (some ⟨w.heap.size + 2, 0, none⟩)) ∧ w' = ((w.alloc (.map #[] 0)).alloc (.map #[] 0)).alloc (.cells #[.map (some w.heap.size), .map (some (w.heap.size + 1))] 61) := by
  have hmm := @run_makeMap Try.prog
  go_enter Try.func21, Try.ntmps21
  go_wp2
  go_ret
  exact ⟨rfl, rfl⟩

theorem Row.mono {w w' : World} {a : Option Addr} {n : Nat} {F : Nat → Int} (h : Row w a n F) (hsz : w.heap.size ≤ w'.heap.size) (hb : ∀ b o, a = some ⟨b, o, none⟩ → b < w.heap.size → w'.heap[b]? = w.heap[b]?) : Row w' a n F := by
  intro i hi
  obtain ⟨b, o, rfl, hlt, hc⟩ := h i hi
  exact ⟨b, o, rfl, by omega, by rw [← hc]; exact World.cell?_of_block (w := w) (hb b o rfl hlt)⟩

def MM (M1 M2 : Nat) (k : Nat) : Prop := k = M1 ∨ k = M2

/-- what ZZSetReplica leaves: the run's entry, the spans' entry, all else as it was -/
def Laid (M1 M2 : Nat) (r c : Int) (n : Nat) (F L : Nat → Int) (w w' : World) : Prop :=
  MapIs w' M1 r (if c = 0 then none else some (.int .u64 c)) ∧ Only (MM M1 M2) w w' ∧
      ∃ S, w.heap.size ≤ S ∧ S < w'.heap.size ∧ w'.rowIs S 65 (n * 2) (spanTo F L n) ∧ MapIs w' M2 r (if n = 0 then none else some (.slice (some ⟨S, 0, none⟩) n n))

set_option maxHeartbeats 1000000 in
theorem set22 (C M1 M2 : Nat) (r c : Int) (a a' : Option Addr) (n cp cp' : Nat) (F L : Nat → Int) (w : World) (hn : n ≤ 1048576)
    (h0 : w.cell? ⟨C, 0, none⟩ = some (.map (some M1))) (h1 : w.cell? ⟨C, 1, none⟩ = some (.map (some M2))) (hC : C < w.heap.size) (n1 : C ≠ M1) (_n2 : C ≠ M2) (n3 : M1 ≠ M2)
    (m1 : MapIs w M1 r none) (m2 : MapIs w M2 r none)
    (hF : Row w a n F) (hL : Row w a' n L) (na : ∀ b o, a = some ⟨b, o, none⟩ → b ≠ M1 ∧ b ≠ M2) (na' : ∀ b o, a' = some ⟨b, o, none⟩ → b ≠ M1 ∧ b ≠ M2) :
    Calls Try.prog 22 #[.pointer (some ⟨C, 0, none⟩), .int .u64 r, .int .u64 c, .slice a n cp, .slice a' n cp'] w fun e w' => e = .returned (.tuple #[]) ∧ Laid M1 M2 r c n F L w w' := by
  have lt1 := m1.lt
  have lt2 := m2.lt
  obtain ⟨w1, hrun, hm1, ho1, hs1⟩ : ∃ w1, (if c = 0 then (Builtin.delete_ #[58, 37] 0 #[.map (some M1), .int .u64 r]).run Try.prog w = .ok (.tuple #[]) w1 else (Instr.mapUpdate 58 (.map (some M1)) (.int .u64 r) (.int .u64 c)).run Try.prog w = .ok () w1) ∧ MapIs w1 M1 r (if c = 0 then none else some (.int .u64 c)) ∧ Only (fun k => k = M1) w w1 ∧ w1.heap.size = w.heap.size := by
    by_cases hc : c = 0
    · simp only [hc, if_true]
      exact m1.drop Try.underlying58 Try.underlying37 37 0
    · simp only [hc, if_false]
      exact m1.store Try.underlying58 Try.underlying37 (.int .u64 c)
  have m2' : MapIs w1 M2 r none := m2.of_block (ho1.block M2 lt2 (by omega))
  have h1' : w1.cell? ⟨C, 1, none⟩ = some (.map (some M2)) := by rw [← h1]; exact ho1.cell hC n1
  have hF' : Row w1 a n F := hF.mono (by omega) (fun b o e hb => ho1.block b hb (na b o e).1)
  have hL' : Row w1 a' n L := hL.mono (by omega) (fun b o e hb => ho1.block b hb (na' b o e).1)
  by_cases hc : c = 0
  all_goals
    simp only [hc, if_true, if_false] at hrun hm1
    go_enter Try.func22, Try.ntmps22
    go_wp2_with fail
    refine (spans35 a a' n cp cp' F L _ hn hF' hL').mono ?_
    rintro e w2 ⟨rfl, hr, hb, hsz⟩
    rw [hs1] at hr
    have hm1' : MapIs w2 M1 r (if c = 0 then none else some (.int .u64 c)) := by
      simp only [hc, if_true, if_false]
      exact hm1.of_block (hb.block M1 (by omega))
    have ho2 : Only (MM M1 M2) w w2 := (ho1.mono (fun k hk => Or.inl hk)).trans (Only.of_below hb)
    have m22 : MapIs w2 M2 r none := m2'.of_block (hb.block M2 (by omega))
    have h12 : w2.cell? ⟨C, 1, none⟩ = some (.map (some M2)) := by rw [← h1']; exact hb.cell (by show C < _; omega)
    clear hrun hF' hL' m2' h1' hF hL na na' h0 h1 m1 m2 hm1
    by_cases hn0 : n = 0
    · obtain ⟨w3, hrun, hm3, ho3, hs3⟩ := m22.drop Try.underlying59 Try.underlying37 37 0
      have hfin : Laid M1 M2 r c n F L w w3 := by
        refine ⟨hm1'.of_block (ho3.block M1 (by omega) n3), ho2.trans (ho3.mono (fun k hk => Or.inr hk)), w.heap.size, by omega, by omega, hr.of_block (ho3.block _ (by omega) (by omega)), ?_⟩
        rw [if_pos hn0]; exact hm3
      clear hm1' ho2 m22 hr hb ho3 hm3 ho1
      have hz : ((n : Int) == 0) = true := by simp [hn0]
      go_wp2
      go_end0
      exact ⟨rfl, hfin⟩
    · obtain ⟨w3, hrun, hm3, ho3, hs3⟩ := m22.store Try.underlying59 Try.underlying37 (.slice (some ⟨w.heap.size, 0, none⟩) n n)
      have hfin : Laid M1 M2 r c n F L w w3 := by
        refine ⟨hm1'.of_block (ho3.block M1 (by omega) n3), ho2.trans (ho3.mono (fun k hk => Or.inr hk)), w.heap.size, by omega, by omega, hr.of_block (ho3.block _ (by omega) (by omega)), ?_⟩
        rw [if_neg hn0]; exact hm3
      clear hm1' ho2 m22 hr hb ho3 hm3 ho1
      have hz : ((n : Int) == 0) = false := by simp [hn0]
      go_wp2
      go_end0
      exact ⟨rfl, hfin⟩
end Go.Proofs.Qxb6600760a
