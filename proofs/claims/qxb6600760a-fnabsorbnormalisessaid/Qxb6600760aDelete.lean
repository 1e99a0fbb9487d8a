/-
  slices.Delete over spans, from the head.
-/
import Derived.Test.Qxb6600760aMaps
import Derived.Test.Qxb6600760aLeaf2
import Derived.Deep.RegionLaw
import Derived.Lib.SliceRun
namespace Go.Proofs.Qxb6600760a
open Go.RowKit

theorem zero65 (w : World) : (zeroValue 65).run Try.prog w = .ok (.agg #[.int .u64 0, .int .u64 0]) w := by kernel_rfl

theorem setCells_only (b : Nat) : ∀ (vs : List Value) (o : Nat) (w : World), Only (fun k => k = b) w (w.setCells b o vs) ∧ (w.setCells b o vs).heap.size = w.heap.size
  | [], _, w => ⟨Only.refl _ _, rfl⟩
  | v :: r, o, w => by
    obtain ⟨h1, h2⟩ := setCells_only b r (o + 1) (w.setCell ⟨b, o, none⟩ v)
    have hs : (w.setCell ⟨b, o, none⟩ v).heap.size = w.heap.size := by simp [World.setCell]
    have h0 : Only (fun k => k = b) w (w.setCell ⟨b, o, none⟩ v) := ⟨rfl, rfl, rfl, by omega, fun k _ hn => Below.heap_setCell _ _ _ _ hn⟩
    exact ⟨h0.trans h1, by rw [World.setCells]; omega⟩

/-- clear over a slice of spans -/
theorem clear53 (w : World) (ty : TypeId) (b o n c : Nat) (hn : 0 < n) (hc : ∀ j, j < n * 2 → (w.cell? ⟨b, o + j, none⟩).isSome = true) (hf : ∀ j, j < n * 2 → w.frozen? ⟨b, o + j, none⟩ = false) :
    (Builtin.clear_ #[53] ty #[.slice (some ⟨b, o, none⟩) n c]).run Try.prog w = .ok (.tuple #[]) (w.setCells b o (List.replicate (n * 2) (.int .u64 0))) := by
  have hzc : (Builtin.zeroCells (Value.agg #[.int .u64 0, .int .u64 0]).cells n).toList = List.replicate (n * 2) (.int .u64 0) := by
    show (Builtin.zeroCells #[.int .u64 0, .int .u64 0] n).toList = _
    simp only [Builtin.zeroCells]
    apply List.ext_getElem
    · simp
    · intro i h1 h2
      have h3 : i % 2 = 0 ∨ i % 2 = 1 := by omega
      rcases h3 with h3 | h3 <;> simp [h3]
  have hst := run_storeCells_cells (P := Try.prog) b o (List.replicate (n * 2) (.int .u64 0)) 0 w (by simpa using hc) (by simpa using hf) (by intro v hv'; rw [List.eq_of_mem_replicate hv']; rfl)
  simp only [Nat.add_zero] at hst
  obtain ⟨m, rfl⟩ : ∃ m, n = m + 1 := ⟨n - 1, by omega⟩
  simp [Builtin.clear_, run_underlying Try.underlying53, hzc, hst]

set_option maxHeartbeats 2000000 in
theorem delete41 (S n k : Nat) (f : Nat → Value) (hf1 : ∀ i, (f i).oneCell' = true) (w : World) (hn : n ≤ 1048576) (hk0 : 0 < k) (hkn : k < n) (hr : w.rowIs S 65 (n * 2) f) :
    Calls Try.prog 41 #[.slice (some ⟨S, 0, none⟩) n n, .int .i64 0, .int .i64 k] w fun e w' => e = .returned (.slice (some ⟨S, 0, none⟩) (n - k) n) ∧
      Only (fun b => b = S) w w' ∧ w'.heap.size = w.heap.size ∧ ∀ i, i < (n - k) * 2 → w'.cell? ⟨S, i, none⟩ = some (f (k * 2 + i)) := by
  obtain ⟨i0, hi0, hzz⟩ := Option.map_eq_some_iff.1 Try.info65
  simp only [Prod.mk.injEq] at hzz
  obtain ⟨_, hz1, _⟩ := hzz
  obtain ⟨news, hnews⟩ : ∃ news, news = (List.range ((n - k) * 2)).map fun t => f (k * 2 + t) := ⟨_, rfl⟩
  have hlen : news.length = (n - k) * 2 := by rw [hnews]; simp
  have hget : ∀ (t : Nat) (ht : t < news.length), news[t] = f (k * 2 + t) := by intro t ht; subst hnews; simp
  have s1 : Hid (news.length = (n - k) * 2) := hlen
  have hsrc : Hid (∀ t u, news[t]? = some u → w.drew.cell? ((⟨S, k * 2, none⟩ : Addr).add t) = some u) := by
    intro t u hu
    obtain ⟨ht, hu⟩ := List.getElem?_eq_some_iff.1 hu
    rw [Addr.add_lit, ← hu, hget]
    exact hr.cell (by omega)
  have s2 : Hid (∀ u ∈ news, u.oneCell' = true) := by
    intro u hu
    rw [hnews] at hu
    obtain ⟨x, _, rfl⟩ := List.mem_map.1 hu
    exact hf1 _
  have s3 : Hid (∀ t, t < news.length → (w.drew.cell? ⟨S, 0 + 0 * 2 + t, none⟩).isSome = true ∧ w.drew.frozen? ⟨S, 0 + 0 * 2 + t, none⟩ = false) := by
    intro t ht
    rw [show 0 + 0 * 2 + t = t by omega]
    exact ⟨by show (w.cell? _).isSome = true; rw [hr.cell (by omega)]; rfl, hr.frozen _⟩
  obtain ⟨W1, hW1⟩ : ∃ W1, W1 = w.drew.setCells S (0 + 0 * 2) news := ⟨_, rfl⟩
  have hin : ∀ j, j < n * 2 → (w.drew.cell? ⟨S, j, none⟩).isSome = true := by
    intro j hj
    show (w.cell? _).isSome = true
    rw [hr.cell hj]; rfl
  have c1 : ∀ j, j < (n - k) * 2 → W1.cell? ⟨S, j, none⟩ = some (f (k * 2 + j)) := by
    intro j hj
    have := World.cell?_setCells_in S news (0 + 0 * 2) w.drew (fun t ht => by rw [show 0 + 0 * 2 + t = t by omega]; exact hin t (by omega)) j (by omega)
    rw [show 0 + 0 * 2 + j = j by omega, hget] at this
    rw [hW1]; exact this
  have c2 : ∀ j, (n - k) * 2 ≤ j → j < n * 2 → (W1.cell? ⟨S, j, none⟩).isSome = true := by
    intro j hj hj2
    rw [hW1, World.cell?_setCells_out S news _ _ _ (fun _ _ => Or.inr (by show _ ≤ j; omega))]
    exact hin j hj2
  have f1 : ∀ j, W1.frozen? ⟨S, j, none⟩ = false := by
    intro j
    rw [hW1, World.frozen?_setCells]
    exact hr.frozen j
  obtain ⟨W2, hW2⟩ : ∃ W2, W2 = W1.setCells S ((n - k) * 2) (List.replicate ((n - (n - k)) * 2) (.int .u64 0)) := ⟨_, rfl⟩
  have hcl : (Builtin.clear_ #[53] 0 #[.slice (some ⟨S, (n - k) * 2, none⟩) (n - (n - k)) (n - (n - k))]).run Try.prog W1 = .ok (.tuple #[]) W2 := by
    rw [hW2]
    exact clear53 W1 0 S _ _ _ (by omega) (fun j hj => c2 _ (by omega) (by omega)) (fun j _ => f1 _)
  have o1 := setCells_only S news (0 + 0 * 2) w.drew
  rw [← hW1] at o1
  have o2 := setCells_only S (List.replicate ((n - (n - k)) * 2) (Value.int .u64 0)) ((n - k) * 2) W1
  rw [← hW2] at o2
  have o0 : Only (fun b => b = S) w W1 := ⟨o1.1.os, o1.1.tape, o1.1.output, o1.1.size, o1.1.block⟩
  have hfin : Hid (Only (fun b => b = S) w W2 ∧ W2.heap.size = w.heap.size ∧ ∀ i, i < (n - k) * 2 → W2.cell? ⟨S, i, none⟩ = some (f (k * 2 + i))) := by
    refine ⟨o0.trans o2.1, o2.2.trans o1.2, fun j hj => ?_⟩
    rw [hW2, World.cell?_setCells_out S _ _ _ _ (fun _ _ => Or.inl hj)]
    exact c1 j hj
  have hW : Hid (W1 = w.drew.setCells S (0 + 0 * 2) news) := hW1
  clear hW1 hr hget hnews hlen hin c1 c2 f1 hW2 o1 o2 o0
  have hle : k ≤ n := by omega
  have hne : ¬ n = k := by omega
  go_enter Try.func41, Try.ntmps41
  go_wp2_with fail
  go_region_law (refine step_append_room rfl (.tmp 22) (.tmp 25) 53 rfl 65 i0 2 Try.underlying53 hi0 hz1 S 0 0 n (by simp [Act.eval, Act.put]) ⟨S, k * 2, none⟩ (n - k) (n - k) news (by simp [Act.eval, Act.put]) s1.out hsrc.out s2.out (by omega) s3.out ?_; rw [← hW.out])
  go_wp2
  go_ret
  exact ⟨rfl, hfin.out⟩
end Go.Proofs.Qxb6600760a
