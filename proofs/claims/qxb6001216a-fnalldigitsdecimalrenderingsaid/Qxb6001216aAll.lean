/-
  The walks of allDigits and its wrapper.
-/
import Derived.Test.Qxb6001216aProg
import Derived.WalkKit
import Derived.Deep.OwnRows
namespace Go.Proofs.Qxb6001216a
open Go.RowKit

/-- byte k of s, as a number -/
def bt (s : ByteArray) (k : Nat) : Int := ((s.data.toList.getD k 0).toNat : Int)

/-- every byte of s is a digit -/
def Dig (s : ByteArray) : Prop := ∀ j, j < s.size → 48 ≤ bt s j ∧ bt s j ≤ 57

theorem bytes_of (s : ByteArray) (w : World) : ∃ cap w1, (convert 9 27 (.string s)).run Try.prog w = .ok (.slice (some ⟨w.heap.size, 0, none⟩) s.size cap) w1 ∧ (∀ j, j < s.size → w1.cell? ⟨w.heap.size, j, none⟩ = some (.int .u8 (bt s j))) ∧ Below w.heap.size w w1 := by
  refine ⟨_, _, run_bytes_of_string w 9 27 5 s Try.underlying9 Try.underlying27 Try.underlying5, fun j hj => ?_, (Below.refl _ _).drew.alloc (Nat.le_refl _) _⟩
  have h := World.cell?_alloc_mark w.drew (bytesRow s (grownCap w s.size 0 5)) 5 ((bytesRow s (grownCap w s.size 0 5)).size, (bytesRow s (grownCap w s.size 0 5)).size + 1) j
  have h2 : w.drew.heap.size = w.heap.size := rfl
  rw [h2] at h
  rw [h, bytesRow_at s _ j hj]
  unfold bt
  have h' : j < s.data.toList.length := by simpa using hj
  rw [List.getD_eq_getElem?_getD, List.getElem?_eq_getElem h']
  rfl

theorem not_empty (s : ByteArray) (h0 : 0 < s.size) : s.toList.isEmpty = false := by
  rw [ByteArray.toList_eq]
  have h1 : s.data.toList.length = s.size := Array.length_toList
  cases h : s.data.toList with
  | nil => rw [h] at h1; simp at h1; omega
  | cons a l => rfl

set_option maxHeartbeats 400000 in
theorem all27_yes (s : ByteArray) (w : World) (hs : s.size ≤ 1048576) (h0 : 0 < s.size) (hd : Dig s) :
    Calls Try.prog 27 #[.string s] w fun e w' => e = .returned (.bool true) ∧ Below w.heap.size w w' := by
  obtain ⟨cap, w1, hcv, hc, hb⟩ := bytes_of s w
  go_enter Try.func27, Try.ntmps27
  go_wp2
  go_loop [4, 8] (fun _ i => ∃ k : Nat, k ≤ s.size ∧ i = .int .i64 k) (fun _ i => s.size - (intOf i).toNat)
  case atStart => exact ⟨0, Nat.zero_le _, rfl⟩
  case round =>
    obtain ⟨k, hk, rfl⟩ := hrel
    by_cases hlt : k < s.size
    · have c1 := hc k hlt
      obtain ⟨b1, b2⟩ := hd k hlt
      go_wp2
      go_round
      case rel => exact ⟨k + 1, by omega, by go_num⟩
      case measure => simp [intOf]; omega
    · have hne := not_empty s h0
      go_wp2
      go_ret
      exact ⟨rfl, hb⟩

set_option maxHeartbeats 400000 in
theorem all27_no (s : ByteArray) (w : World) (hs : s.size ≤ 1048576) (hbad : ¬ Dig s) :
    Calls Try.prog 27 #[.string s] w fun e w' => e = .returned (.bool false) ∧ Below w.heap.size w w' := by
  obtain ⟨cap, w1, hcv, hc, hb⟩ := bytes_of s w
  go_enter Try.func27, Try.ntmps27
  go_wp2
  go_loop [4, 8] (fun _ i => ∃ k : Nat, k ≤ s.size ∧ i = .int .i64 k ∧ ∀ j, j < k → 48 ≤ bt s j ∧ bt s j ≤ 57) (fun _ i => s.size - (intOf i).toNat)
  case atStart => exact ⟨0, Nat.zero_le _, rfl, fun j hj => by omega⟩
  case round =>
    obtain ⟨k, hk, rfl, hg⟩ := hrel
    by_cases hlt : k < s.size
    · have c1 := hc k hlt
      by_cases b1 : 48 ≤ bt s k
      · have d1 : decide (bt s k < 48) = false := by simp; omega
        by_cases b2 : bt s k ≤ 57
        · have d2 : decide (57 < bt s k) = false := by simp; omega
          have hg' : ∀ j, j < k + 1 → 48 ≤ bt s j ∧ bt s j ≤ 57 := by
            intro j hj
            by_cases e : j = k
            · subst e; exact ⟨b1, b2⟩
            · exact hg j (by omega)
          go_wp2
          go_round
          case rel => exact ⟨k + 1, by omega, by go_num, hg'⟩
          case measure => simp [intOf]; omega
        · have d2 : decide (57 < bt s k) = true := by simp; omega
          go_wp2
          go_ret
          exact ⟨rfl, hb⟩
      · have d1 : decide (bt s k < 48) = true := by simp; omega
        go_wp2
        go_ret
        exact ⟨rfl, hb⟩
    · obtain rfl : k = s.size := by omega
      exact absurd hg hbad

theorem all14_yes (s : ByteArray) (w : World) (hs : s.size ≤ 1048576) (h0 : 0 < s.size) (hd : Dig s) :
    Calls Try.prog 14 #[.string s] w fun e w' => e = .returned (.bool true) ∧ Below w.heap.size w w' := by
  go_enter Try.func14, Try.ntmps14
  go_wp2_with fail
  refine (all27_yes s _ hs h0 hd).mono ?_
  rintro e w1 ⟨rfl, hb⟩
  go_wp2_with fail
  go_ret
  exact ⟨rfl, hb⟩

theorem all14_no (s : ByteArray) (w : World) (hs : s.size ≤ 1048576) (hd : ¬ Dig s) :
    Calls Try.prog 14 #[.string s] w fun e w' => e = .returned (.bool false) ∧ Below w.heap.size w w' := by
  go_enter Try.func14, Try.ntmps14
  go_wp2_with fail
  refine (all27_no s _ hs hd).mono ?_
  rintro e w1 ⟨rfl, hb⟩
  go_wp2_with fail
  go_ret
  exact ⟨rfl, hb⟩
end Go.Proofs.Qxb6001216a
