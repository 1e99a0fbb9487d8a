/-
  A map with at most one key, told by its block; the frame 'Only'. For the laws over a clock of one replica.
-/
import Derived.Test.Qxb6600760aProg
import Derived.WalkKit
import Derived.Maps.OwnSet
namespace Go.Proofs.Qxb6600760a
open Go.RowKit Go.ChangeMaps Go.MapKept

/-- the streams stand; no block has gone; below the old heap's end only the blocks in S may have turned -/
structure Only (S : Nat → Prop) (w w' : World) : Prop where
  os : w'.os = w.os
  tape : w'.tape = w.tape
  output : w'.output = w.output
  size : w.heap.size ≤ w'.heap.size
  block : ∀ k, k < w.heap.size → ¬ S k → w'.heap[k]? = w.heap[k]?

theorem Only.refl (S : Nat → Prop) (w : World) : Only S w w := ⟨rfl, rfl, rfl, Nat.le_refl _, fun _ _ _ => rfl⟩
theorem Only.trans {S : Nat → Prop} {a b c : World} (h : Only S a b) (k : Only S b c) : Only S a c :=
  ⟨k.os.trans h.os, k.tape.trans h.tape, k.output.trans h.output, Nat.le_trans h.size k.size, fun i hi hs => (k.block i (Nat.lt_of_lt_of_le hi h.size) hs).trans (h.block i hi hs)⟩
theorem Only.of_below {S : Nat → Prop} {w w' : World} (h : Below w.heap.size w w') : Only S w w' := ⟨h.os, h.tape, h.output, h.size, fun k hk _ => h.block k hk⟩
theorem Only.below {S : Nat → Prop} {w w' : World} {B : Nat} (h : Only S w w') (hB : B ≤ w.heap.size) (hS : ∀ k, k < B → ¬ S k) : Below B w w' :=
  ⟨h.os, h.tape, h.output, h.size, fun k hk => h.block k (Nat.lt_of_lt_of_le hk hB) (hS k hk)⟩
theorem Only.mono {S T : Nat → Prop} {w w' : World} (h : Only S w w') (hS : ∀ k, S k → T k) : Only T w w' := ⟨h.os, h.tape, h.output, h.size, fun k hk hn => h.block k hk (fun e => hn (hS k e))⟩
theorem Only.cell {S : Nat → Prop} {w w' : World} (h : Only S w w') {p : Addr} (hp : p.block < w.heap.size) (hS : ¬ S p.block) : w'.cell? p = w.cell? p := World.cell?_of_block (w := w) (h.block _ hp hS)
theorem Only.frozen {S : Nat → Prop} {w w' : World} (h : Only S w w') {p : Addr} (hp : p.block < w.heap.size) (hS : ¬ S p.block) : w'.frozen? p = w.frozen? p := World.frozen?_of_block (w := w) (h.block _ hp hS)

/-- the entries of a map that holds at most the key r -/
def ents (r : Int) (born : Nat) : Option Value → Array MapEntry
  | none => #[]
  | some v => #[⟨.int .u64 r, v, born⟩]

/-- block M is a map with at most one key, r: none: it is empty; some v: it holds v at r -/
def MapIs (w : World) (M : Nat) (r : Int) (o : Option Value) : Prop := ∃ born clock, w.heap[M]? = some (.map (ents r born o) clock)

theorem MapIs.of_block {w w' : World} {M : Nat} {r : Int} {o : Option Value} (h : MapIs w M r o) (e : w'.heap[M]? = w.heap[M]?) : MapIs w' M r o := by
  obtain ⟨b, c, h⟩ := h; exact ⟨b, c, e.trans h⟩
theorem MapIs.lt {w : World} {M : Nat} {r : Int} {o : Option Value} (h : MapIs w M r o) : M < w.heap.size := by
  obtain ⟨b, c, h⟩ := h; exact (Array.getElem?_eq_some_iff.1 h).1

section
variable {P : Program} {t k e : TypeId} {w : World} {M : Nat} {r : Int} {o : Option Value}

theorem only_setBlock (w : World) (M : Nat) (O : Obj) : Only (fun k => k = M) w (setBlock w M O) :=
  ⟨rfl, rfl, rfl, by simp [setBlock], fun k _ hn => by simp [setBlock, Ne.symm hn]⟩

/-- m[r] -/
theorem MapIs.look (h : MapIs w M r o) (ht : P.underlying t = some (.map k e)) (hk : P.underlying k = some (.int .u64)) {z : Value} (hz : ∀ w, (zeroValue e).run P w = .ok z w) (ck : Bool) :
    (Instr.lookup t (.map (some M)) (.int .u64 r) ck).run P w = .ok (if ck then .tuple #[o.getD z, .bool o.isSome] else o.getD z) w := by
  obtain ⟨b, c, h⟩ := h
  have hkey : IsKey (.int .u64) (.int .u64 r) := by simp [IsKey]
  cases o with
  | none =>
    have hf : Instr.findNow (.int .u64) (.int .u64 r) (ents r b none).toList 0 = some none := rfl
    simp [Instr.lookup, run_underlying ht, MapKept.run_getObj_map h, run_checkKey hk hkey, run_findKey hk hf, Result.andThen, hz]
  | some v =>
    have hf : Instr.findNow (.int .u64) (.int .u64 r) (ents r b (some v)).toList 0 = some (some (0, v)) := by simp [ents, Instr.findNow, Instr.sameNow]
    simp [Instr.lookup, run_underlying ht, MapKept.run_getObj_map h, run_checkKey hk hkey, run_findKey hk hf, Result.andThen]

/-- m[x], x another key -/
theorem MapIs.miss (h : MapIs w M r o) (ht : P.underlying t = some (.map k e)) (hk : P.underlying k = some (.int .u64)) {z : Value} (hz : ∀ w, (zeroValue e).run P w = .ok z w) (ck : Bool) {x : Int} (hx : x ≠ r) :
    (Instr.lookup t (.map (some M)) (.int .u64 x) ck).run P w = .ok (if ck then .tuple #[z, .bool false] else z) w := by
  obtain ⟨b, c, h⟩ := h
  have hkey : IsKey (.int .u64) (.int .u64 x) := by simp [IsKey]
  have hf : Instr.findNow (.int .u64) (.int .u64 x) (ents r b o).toList 0 = some none := by
    have hb : (x == r) = false := by simpa using hx
    cases o <;> simp [ents, Instr.findNow, Instr.sameNow, hb]
  simp [Instr.lookup, run_underlying ht, MapKept.run_getObj_map h, run_checkKey hk hkey, run_findKey hk hf, Result.andThen, hz]

/-- m[r] = v -/
theorem MapIs.store (h : MapIs w M r o) (ht : P.underlying t = some (.map k e)) (hk : P.underlying k = some (.int .u64)) (v : Value) :
    ∃ w', (Instr.mapUpdate t (.map (some M)) (.int .u64 r) v).run P w = .ok () w' ∧ MapIs w' M r (some v) ∧ Only (fun k => k = M) w w' ∧ w'.heap.size = w.heap.size := by
  obtain ⟨b, c, h⟩ := h
  have hkey : IsKey (.int .u64) (.int .u64 r) := by simp [IsKey]
  cases o with
  | none =>
    have hf : Instr.findNow (.int .u64) (.int .u64 r) (ents r b none).toList 0 = some none := rfl
    refine ⟨setBlock w M (.map (ents r c (some v)) (c + 1)), ?_, ⟨c, c + 1, heap_setBlock_same h _⟩, only_setBlock _ _ _, by simp [setBlock]⟩
    simp [Instr.mapUpdate, run_underlying ht, MapKept.run_getObj_map h, run_checkKey hk hkey, run_findKey hk hf, MapKept.run_setObj_map _ h, Result.andThen, setBlock]
    rfl
  | some u =>
    have hf : Instr.findNow (.int .u64) (.int .u64 r) (ents r b (some u)).toList 0 = some (some (0, u)) := by simp [ents, Instr.findNow, Instr.sameNow]
    have hs : Instr.sameBits 10000 (((ents r b (some u))[0]?.map (·.key)).getD (.int .u64 r)) (.int .u64 r) = true := by simp [ents, Instr.sameBits]
    refine ⟨setBlock w M (.map (ents r b (some v)) c), ?_, ⟨b, c, heap_setBlock_same h _⟩, only_setBlock _ _ _, by simp [setBlock]⟩
    simp [Instr.mapUpdate, run_underlying ht, MapKept.run_getObj_map h, run_checkKey hk hkey, run_findKey hk hf, MapKept.run_setObj_map _ h, Result.andThen, setBlock, Instr.keyThatStays, hs]
    rfl

/-- delete(m, r) -/
theorem MapIs.drop (h : MapIs w M r o) (ht : P.underlying t = some (.map k e)) (hk : P.underlying k = some (.int .u64)) (t0 T : TypeId) :
    ∃ w', (Builtin.delete_ #[t, t0] T #[.map (some M), .int .u64 r]).run P w = .ok (.tuple #[]) w' ∧ MapIs w' M r none ∧ Only (fun k => k = M) w w' ∧ w'.heap.size = w.heap.size := by
  obtain ⟨b, c, h⟩ := h
  have hkey : IsKey (.int .u64) (.int .u64 r) := by simp [IsKey]
  refine ⟨setBlock w M (.map (ents r b none) c), ?_, ⟨b, c, heap_setBlock_same h _⟩, only_setBlock _ _ _, by simp [setBlock]⟩
  cases o with
  | none =>
    have hf : Instr.findNow (.int .u64) (.int .u64 r) (ents r b none).toList 0 = some none := rfl
    simp [Builtin.delete_, run_underlying ht, MapKept.run_getObj_map h, run_checkKey hk hkey, run_findKey hk hf, MapKept.run_setObj_map _ h, Result.andThen, setBlock]
  | some u =>
    have hf : Instr.findNow (.int .u64) (.int .u64 r) (ents r b (some u)).toList 0 = some (some (0, u)) := by simp [ents, Instr.findNow, Instr.sameNow]
    simp [Builtin.delete_, run_underlying ht, MapKept.run_getObj_map h, run_checkKey hk hkey, run_findKey hk hf, MapKept.run_setObj_map _ h, Result.andThen, setBlock]
    have he : (ents r b (some u)).eraseIdxIfInBounds 0 = ents r b none := by simp [ents, Array.eraseIdxIfInBounds]
    rw [he]
end
theorem zero31 (w : World) : (zeroValue 31).run Try.prog w = .ok (.int .u64 0) w := by kernel_rfl
theorem zero53 (w : World) : (zeroValue 53).run Try.prog w = .ok (.slice none 0 0) w := by kernel_rfl

end Go.Proofs.Qxb6600760a
