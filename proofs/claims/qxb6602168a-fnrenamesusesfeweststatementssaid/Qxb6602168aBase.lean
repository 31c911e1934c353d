import Derived.Test.Qxb6602168aProg
import Derived.Test.Qxb6602168aGreedy
import Derived.WalkKit
import Derived.WalkSpells
import Derived.BigRegion
import Derived.BigQuiet
import Derived.KernelRfl
import Derived.Lib.SliceRun
import Derived.Lib.AppendStr
import Derived.Laws.BytesArg
import Derived.Deep.AppendLies
namespace Go.Proofs.Qxb6602168a
open Go.RowKit
theorem hideE {p : Prop} (h : p) : Hid p := h
theorem same_calls {P : Program} {f : FuncId} {args : Array Value} {w : World} {v : Value} {R : Ending → World → Prop} (h : Calls P f args w fun e w' => e = .returned v ∧ w' = w) (hR : R (.returned v) w) : Calls P f args w R :=
  h.mono (by rintro e w' ⟨rfl, rfl⟩; exact hR)
/-- a row of strings, by a function -/
def SRd (w : World) (a : Option Addr) (n : Nat) (S : Nat → ByteArray) : Prop := ∀ p, p < n → ∃ b off, a = some ⟨b, off, none⟩ ∧ w.cell? ⟨b, off + p, none⟩ = some (.string (S p))
section
variable {w w' : World} {a : Option Addr} {n : Nat} {S : Nat → ByteArray}
theorem SRd.below (h : SRd w a n S) (hb : Below w.heap.size w w') : SRd w' a n S := by
  intro p hp
  obtain ⟨b, off, h1, h2⟩ := h p hp
  exact ⟨b, off, h1, (hb.cell (p := ⟨b, _, none⟩) (World.block_lt_of_cell? w _ h2)).trans h2⟩
theorem SRd.at (h : SRd w a n S) {p : Nat} (hp : p < n) : ∃ b off, a = some ⟨b, off, none⟩ ∧ b < w.heap.size ∧ ∀ q, q < n → w.cell? ⟨b, off + q, none⟩ = some (.string (S q)) := by
  obtain ⟨b, off, rfl, hc⟩ := h p hp
  refine ⟨b, off, rfl, World.block_lt_of_cell? w _ hc, fun q hq => ?_⟩
  obtain ⟨b', off', e, hc'⟩ := h q hq
  cases e; exact hc'
end
/-- a block of values, of which those in P are known -/
def VRow (w : World) (N : Nat) (ty : TypeId) (len : Nat) (P : Nat → Prop) (f : Nat → Value) : Prop :=
  ∃ cs : Array Value, w.heap[N]? = some (.cells cs ty (0, 0)) ∧ cs.size = len ∧ ∀ p, P p → cs[p]? = some (f p)
section
variable {w w' : World} {N : Nat} {ty : TypeId} {len : Nat} {P P' : Nat → Prop} {f : Nat → Value}
theorem VRow.lt (h : VRow w N ty len P f) : N < w.heap.size := by obtain ⟨cs, h1, _⟩ := h; exact (Array.getElem?_eq_some_iff.1 h1).1
theorem VRow.mono (h : VRow w N ty len P f) (hP : ∀ p, P' p → P p) : VRow w N ty len P' f := by
  obtain ⟨cs, h1, h2, h3⟩ := h
  exact ⟨cs, h1, h2, fun p hp => h3 p (hP p hp)⟩
theorem VRow.put (h : VRow w N ty len P f) (q : Nat) (hq : q < len) : VRow (w.setCell ⟨N, q, none⟩ (f q)) N ty len (fun p => P p ∨ p = q) f := by
  obtain ⟨cs, h1, h2, h3⟩ := h
  refine ⟨_, heap_setCell_same w N q cs ty _ h1, by simpa using h2, fun p hp => ?_⟩
  by_cases e : q = p
  · subst e; simp [h2, hq]
  · rw [Array.getElem?_setIfInBounds_ne e]
    exact h3 p (hp.resolve_right (fun e' => e e'.symm))
theorem VRow.below (h : VRow w N ty len P f) {B : Nat} (hb : Below B w w') (hN : N < B) : VRow w' N ty len P f := by
  obtain ⟨cs, h1, h2, h3⟩ := h
  exact ⟨cs, (hb.block N hN).trans h1, h2, h3⟩
theorem VRow.dst (h : VRow w N ty len P f) (q : Nat) (hq : q < len) : (∃ u, w.cell? ⟨N, q, none⟩ = some u) ∧ w.frozen? ⟨N, q, none⟩ = false := by
  obtain ⟨cs, h1, h2, h3⟩ := h
  exact ⟨⟨cs[q]'(by omega), by rw [cell_of_row _ _ _ _ _ _ h1]; exact Array.getElem?_eq_getElem _⟩, frozen_of_row _ _ _ _ _ h1⟩
theorem VRow.cell (h : VRow w N ty len P f) (q : Nat) (hq : P q) : w.cell? ⟨N, q, none⟩ = some (f q) := by
  obtain ⟨cs, h1, h2, h3⟩ := h
  rw [cell_of_row _ _ _ _ _ _ h1]; exact h3 q hq
theorem VRow.srd {S : Nat → ByteArray} (h : VRow w N ty len P (fun p => .string (S p))) {n : Nat} (hP : ∀ p, p < n → P p) : SRd w (some ⟨N, 0, none⟩) n S := by
  intro p hp
  exact ⟨N, 0, rfl, by rw [Nat.zero_add]; exact h.cell p (hP p hp)⟩
theorem VRow.new (w : World) (ty : TypeId) (len : Nat) (z : Value) (f : Nat → Value) : VRow (w.alloc (.cells (madeCells #[z] len) ty)) w.heap.size ty len (fun _ => False) f :=
  ⟨_, heap_alloc_new w _, by simp [madeCells], fun p hp => hp.elim⟩
end
theorem Try.info3 : (Try.prog.info? 3).map (fun i => (i.zero, i.size, i.bytes)) = some (some (.int .i64 0), 1, 8) := by kernel_rfl
theorem Try.info9 : (Try.prog.info? 9).map (fun i => (i.zero, i.size, i.bytes)) = some (some (.string ByteArray.empty), 1, 16) := by kernel_rfl
theorem make22 (n : Nat) (h1 : n ≤ 10000000) (w : World) : Sem.run Try.prog (Instr.makeSlice 22 (Value.int .i64 n) (Value.int .i64 n)) w =
   Result.ok (Value.slice (some { block := w.heap.size, off := 0 }) n n) (w.alloc (Obj.cells (madeCells #[.string ByteArray.empty] n) 9)) := by
  obtain ⟨i0, hi, hz0, hz1, hz2⟩ := info_parts Try.info9
  have := run_make (P := Try.prog) w 22 9 i0 _ Try.underlying22 hi hz0 .i64 .i64 n n (by omega) (by omega) (by rw [hz2]; omega) (by omega)
  simpa [hz1, Value.cells] using this
theorem make32 (n : Nat) (h1 : n ≤ 10000000) (w : World) : Sem.run Try.prog (Instr.makeSlice 32 (Value.int .i64 n) (Value.int .i64 n)) w =
   Result.ok (Value.slice (some { block := w.heap.size, off := 0 }) n n) (w.alloc (Obj.cells (madeCells #[.int .i64 0] n) 3)) := by
  obtain ⟨i0, hi, hz0, hz1, hz2⟩ := info_parts Try.info3
  have := run_make (P := Try.prog) w 32 3 i0 _ Try.underlying32 hi hz0 .i64 .i64 n n (by omega) (by omega) (by rw [hz2]; omega) (by omega)
  simpa [hz1, Value.cells] using this
end Go.Proofs.Qxb6602168a
