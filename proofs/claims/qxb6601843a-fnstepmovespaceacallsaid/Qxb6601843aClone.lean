import Derived.Test.Qxb6601843aProg
import Derived.WalkKit
import Derived.WalkSpells
import Derived.BigRegion
import Derived.BigQuiet
import Derived.KernelRfl
import Derived.Lib.SliceRun
namespace Go.Proofs.Qxb6601843a
open Go.RowKit
theorem Try.info3 : (Try.prog.info? 3).map (fun i => (i.zero, i.size, i.bytes)) = some (some (.int .i64 0), 1, 8) := by kernel_rfl
/-- the cells of a slice, from its address on -/
def Rd (w : World) (a : Option Addr) (vs : List Value) : Prop := ∀ j v, vs[j]? = some v → ∃ b off, a = some ⟨b, off, none⟩ ∧ w.cell? ⟨b, off + j, none⟩ = some v
theorem Rd.at {w : World} {a : Option Addr} {vs : List Value} (h : Rd w a vs) {k : Nat} (hk : k < vs.length) : ∃ b off, a = some ⟨b, off, none⟩ ∧ b < w.heap.size ∧ ∀ j v, vs[j]? = some v → w.cell? ⟨b, off + j, none⟩ = some v := by
  obtain ⟨b, off, rfl, hc⟩ := h k _ (List.getElem?_eq_getElem hk)
  refine ⟨b, off, rfl, World.block_lt_of_cell? w _ hc, fun j v hv => ?_⟩
  obtain ⟨b', off', e, hc'⟩ := h j v hv
  cases e; exact hc'
theorem Rd.below {w w' : World} {a : Option Addr} {vs : List Value} {B : Nat} (h : Rd w a vs) (hb : Below B w w') (hB : ∀ x, a = some x → x.block < B) : Rd w' a vs := by
  intro j v hv
  obtain ⟨b, off, rfl, hc⟩ := h j v hv
  exact ⟨b, off, rfl, (hb.cell (p := ⟨b, off + j, none⟩) (hB ⟨b, off, none⟩ rfl)).trans hc⟩
theorem Rd.below' {w w' : World} {a : Option Addr} {vs : List Value} (h : Rd w a vs) (hb : Below w.heap.size w w') : Rd w' a vs := by
  intro j v hv
  obtain ⟨b, off, rfl, hc⟩ := h j v hv
  exact ⟨b, off, rfl, (hb.cell (p := ⟨b, off + j, none⟩) (World.block_lt_of_cell? w _ hc)).trans hc⟩
theorem Rd.nil (w : World) (a : Option Addr) : Rd w a [] := fun j v h => by simp at h
theorem Rd.of_block {w : World} {b : Nat} {cs : Array Value} {t : TypeId} {fr : Nat × Nat} (h : w.heap[b]? = some (.cells cs t fr)) : Rd w (some ⟨b, 0, none⟩) cs.toList := by
  intro j v hv
  exact ⟨b, 0, rfl, by rw [cell_of_row w b (0 + j) cs t fr h]; simpa using hv⟩
def part (xs : List Value) (z : Value) (k : Nat) : Array Value := (xs.take k ++ List.replicate (xs.length - k) z).toArray
theorem part_zero (xs : List Value) (z : Value) : part xs z 0 = madeCells #[z] xs.length := by
  apply Array.toList_inj.1
  rw [toList_madeCells_one]
  simp [part]
theorem part_full (xs : List Value) (z : Value) : part xs z xs.length = xs.toArray := by simp [part]
theorem part_size (xs : List Value) (z : Value) (k : Nat) (h : k ≤ xs.length) : (part xs z k).size = xs.length := by simp [part]; omega
theorem part_step (xs : List Value) (z : Value) (k : Nat) (h : k < xs.length) : (part xs z k).setIfInBounds k xs[k] = part xs z (k + 1) := by
  apply Array.toList_inj.1
  simp only [part, Array.toList_setIfInBounds]
  apply List.ext_getElem?
  intro j
  rcases Nat.lt_trichotomy j k with hj | hj | hj
  · rw [List.getElem?_set_ne (by omega), List.getElem?_append_left (by simp; omega), List.getElem?_append_left (by simp; omega), List.getElem?_take_of_lt hj, List.getElem?_take_of_lt (by omega)]
  · subst hj
    rw [List.getElem?_set_self (by simp; omega), List.getElem?_append_left (by simp; omega), List.getElem?_take_of_lt (by omega), List.getElem?_eq_getElem h]
  · rw [List.getElem?_set_ne (by omega), List.getElem?_append_right (by simp; omega), List.getElem?_append_right (by simp; omega)]
    simp only [List.length_take, List.getElem?_replicate]
    have e1 : min k xs.length = k := by omega
    have e2 : min (k + 1) xs.length = k + 1 := by omega
    rw [e1, e2]
    by_cases hj2 : j < xs.length
    · rw [if_pos (by omega), if_pos (by omega)]
    · rw [if_neg (by omega), if_neg (by omega)]
theorem part_store {wr : World} {N : Nat} {xs : List Value} {z : Value} {k : Nat} {E : TypeId} (h : wr.heap[N]? = some (.cells (part xs z k) E (0, 0))) (hk : k < xs.length) :
    (wr.setCell ⟨N, k, none⟩ xs[k]).heap[N]? = some (.cells (part xs z (k + 1)) E (0, 0)) := by
  rw [heap_setCell_same wr N k _ E _ h, part_step xs z k hk]
theorem make42 (n : Nat) (h1 : n ≤ 10000000) (w : World) : Sem.run Try.prog (Instr.makeSlice 42 (Value.int .i64 n) (Value.int .i64 n)) w =
   Result.ok (Value.slice (some { block := w.heap.size, off := 0 }) n n) (w.alloc (Obj.cells (madeCells #[.int .i64 0] n) 3)) := by
  obtain ⟨i0, hi, hz0, hz1, hz2⟩ := info_parts Try.info3
  have := run_make (P := Try.prog) w 42 3 i0 _ Try.underlying42 hi hz0 .i64 .i64 n n (by omega) (by omega) (by rw [hz2]; omega) (by omega)
  simpa [hz1, Value.cells] using this
theorem part_store' {wr : World} {N : Nat} {xs : List Value} {z : Value} {k : Nat} {E : TypeId} (h : wr.heap[N]? = some (.cells (part xs z k) E (0, 0))) (v : Value) (hv : xs[k]? = some v) :
    (wr.setCell ⟨N, k, none⟩ v).heap[N]? = some (.cells (part xs z (k + 1)) E (0, 0)) := by
  obtain ⟨hk, rfl⟩ := List.getElem?_eq_some_iff.1 hv
  exact part_store h hk
theorem part_cell {wr : World} {N : Nat} {xs : List Value} {z : Value} {k : Nat} {E : TypeId} (h : wr.heap[N]? = some (.cells (part xs z k) E (0, 0))) (hk : k < xs.length) : wr.cell? ⟨N, k, none⟩ = some z := by
  rw [cell_of_row wr _ k _ _ _ h]
  simp only [part, List.getElem?_toArray]
  rw [List.getElem?_append_right (by simp; omega), List.getElem?_replicate, if_pos (by simp; omega)]
theorem ints_get (k : IntKind) (zs : List Int) (j : Nat) (h : j < zs.length) : (zs.map (Value.int k))[j]? = some (.int k zs[j]) := by simp [h]
set_option maxHeartbeats 800000 in
theorem cloneInts_some (x : Addr) (n c : Nat) (zs : List Int) (hx : zs.length = n) (w : World) (hr : Rd w (some x) (zs.map (Value.int .i64))) (hn : n ≤ 10000000) :
    Calls Try.prog 44 #[.slice (some x) n c] w fun e w' => e = .returned (.slice (some ⟨w.heap.size, 0, none⟩) n n) ∧ w'.heap[w.heap.size]? = some (.cells (zs.map (Value.int .i64)).toArray 3 (0, 0)) ∧ Below w.heap.size w w' := by
  have hm := make42 n hn
  have he := fun w => Lib.run_eql_slice_nil (P := Try.prog) w 42 3 (some x) n c 0 0 Try.underlying42
  have H0 : Hid ((w.alloc (Obj.cells (madeCells #[.int .i64 0] n) 3)).heap[w.heap.size]? = some (.cells (part (zs.map (Value.int .i64)) (.int .i64 0) 0) 3 (0, 0))) := by rw [part_zero, List.length_map, hx]; exact heap_alloc_new w _
  have HX : Hid (zs.length = n) := hx
  clear hx
  go_enter Try.func44, Try.ntmps44
  go_wp2
  go_loopw [4] (fun i wr => ∃ k : Nat, k ≤ n ∧ i = .int .i64 k ∧ wr.heap[w.heap.size]? = some (.cells (part (zs.map (Value.int .i64)) (.int .i64 0) k) 3 (0, 0)) ∧ Below w.heap.size w wr) (fun i _ => n - (intOf i).toNat)
  case atStart => exact ⟨0, Nat.zero_le _, rfl, H0.out, (Below.refl _ _).alloc (Nat.le_refl _) _⟩
  case round =>
    obtain ⟨k, hk, rfl, hrow, hbl⟩ := hrel
    by_cases hlt : k < n
    · have hlt' : k < zs.length := by rw [HX.out]; exact hlt
      obtain ⟨b, off, ex, hbw, hc⟩ := hr.at (k := k) (by simpa using hlt')
      cases ex
      have hcell : wr.cell? ⟨b, off + k, none⟩ = some (.int .i64 zs[k]) := (hbl.cell (p := ⟨b, off + k, none⟩) hbw).trans (hc k _ (ints_get _ _ _ hlt'))
      have hcN := part_cell hrow (by simpa using hlt')
      have hz := frozen_of_row wr _ k _ _ hrow
      have HR := part_store' hrow _ (ints_get .i64 zs k hlt')
      have HB : Below w.heap.size w (wr.setCell ⟨w.heap.size, k, none⟩ (.int .i64 zs[k])) := hbl.setCell (Nat.le_refl _) _
      clear hr hc H0 hrow
      go_wp2
      go_roundw
      case rel => exact ⟨k + 1, by omega, by go_num, HR, HB⟩
      case measure => simp [intOf]; omega
    · have e : k = n := by omega
      have HR : Hid (wr.heap[w.heap.size]? = some (.cells (zs.map (Value.int .i64)).toArray 3 (0, 0))) := by
        have := hrow
        rw [e, show n = (zs.map (Value.int .i64)).length from by rw [List.length_map, HX.out], part_full] at this
        exact this
      clear hrow hr H0 e
      go_wp2
      go_ret
      exact ⟨rfl, HR.out, hbl⟩
set_option maxHeartbeats 400000 in
theorem cloneInts_nil (w : World) : Calls Try.prog 44 #[.slice none 0 0] w fun e w' => e = .returned (.slice none 0 0) ∧ w' = w := by
  have he := fun w => Lib.run_eql_slice_nil (P := Try.prog) w 42 3 none 0 0 0 0 Try.underlying42
  go_enter Try.func44, Try.ntmps44
  go_wp2
  go_ret
  exact ⟨rfl, rfl⟩
theorem cloneInts_any (a : Option Addr) (n c : Nat) (zs : List Int) (hx : zs.length = n) (hnil : a = none → n = 0 ∧ c = 0) (w : World) (hr : Rd w a (zs.map (Value.int .i64))) (hn : n ≤ 10000000) :
    Calls Try.prog 44 #[.slice a n c] w fun e w' => ∃ a' c', e = .returned (.slice a' n c') ∧ Rd w' a' (zs.map (Value.int .i64)) ∧ Below w.heap.size w w' ∧ (a' = none → n = 0 ∧ c' = 0) := by
  cases a with
  | none =>
    obtain ⟨rfl, rfl⟩ := hnil rfl
    refine (cloneInts_nil w).mono ?_
    rintro e w' ⟨rfl, rfl⟩
    exact ⟨none, 0, rfl, hr, Below.refl _ _, fun _ => ⟨rfl, rfl⟩⟩
  | some x =>
    refine (cloneInts_some x n c zs hx w hr hn).mono ?_
    rintro e w' ⟨rfl, h1, h2⟩
    exact ⟨_, _, rfl, by simpa using Rd.of_block h1, h2, fun h => nomatch h⟩
set_option maxHeartbeats 400000 in
theorem bytes43 (a : Option Addr) (n c : Nat) (w : World) (hn : n ≤ 1048576) : Calls Try.prog 43 #[.slice a n c] w fun e w' => e = .returned (.bool true) ∧ w' = w := by
  have h1 : ¬ (1048576 : Int) < (n : Int) := by omega
  go_enter Try.func43, Try.ntmps43
  go_wp2
  go_ret
  exact ⟨rfl, rfl⟩
set_option maxHeartbeats 400000 in
theorem bytes43_no (a : Option Addr) (n c : Nat) (w : World) (hn : ¬ n ≤ 1048576) : Calls Try.prog 43 #[.slice a n c] w fun e w' => e = .returned (.bool false) ∧ w' = w := by
  have h1 : (1048576 : Int) < (n : Int) := by omega
  go_enter Try.func43, Try.ntmps43
  go_wp2
  go_ret
  exact ⟨rfl, rfl⟩
end Go.Proofs.Qxb6601843a
