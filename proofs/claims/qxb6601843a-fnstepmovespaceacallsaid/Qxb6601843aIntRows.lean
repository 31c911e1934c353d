import Derived.Test.Qxb6601843aReads
import Derived.Test.Qxb6601843aClone

namespace Go.Proofs.Qxb6601843a
open Go.RowKit
theorem same_calls {P : Program} {f : FuncId} {args : Array Value} {w : World} {v : Value} {R : Ending → World → Prop} (h : Calls P f args w fun e w' => e = .returned v ∧ w' = w) (hR : R (.returned v) w) : Calls P f args w R :=
  h.mono (by rintro e w' ⟨rfl, rfl⟩; exact hR)
/-! ### slices of slices of ints -/
structure RowI where
  a : Option Addr
  c : Nat
  zs : List Int
def RowI.val (r : RowI) : Value := .slice r.a r.zs.length r.c
def rowNil : RowI := ⟨none, 0, []⟩
def RRow (w : World) (r : RowI) : Prop := Rd w r.a (r.zs.map (Value.int .i64)) ∧ (r.a = none → r.zs = [] ∧ r.c = 0) ∧ r.zs.length ≤ r.c
def RRd (w : World) (a : Option Addr) (rows : List RowI) : Prop := Rd w a (rows.map RowI.val) ∧ ∀ r ∈ rows, RRow w r
theorem RRow.below {w w' : World} {r : RowI} (h : RRow w r) (hb : Below w.heap.size w w') : RRow w' r := ⟨h.1.below' hb, h.2⟩
theorem RRd.below {w w' : World} {a : Option Addr} {rows : List RowI} (h : RRd w a rows) (hb : Below w.heap.size w w') : RRd w' a rows := ⟨h.1.below' hb, fun r hr => (h.2 r hr).below hb⟩
theorem RRow.nil (w : World) : RRow w rowNil := ⟨Rd.nil _ _, (fun _ => ⟨rfl, rfl⟩), Nat.le_refl _⟩
theorem RRd.at {w : World} {a : Option Addr} {rows : List RowI} (h : RRd w a rows) {k : Nat} (hk : k < rows.length) : ∃ b off, a = some ⟨b, off, none⟩ ∧ b < w.heap.size ∧
    ∀ j (hj : j < rows.length), w.cell? ⟨b, off + j, none⟩ = some (.slice rows[j].a rows[j].zs.length rows[j].c) := by
  obtain ⟨b, off, e, hb, hc⟩ := h.1.at (k := k) (by simpa using hk)
  exact ⟨b, off, e, hb, fun j hj => hc j _ (by simp [hj, RowI.val])⟩
def rowAt (rows : List RowI) (q : Nat) : RowI := rows.getD q rowNil
theorem rowAt_lt {rows : List RowI} {q : Nat} (h : q < rows.length) : rowAt rows q = rows[q] := by simp [rowAt, List.getD, h]
theorem rowAt_ge {rows : List RowI} {q : Nat} (h : ¬ q < rows.length) : rowAt rows q = rowNil := by simp [rowAt, List.getD, h]
theorem RRd.rowAt {w : World} {a : Option Addr} {rows : List RowI} (h : RRd w a rows) (q : Nat) : RRow w (rowAt rows q) := by
  by_cases hq : q < rows.length
  · rw [rowAt_lt hq]; exact h.2 _ (List.getElem_mem hq)
  · rw [rowAt_ge hq]; exact RRow.nil w

def isBool (e : Ending) : Prop := ∃ b, e = .returned (.bool b)
set_option maxHeartbeats 800000 in
theorem bytes24 (a : Option Addr) (n c : Nat) (rows : List RowI) (hx : rows.length = n) (k : Int) (w : World) (hr : RRd w a rows) :
    Calls Try.prog 24 #[.slice a n c, .int .i64 k] w fun e w' => isBool e ∧ w' = w := by
  have HX : Hid (rows.length = n) := hx
  clear hx
  by_cases hn : n ≤ 1048576
  · go_enter Try.func24, Try.ntmps24
    go_wp2
    go_loop [5, 6] (fun t i => ∃ (j : Nat) (s : Int), j ≤ n ∧ i = .int .i64 j ∧ 0 ≤ s ∧ s ≤ 1048576 ∧ t = .int .i64 s) (fun _ i => n - (intOf i).toNat)
    case atStart => exact ⟨0, n, Nat.zero_le _, rfl, by omega, by omega, rfl⟩
    case round =>
      obtain ⟨j, s, hj, rfl, hs0, hs1, rfl⟩ := hrel
      by_cases hlt : j < n
      · have hlt' : j < rows.length := by rw [HX.out]; exact hlt
        obtain ⟨b, off, ea, hbw, hc⟩ := hr.at hlt'
        subst ea
        have hcell := hc j hlt'
        clear hc
        generalize rows[j] = r at hcell
        go_wp2
        · go_ret; exact ⟨⟨_, rfl⟩, rfl⟩
        · go_ret; exact ⟨⟨_, rfl⟩, rfl⟩
        · go_round
          case rel => exact ⟨j + 1, _, by omega, by go_num, by omega, by omega, rfl⟩
          case measure => simp [intOf]; omega
      · go_wp2
        go_ret
        exact ⟨⟨_, rfl⟩, rfl⟩
  · go_enter Try.func24, Try.ntmps24
    go_wp2
    go_ret
    exact ⟨⟨_, rfl⟩, rfl⟩
set_option maxHeartbeats 800000 in
theorem bytes36 (a : Option Addr) (n c : Nat) (rows : List RowI) (hx : rows.length = n) (k : Int) (w : World) (hr : RRd w a rows) :
    Calls Try.prog 36 #[.slice a n c, .int .i64 k] w fun e w' => isBool e ∧ w' = w := by
  have HX : Hid (rows.length = n) := hx
  clear hx
  by_cases hn : n ≤ 1048576
  · go_enter Try.func36, Try.ntmps36
    go_wp2
    go_loop [5, 6] (fun t i => ∃ (j : Nat) (s : Int), j ≤ n ∧ i = .int .i64 j ∧ 0 ≤ s ∧ s ≤ 1048576 ∧ t = .int .i64 s) (fun _ i => n - (intOf i).toNat)
    case atStart => exact ⟨0, n, Nat.zero_le _, rfl, by omega, by omega, rfl⟩
    case round =>
      obtain ⟨j, s, hj, rfl, hs0, hs1, rfl⟩ := hrel
      by_cases hlt : j < n
      · have hlt' : j < rows.length := by rw [HX.out]; exact hlt
        obtain ⟨b, off, ea, hbw, hc⟩ := hr.at hlt'
        subst ea
        have hcell := hc j hlt'
        clear hc
        generalize rows[j] = r at hcell
        go_wp2
        · go_ret; exact ⟨⟨_, rfl⟩, rfl⟩
        · go_ret; exact ⟨⟨_, rfl⟩, rfl⟩
        · go_round
          case rel => exact ⟨j + 1, _, by omega, by go_num, by omega, by omega, rfl⟩
          case measure => simp [intOf]; omega
      · go_wp2
        go_ret
        exact ⟨⟨_, rfl⟩, rfl⟩
  · go_enter Try.func36, Try.ntmps36
    go_wp2
    go_ret
    exact ⟨⟨_, rfl⟩, rfl⟩

theorem Try.info42 : (Try.prog.info? 42).map (fun i => (i.zero, i.size, i.bytes)) = some (some (.slice none 0 0), 1, 24) := by kernel_rfl
theorem make46 (n : Nat) (h1 : n ≤ 10000000) (w : World) : Sem.run Try.prog (Instr.makeSlice 46 (Value.int .i64 n) (Value.int .i64 n)) w =
   Result.ok (Value.slice (some { block := w.heap.size, off := 0 }) n n) (w.alloc (Obj.cells (madeCells #[.slice none 0 0] n) 42)) := by
  obtain ⟨i0, hi, hz0, hz1, hz2⟩ := info_parts Try.info42
  have := run_make (P := Try.prog) w 46 42 i0 _ Try.underlying46 hi hz0 .i64 .i64 n n (by omega) (by omega) (by rw [hz2]; omega) (by omega)
  simpa [hz1, Value.cells] using this
theorem cloneInts_row (r : RowI) (w : World) (hr : RRow w r) (hn : r.zs.length ≤ 10000000) :
    Calls Try.prog 44 #[.slice r.a r.zs.length r.c] w fun e w' => ∃ r' : RowI, e = .returned (.slice r'.a r'.zs.length r'.c) ∧ r'.zs = r.zs ∧ RRow w' r' ∧ Below w.heap.size w w' ∧ ∀ x, r'.a = some x → w.heap.size ≤ x.block := by
  obtain ⟨a, c, zs⟩ := r
  cases a with
  | none =>
    obtain ⟨h1, h2⟩ := hr.2.1 rfl
    simp only [] at h1 h2
    subst h1 h2
    refine (cloneInts_nil w).mono ?_
    rintro e w' ⟨rfl, rfl⟩
    exact ⟨rowNil, rfl, rfl, RRow.nil _, Below.refl _ _, (fun x hx => nomatch hx)⟩
  | some x =>
    refine (cloneInts_some x zs.length c zs rfl w hr.1 hn).mono ?_
    rintro e w' ⟨rfl, h1, h2⟩
    refine ⟨⟨some ⟨w.heap.size, 0, none⟩, zs.length, zs⟩, rfl, rfl, ⟨by simpa using Rd.of_block h1, (fun h => nomatch h), Nat.le_refl _⟩, h2, fun y hy => ?_⟩
    cases hy
    exact Nat.le_refl _
/-- the block of the copies, so far -/
def rowsPart (done : List RowI) (m : Nat) : Array Value := (done.map RowI.val ++ List.replicate m (Value.slice none 0 0)).toArray
theorem rowsPart_cell {wr : World} {N : Nat} {done : List RowI} {m : Nat} (h : wr.heap[N]? = some (.cells (rowsPart done (m + 1)) 42 (0, 0))) : wr.cell? ⟨N, done.length, none⟩ = some (.slice none 0 0) := by
  rw [cell_of_row wr _ _ _ _ _ h]
  simp [rowsPart]
theorem rowsPart_store {wr : World} {N : Nat} {done : List RowI} {m : Nat} (h : wr.heap[N]? = some (.cells (rowsPart done (m + 1)) 42 (0, 0))) (r : RowI) :
    (wr.setCell ⟨N, done.length, none⟩ (.slice r.a r.zs.length r.c)).heap[N]? = some (.cells (rowsPart (done ++ [r]) m) 42 (0, 0)) := by
  rw [heap_setCell_same wr N _ _ 42 _ h]
  congr 2
  apply Array.toList_inj.1
  simp only [rowsPart, Array.toList_setIfInBounds]
  rw [List.set_append_right _ _ (by simp)]
  simp [RowI.val, List.replicate_succ]
set_option maxHeartbeats 800000 in
theorem cloneRows_some (x : Addr) (n c : Nat) (rows : List RowI) (hx : rows.length = n) (w : World) (hr : RRd w (some x) rows) (hn : n ≤ 10000000) (hrn : ∀ r ∈ rows, r.zs.length ≤ 10000000) :
    Calls Try.prog 25 #[.slice (some x) n c] w fun e w' => e = .returned (.slice (some ⟨w.heap.size, 0, none⟩) n n) ∧ ∃ rows' : List RowI, rows'.map RowI.zs = rows.map RowI.zs ∧ RRd w' (some ⟨w.heap.size, 0, none⟩) rows' ∧ Below w.heap.size w w' := by
  have hm := make46 n hn
  have he := fun w => Lib.run_eql_slice_nil (P := Try.prog) w 46 42 (some x) n c 0 0 Try.underlying46
  have H0 : Hid ((w.alloc (Obj.cells (madeCells #[.slice none 0 0] n) 42)).heap[w.heap.size]? = some (.cells (rowsPart [] n) 42 (0, 0))) := by
    have e : madeCells #[.slice none 0 0] n = rowsPart [] n := by
      apply Array.toList_inj.1
      rw [toList_madeCells_one]; simp [rowsPart]
    rw [← e]; exact heap_alloc_new w _
  have HX : Hid (rows.length = n) := hx
  have HRN : Hid (∀ r ∈ rows, r.zs.length ≤ 10000000) := hrn
  clear hx hrn
  go_enter Try.func25, Try.ntmps25
  go_wp2
  go_loopw [4] (fun i wr => ∃ (k : Nat) (done : List RowI), k ≤ n ∧ i = .int .i64 k ∧ done.length = k ∧ done.map RowI.zs = (rows.take k).map RowI.zs ∧ wr.heap[w.heap.size]? = some (.cells (rowsPart done (n - k)) 42 (0, 0)) ∧
      (∀ r ∈ done, RRow wr r ∧ ∀ y, r.a = some y → w.heap.size < y.block) ∧ Below w.heap.size w wr) (fun i _ => n - (intOf i).toNat)
  case atStart => exact ⟨0, [], Nat.zero_le _, rfl, rfl, rfl, H0.out, by simp, (Below.refl _ _).alloc (Nat.le_refl _) _⟩
  case round =>
    obtain ⟨k, done, hk, rfl, hdl, hdz, hrow, hdone, hbl⟩ := hrel
    have HDL : Hid (done.length = k) := hdl
    have HDZ : Hid (done.map RowI.zs = (rows.take k).map RowI.zs) := hdz
    have HROW : Hid (wr.heap[w.heap.size]? = some (.cells (rowsPart done (n - k)) 42 (0, 0))) := hrow
    have HDN : Hid (∀ r ∈ done, RRow wr r ∧ ∀ y, r.a = some y → w.heap.size < y.block) := hdone
    clear hdl hdz hrow hdone
    by_cases hlt : k < n
    · have hlt' : k < rows.length := by rw [HX.out]; exact hlt
      obtain ⟨b, off, ex, hbw, hc⟩ := hr.at hlt'
      cases ex
      have hcell : wr.cell? ⟨b, off + k, none⟩ = some (.slice rows[k].a rows[k].zs.length rows[k].c) := (hbl.cell (p := ⟨b, off + k, none⟩) hbw).trans (hc k hlt')
      have hrk : RRow wr rows[k] := (hr.2 _ (List.getElem_mem hlt')).below hbl
      have hnk : rows[k].zs.length ≤ 10000000 := HRN.out _ (List.getElem_mem hlt')
      have hz0 : (rows.take (k + 1)).map RowI.zs = (rows.take k).map RowI.zs ++ [rows[k].zs] := by
        rw [List.take_succ_eq_append_getElem hlt', List.map_append]; rfl
      have HZ : Hid ((rows.take (k + 1)).map RowI.zs = (rows.take k).map RowI.zs ++ [rows[k].zs]) := hz0
      clear hz0
      generalize rows[k] = r at hcell hrk hnk HZ
      have hN : w.heap.size < wr.heap.size := (Array.getElem?_eq_some_iff.1 HROW.out).1
      have e1 : n - k = n - (k + 1) + 1 := by omega
      have HR1 : Hid (wr.heap[w.heap.size]? = some (.cells (rowsPart done (n - (k + 1) + 1)) 42 (0, 0))) := by rw [← e1]; exact HROW.out
      clear hc e1
      go_wp2_with (go_at_call 44; refine (cloneInts_row r _ hrk hnk).mono ?_; rintro e w2 ⟨r', rfl, hz', hr', hb2, hnew⟩; have HZ' : Hid (r'.zs = r.zs) := hz'; clear hz'; have hcN : w2.cell? ⟨w.heap.size, k, none⟩ = some (.slice none 0 0) := (by rw [← HDL.out]; exact (hb2.cell (p := ⟨w.heap.size, done.length, none⟩) hN).trans (rowsPart_cell HR1.out)); have hfN : w2.frozen? ⟨w.heap.size, k, none⟩ = false := (hb2.frozen (p := ⟨w.heap.size, k, none⟩) hN).trans (frozen_of_row wr _ k _ _ HR1.out))
      go_roundw
      case rel =>
        refine ⟨k + 1, done ++ [r'], by omega, by go_num, by simp [HDL.out], ?_, ?_, ?_, ?_⟩
        · rw [HZ.out, List.map_append, HDZ.out]; simp [HZ'.out]
        · have := rowsPart_store ((hb2.block _ hN).trans HR1.out) r'
          rw [HDL.out] at this
          exact this
        · intro x hx
          have keep : ∀ y : RowI, RRow w2 y → (∀ z, y.a = some z → w.heap.size < z.block) → RRow (w2.setCell ⟨w.heap.size, k, none⟩ (.slice r'.a r'.zs.length r'.c)) y := by
            intro y hy hyb
            refine ⟨?_, hy.2⟩
            intro j v hv
            obtain ⟨b', off', ea, hc'⟩ := hy.1 j v hv
            refine ⟨b', off', ea, ?_⟩
            rw [World.cell?_of_block (w := w2) (heap_setCell_other w2 ⟨w.heap.size, k, none⟩ b' _ (by have := hyb _ ea; show b' ≠ w.heap.size; simp at this; omega))]
            exact hc'
          rcases List.mem_append.1 hx with hx | hx
          · exact ⟨keep x ((HDN.out x hx).1.below hb2) (HDN.out x hx).2, (HDN.out x hx).2⟩
          · have e : x = r' := by simpa using hx
            subst e
            have hb3 : ∀ y, x.a = some y → w.heap.size < y.block := fun y hy => by have := hnew y hy; omega
            exact ⟨keep x hr' hb3, hb3⟩
        · exact (hbl.trans (hb2.mono (by omega))).setCell (Nat.le_refl _) _
      case measure => simp [intOf]; omega
    · have e : k = n := by omega
      subst e
      go_wp2
      go_ret
      refine ⟨rfl, done, ?_, ⟨?_, fun r hr' => (HDN.out r hr').1⟩, hbl⟩
      · rw [HDZ.out, List.take_of_length_le (by rw [HX.out]; exact Nat.le_refl _)]
      · have := Rd.of_block HROW.out
        simpa [rowsPart] using this
end Go.Proofs.Qxb6601843a
