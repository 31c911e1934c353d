/-
  The heap predicate of a history (portwright prices) and what its updates do. No Go program here.
-/
import Derived.WalkKit
import Derived.WalkSmall
import Derived.Deep.AppendLies
namespace Go.Proofs.Qxb6601843a
open Go.RowKit

/-! ### lists of blocks of one length -/
theorem fm_length {α : Type} (f : α → List Value) (c : Nat) (hf : ∀ x, (f x).length = c) : ∀ ls : List α, (ls.flatMap f).length = ls.length * c
  | [] => by simp
  | x :: ls => by rw [List.flatMap_cons, List.length_append, hf, fm_length f c hf ls, List.length_cons, Nat.add_mul, Nat.one_mul, Nat.add_comm]

theorem fm_get {α : Type} (f : α → List Value) (c : Nat) (hf : ∀ x, (f x).length = c) : ∀ (ls : List α) (k j : Nat) (x : α), ls[k]? = some x → j < c →
    (ls.flatMap f)[k * c + j]? = (f x)[j]?
  | [], k, j, x, h, _ => by simp at h
  | y :: ls, 0, j, x, h, hj => by
    simp at h; subst h
    rw [List.flatMap_cons, Nat.zero_mul, Nat.zero_add, List.getElem?_append_left (by rw [hf]; exact hj)]
  | y :: ls, k + 1, j, x, h, hj => by
    rw [List.flatMap_cons, List.getElem?_append_right (by rw [hf, Nat.add_mul]; omega), hf]
    have e : (k + 1) * c + j - c = k * c + j := by rw [Nat.add_mul]; omega
    rw [e]
    exact fm_get f c hf ls k j x (by simpa using h) hj

theorem fm_set {α : Type} (f : α → List Value) (c : Nat) (hf : ∀ x, (f x).length = c) : ∀ (ls : List α) (k j : Nat) (x x' : α) (u : Value), ls[k]? = some x → j < c →
    f x' = (f x).set j u → (ls.flatMap f).set (k * c + j) u = (ls.set k x').flatMap f
  | [], k, j, x, x', u, h, _, _ => by simp at h
  | y :: ls, 0, j, x, x', u, h, hj, hx => by
    simp at h; subst h
    rw [List.flatMap_cons, Nat.zero_mul, Nat.zero_add, List.set_append_left _ _ (by rw [hf]; exact hj), List.set_cons_zero, List.flatMap_cons, hx]
  | y :: ls, k + 1, j, x, x', u, h, hj, hx => by
    rw [List.flatMap_cons, List.set_append_right _ _ (by rw [hf, Nat.add_mul]; omega), hf, List.set_cons_succ, List.flatMap_cons]
    have e : (k + 1) * c + j - c = k * c + j := by rw [Nat.add_mul]; omega
    rw [e, fm_set f c hf ls k j x x' u (by simpa using h) hj hx]

/-! ### runs, levels -/
structure RunV where
  n : Int
  ta : Option Addr
  tl : Nat
  tc : Nat
  sa : Option Addr
  sl : Nat
  sc : Nat

def RunV.cells (r : RunV) : List Value := [.int .i64 r.n, .slice r.ta r.tl r.tc, .slice r.sa r.sl r.sc]
def RunV.val (r : RunV) : Value := .agg #[.int .i64 r.n, .slice r.ta r.tl r.tc, .slice r.sa r.sl r.sc]
def run0 : RunV := ⟨0, none, 0, 0, none, 0, 0⟩
theorem RunV.len (r : RunV) : r.cells.length = 3 := rfl
theorem RunV.one (r : RunV) : ∀ u ∈ r.cells, u.oneCell' = true := by intro u hu; simp [RunV.cells] at hu; rcases hu with rfl | rfl | rfl <;> rfl

structure Lv where
  ra : Option Addr
  rc : Nat
  runs : List RunV
  m : RunV
  i : Int
  j : Int
  sa : Option Addr
  sc : Nat
  spare : List RunV

def Lv.cells (l : Lv) : List Value :=
  [.slice l.ra l.runs.length l.rc, .int .i64 l.m.n, .slice l.m.ta l.m.tl l.m.tc, .slice l.m.sa l.m.sl l.m.sc, .int .i64 l.i, .int .i64 l.j, .slice l.sa l.spare.length l.sc]
theorem Lv.len (l : Lv) : l.cells.length = 7 := rfl
def lv0 : Lv := ⟨none, 0, [], run0, 0, 0, none, 0, []⟩

def runRow (w : World) (base : Nat) (a : Option Addr) (c : Nat) (rs : List RunV) : Prop := w.ownsRow base 53 3 (.slice a rs.length c) rs.length (rs.flatMap RunV.cells)

/-- A history in memory. 'ow': of each block of a row of runs, whose it is. -/
structure Hist (w : World) (base hb : Nat) (la : Option Addr) (lc : Nat) (ls : List Lv) (mg : Int) : Prop where
  hle : base ≤ hb
  blk : w.heap[hb]? = some (.cells #[.slice none 0 0, .slice la ls.length lc, .int .u64 mg] 80 (0, 0))
  lev : w.ownsRow base 75 7 (.slice la ls.length lc) ls.length (ls.flatMap Lv.cells)
  rows : ∃ ow : Nat → Nat, ∀ k l, ls[k]? = some l → runRow w base l.ra l.rc l.runs ∧ runRow w base l.sa l.sc l.spare ∧ (∀ a, l.ra = some a → ow a.block = 2 * k) ∧ (∀ a, l.sa = some a → ow a.block = 2 * k + 1)

section
variable {w w' : World} {base hb : Nat} {la : Option Addr} {lc : Nat} {ls : List Lv} {mg : Int}

theorem Hist.lt (h : Hist w base hb la lc ls mg) : hb < w.heap.size := (Array.getElem?_eq_some_iff.1 h.blk).1
theorem Hist.c0 (h : Hist w base hb la lc ls mg) : w.cell? ⟨hb, 0, none⟩ = some (.slice none 0 0) := by rw [cell_of_row w hb 0 _ _ _ h.blk]; rfl
theorem Hist.c1 (h : Hist w base hb la lc ls mg) : w.cell? ⟨hb, 1, none⟩ = some (.slice la ls.length lc) := by rw [cell_of_row w hb 1 _ _ _ h.blk]; rfl
theorem Hist.c2 (h : Hist w base hb la lc ls mg) : w.cell? ⟨hb, 2, none⟩ = some (.int .u64 mg) := by rw [cell_of_row w hb 2 _ _ _ h.blk]; rfl
theorem Hist.free (h : Hist w base hb la lc ls mg) (j : Nat) : w.frozen? ⟨hb, j, none⟩ = false := frozen_of_row w hb j _ _ h.blk

theorem Hist.form (h : Hist w base hb la lc ls mg) (hn : 0 < ls.length) : ∃ lb, la = some ⟨lb, 0, none⟩ ∧ base ≤ lb ∧ lb < w.heap.size := by
  obtain ⟨g, cap, hv, h1, h2⟩ := h.lev.form hn
  cases hv
  exact ⟨g, rfl, h1, h2⟩

theorem Hist.cell {lb : Nat} (h : Hist w base hb (some ⟨lb, 0, none⟩) lc ls mg) {k : Nat} {l : Lv} (hk : ls[k]? = some l) (j : Nat) (hj : j < 7) : w.cell? ⟨lb, k * 7 + j, none⟩ = l.cells[j]? := by
  have hlt : k < ls.length := (List.getElem?_eq_some_iff.1 hk).1
  rw [h.lev.cellAt _ (by omega), fm_get Lv.cells 7 Lv.len ls k j l hk hj]

theorem Hist.lfree {lb : Nat} (h : Hist w base hb (some ⟨lb, 0, none⟩) lc ls mg) (j : Nat) : w.frozen? ⟨lb, j, none⟩ = false := h.lev.frozenAt j

theorem runRow.below {a : Option Addr} {c : Nat} {rs : List RunV} (h : runRow w base a c rs) (hbl : Below w.heap.size w w') : runRow w' base a c rs := by
  unfold runRow at *
  refine h.kept (row := none) ⟨hbl.os, hbl.tape, hbl.output, hbl.size, fun k hk _ => hbl.block k hk⟩ ?_
  cases hv : (Value.slice a rs.length c).ownBlock <;> simp

theorem Hist.below (h : Hist w base hb la lc ls mg) (hbl : Below w.heap.size w w') : Hist w' base hb la lc ls mg := by
  obtain ⟨ow, ho⟩ := h.rows
  refine ⟨h.hle, (hbl.block hb h.lt).trans h.blk, ?_, ow, fun k l hk => ⟨(ho k l hk).1.below hbl, (ho k l hk).2.1.below hbl, (ho k l hk).2.2⟩⟩
  refine h.lev.kept (row := none) ⟨hbl.os, hbl.tape, hbl.output, hbl.size, fun k hk _ => hbl.block k hk⟩ ?_
  cases hv : (Value.slice la ls.length lc).ownBlock <;> simp

/-- a row of runs whose block is not 'row' -/
theorem runRow.kept {a : Option Addr} {c : Nat} {rs : List RunV} {row : Option Nat} (h : runRow w base a c rs) (hg : w.grownBy w' row) (hne : ∀ x, a = some x → some x.block ≠ row) : runRow w' base a c rs := by
  unfold runRow at *
  refine World.ownsRow.kept h hg ?_
  cases a with
  | none => left; rfl
  | some x => right; exact hne x rfl

theorem runRow.nil (w : World) (base : Nat) : runRow w base none 0 [] := World.ownsRow_nil _ _ _ _

theorem runRow.form {a : Option Addr} {c : Nat} {rs : List RunV} (h : runRow w base a c rs) : (a = none ∧ c = 0 ∧ rs = []) ∨ ∃ g, a = some ⟨g, 0, none⟩ ∧ base ≤ g ∧ g < w.heap.size ∧ rs.length ≤ c ∧ c ≤ maxLen ∧ ∃ cur, w.heap[g]? = some (.cells cur 53 (0, 0)) := by
  rcases h.2 with ⟨h1, h2⟩ | ⟨g, cap, cur, hv, h1, h2, h3, h4, _⟩
  · left
    cases hv : rs with
    | nil => rw [hv] at h1; cases h1; exact ⟨rfl, rfl, rfl⟩
    | cons x xs => rw [hv] at h2; simp at h2
  · right
    cases hv
    exact ⟨g, rfl, h1, (Array.getElem?_eq_some_iff.1 h2).1, h3, h4, cur, h2⟩

/-- a block of another type is no block of a row of runs -/
theorem runRow.ne {a : Option Addr} {c : Nat} {rs : List RunV} (h : runRow w base a c rs) {b : Nat} {cs : Array Value} {t : TypeId} {fr : Nat × Nat} (hb : w.heap[b]? = some (.cells cs t fr)) (ht : t ≠ 53) : ∀ x, a = some x → x.block ≠ b := by
  intro x hx
  rcases h.form with ⟨h1, _⟩ | ⟨g, h1, _, _, _, _, cur, h2⟩
  · rw [h1] at hx; cases hx
  · rw [h1] at hx; cases hx
    intro e
    have e' : g = b := e
    rw [e', hb] at h2
    cases h2
    exact ht rfl

theorem Hist.levBlock (h : Hist w base hb la lc ls mg) : ∀ x, la = some x → ∃ cur, w.heap[x.block]? = some (.cells cur 75 (0, 0)) := by
  intro x hx
  rcases h.lev.2 with ⟨h1, _⟩ | ⟨g, cap, cur, hv, _, h2, _⟩
  · subst hx; cases h1
  · subst hx; cases hv; exact ⟨cur, h2⟩

theorem Hist.lev_ne_hb (h : Hist w base hb la lc ls mg) : ∀ x, la = some x → x.block ≠ hb := by
  intro x hx e
  obtain ⟨cur, hc⟩ := h.levBlock x hx
  rw [e, h.blk] at hc
  cases hc

theorem Hist.row_ne_hb (h : Hist w base hb la lc ls mg) {k : Nat} {l : Lv} (hk : ls[k]? = some l) : (∀ x, l.ra = some x → x.block ≠ hb) ∧ (∀ x, l.sa = some x → x.block ≠ hb) := by
  obtain ⟨ow, ho⟩ := h.rows
  exact ⟨(ho k l hk).1.ne h.blk (by decide), (ho k l hk).2.1.ne h.blk (by decide)⟩

theorem Hist.row_ne_lev (h : Hist w base hb la lc ls mg) {k : Nat} {l : Lv} (hk : ls[k]? = some l) (y : Addr) (hy : la = some y) : (∀ x, l.ra = some x → x.block ≠ y.block) ∧ (∀ x, l.sa = some x → x.block ≠ y.block) := by
  obtain ⟨ow, ho⟩ := h.rows
  obtain ⟨cur, hc⟩ := h.levBlock y hy
  exact ⟨(ho k l hk).1.ne hc (by decide), (ho k l hk).2.1.ne hc (by decide)⟩

/-! ### updates -/
/-- one cell of the header: the merging bits -/
theorem Hist.setMg (h : Hist w base hb la lc ls mg) (mg' : Int) : Hist (w.setCell ⟨hb, 2, none⟩ (.int .u64 mg')) base hb la lc ls mg' ∧ w.grownBy (w.setCell ⟨hb, 2, none⟩ (.int .u64 mg')) (some hb) := by
  have hg : w.grownBy (w.setCell ⟨hb, 2, none⟩ (.int .u64 mg')) (some hb) := ⟨rfl, rfl, rfl, by simp, fun k _ hk => heap_setCell_other w ⟨hb, 2, none⟩ k _ (fun e => hk (by simp [e]))⟩
  obtain ⟨ow, ho⟩ := h.rows
  refine ⟨⟨h.hle, ?_, ?_, ow, fun k l hk => ⟨(ho k l hk).1.kept hg ?_, (ho k l hk).2.1.kept hg ?_, (ho k l hk).2.2⟩⟩, hg⟩
  · rw [heap_setCell_same w hb 2 _ 80 _ h.blk]; rfl
  · refine h.lev.kept hg ?_
    cases hla : la with
    | none => left; rfl
    | some x => right; intro e; exact h.lev_ne_hb x hla (by simpa [Value.ownBlock] using e)
  · intro x hx e; exact (h.row_ne_hb hk).1 x hx (by simpa using e)
  · intro x hx e; exact (h.row_ne_hb hk).2 x hx (by simpa using e)

/-- a level more: behind the append to the levels' row, and the store of the new slice -/
theorem Hist.addLev (h : Hist w base hb la lc ls mg) {g cap : Nat} (hg : w.grownBy w' (Value.slice la ls.length lc).ownBlock)
    (hown : w'.ownsRow base 75 7 (.slice (some ⟨g, 0, none⟩) (ls.length + 1) cap) (ls.length + 1) (ls.flatMap Lv.cells ++ lv0.cells)) :
    Hist (w'.setCell ⟨hb, 1, none⟩ (.slice (some ⟨g, 0, none⟩) (ls.length + 1) cap)) base hb (some ⟨g, 0, none⟩) cap (ls ++ [lv0]) mg := by
  have hb' : w'.heap[hb]? = some (.cells #[.slice none 0 0, .slice la ls.length lc, .int .u64 mg] 80 (0, 0)) := by
    rw [hg.block hb h.lt ?_]; exact h.blk
    cases hla : la with
    | none => simp [Value.ownBlock]
    | some x => intro e; exact h.lev_ne_hb x hla (by simpa [Value.ownBlock] using e.symm)
  have hg2 : w'.grownBy (w'.setCell ⟨hb, 1, none⟩ (.slice (some ⟨g, 0, none⟩) (ls.length + 1) cap)) (some hb) := ⟨rfl, rfl, rfl, by simp, fun k _ hk => heap_setCell_other w' ⟨hb, 1, none⟩ k _ (fun e => hk (by simp [e]))⟩
  have hgne : g ≠ hb := by
    intro e
    rcases hown.2 with ⟨h1, _⟩ | ⟨g', cap', cur, hv, _, h2, _⟩
    · cases h1
    · cases hv; rw [e, hb'] at h2; cases h2
  obtain ⟨ow, ho⟩ := h.rows
  refine ⟨h.hle, ?_, ?_, ow, fun k l hk => ?_⟩
  · rw [heap_setCell_same w' hb 1 _ 80 _ hb', List.length_append]; rfl
  · have := hown.kept hg2 (.inr (by simpa [Value.ownBlock] using hgne))
    simpa using this
  · rcases Nat.lt_or_ge k ls.length with hlt | hge
    · rw [List.getElem?_append_left hlt] at hk
      refine ⟨((ho k l hk).1.kept hg ?_).kept hg2 ?_, ((ho k l hk).2.1.kept hg ?_).kept hg2 ?_, (ho k l hk).2.2⟩
      · intro x hx e
        cases hla : la with
        | none => rw [hla] at e; simp [Value.ownBlock] at e
        | some y => rw [hla] at e; exact (h.row_ne_lev hk y hla).1 x hx (by simpa [Value.ownBlock] using e)
      · intro x hx e; exact (h.row_ne_hb hk).1 x hx (by simpa using e)
      · intro x hx e
        cases hla : la with
        | none => rw [hla] at e; simp [Value.ownBlock] at e
        | some y => rw [hla] at e; exact (h.row_ne_lev hk y hla).2 x hx (by simpa [Value.ownBlock] using e)
      · intro x hx e; exact (h.row_ne_hb hk).2 x hx (by simpa using e)
    · rw [List.getElem?_append_right hge] at hk
      have : l = lv0 := by
        cases hd : k - ls.length with
        | zero => rw [hd] at hk; simpa using hk.symm
        | succ n => rw [hd] at hk; simp at hk
      subst this
      exact ⟨runRow.nil _ _, runRow.nil _ _, (fun a ha => nomatch ha), (fun a ha => nomatch ha)⟩

/-- one cell of a level, its rows as they were -/
theorem Hist.setLv {lb : Nat} (h : Hist w base hb (some ⟨lb, 0, none⟩) lc ls mg) {k j : Nat} {l l' : Lv} {u : Value} (hk : ls[k]? = some l) (hj : j < 7) (hu : l'.cells = l.cells.set j u)
    (hr : runRow w base l'.ra l'.rc l'.runs) (hs : runRow w base l'.sa l'.sc l'.spare) (ea : l'.ra = l.ra) (es : l'.sa = l.sa) :
    Hist (w.setCell ⟨lb, k * 7 + j, none⟩ u) base hb (some ⟨lb, 0, none⟩) lc (ls.set k l') mg ∧ w.grownBy (w.setCell ⟨lb, k * 7 + j, none⟩ u) (some lb) := by
  obtain ⟨ow, ho⟩ := h.rows
  obtain ⟨s1, s2⟩ := h.lev.stored (k * 7 + j) u
  rw [fm_set Lv.cells 7 Lv.len ls k j l l' u hk hj hu] at s1
  refine ⟨⟨h.hle, ?_, by simpa using s1, ow, fun k' x hk' => ?_⟩, s2⟩
  · rw [List.length_set, s2.block hb h.lt (by intro e; exact h.lev_ne_hb _ rfl (by simpa using e.symm))]; exact h.blk
  · have nel : ∀ {k' : Nat} {x : Lv}, ls[k']? = some x → (∀ y, x.ra = some y → some y.block ≠ some lb) ∧ (∀ y, x.sa = some y → some y.block ≠ some lb) := by
      intro k' x hx
      have := h.row_ne_lev hx ⟨lb, 0, none⟩ rfl
      exact ⟨fun y hy e => this.1 y hy (by simpa using e), fun y hy e => this.2 y hy (by simpa using e)⟩
    by_cases e : k = k'
    · subst e
      have hlt : k < ls.length := (List.getElem?_eq_some_iff.1 hk).1
      rw [List.getElem?_set_self hlt] at hk'
      cases hk'
      have := ho k l hk
      exact ⟨hr.kept s2 (fun y hy => (nel hk).1 y (ea ▸ hy)), hs.kept s2 (fun y hy => (nel hk).2 y (es ▸ hy)), fun a ha => this.2.2.1 a (ea ▸ ha), fun a ha => this.2.2.2 a (es ▸ ha)⟩
    · rw [List.getElem?_set_ne e] at hk'
      have := ho k' x hk'
      exact ⟨this.1.kept s2 (nel hk').1, this.2.1.kept s2 (nel hk').2, this.2.2⟩

/-- the runs of a level, behind an append to their row: the cell of the level stored -/
theorem Hist.setRuns {lb : Nat} (h : Hist w base hb (some ⟨lb, 0, none⟩) lc ls mg) {k : Nat} {l : Lv} {r : RunV} (hk : ls[k]? = some l) {g cap : Nat}
    (hg : w.grownBy w' (Value.slice l.ra l.runs.length l.rc).ownBlock)
    (hown : w'.ownsRow base 53 3 (.slice (some ⟨g, 0, none⟩) (l.runs.length + 1) cap) (l.runs.length + 1) (l.runs.flatMap RunV.cells ++ r.cells))
    (hat : (Value.slice l.ra l.runs.length l.rc).ownBlock = some g ∨ w.heap.size ≤ g) :
    Hist (w'.setCell ⟨lb, k * 7, none⟩ (.slice (some ⟨g, 0, none⟩) (l.runs.length + 1) cap)) base hb (some ⟨lb, 0, none⟩) lc (ls.set k { l with ra := some ⟨g, 0, none⟩, rc := cap, runs := l.runs ++ [r] }) mg := by
  obtain ⟨ow, ho⟩ := h.rows
  have hlt : k < ls.length := (List.getElem?_eq_some_iff.1 hk).1
  -- the blocks of all other rows are not the appended one
  have far : ∀ k' x, ls[k']? = some x → (∀ y, x.sa = some y → some y.block ≠ (Value.slice l.ra l.runs.length l.rc).ownBlock ∧ y.block ≠ g) ∧ (k' ≠ k → ∀ y, x.ra = some y → some y.block ≠ (Value.slice l.ra l.runs.length l.rc).ownBlock ∧ y.block ≠ g) := by
    intro k' x hx
    have old : ∀ y, (x.sa = some y ∨ x.ra = some y) → y.block < w.heap.size := by
      intro y hy
      rcases hy with hy | hy
      · rcases (ho k' x hx).2.1.form with ⟨h1, _⟩ | ⟨g', h1, _, h2, _⟩
        · rw [h1] at hy; cases hy
        · rw [h1] at hy; cases hy; exact h2
      · rcases (ho k' x hx).1.form with ⟨h1, _⟩ | ⟨g', h1, _, h2, _⟩
        · rw [h1] at hy; cases hy
        · rw [h1] at hy; cases hy; exact h2
    have tag : ∀ z, l.ra = some z → ow z.block = 2 * k := (ho k l hk).2.2.1
    have one : ∀ y : Addr, (∀ z, l.ra = some z → y.block ≠ z.block) → y.block < w.heap.size → some y.block ≠ (Value.slice l.ra l.runs.length l.rc).ownBlock ∧ y.block ≠ g := by
      intro y hy hy2
      have h1 : some y.block ≠ (Value.slice l.ra l.runs.length l.rc).ownBlock := by
        cases hla : l.ra with
        | none => simp [Value.ownBlock]
        | some z => intro e; exact hy z hla (by simpa [Value.ownBlock] using e)
      refine ⟨h1, ?_⟩
      rcases hat with hat | hat
      · intro e; rw [hat, e] at h1; exact h1 rfl
      · omega
    refine ⟨fun y hy => one y (fun z hz e => ?_) (old y (.inl hy)), fun hne y hy => one y (fun z hz e => ?_) (old y (.inr hy))⟩
    · have := (ho k' x hx).2.2.2 y hy
      have := tag z hz
      rw [e] at *
      omega
    · have := (ho k' x hx).2.2.1 y hy
      have := tag z hz
      rw [e] at *
      omega
  have hne : ∀ b t cs fr, w.heap[b]? = some (.cells cs t fr) → t ≠ 53 → some b ≠ (Value.slice l.ra l.runs.length l.rc).ownBlock := by
    intro b t cs fr hb' ht
    cases hla : l.ra with
    | none => simp [Value.ownBlock]
    | some z => intro e; exact (ho k l hk).1.ne hb' ht z hla (by simpa [Value.ownBlock] using e.symm)
  -- the world behind the append, with the levels as they were
  have lev' : w'.ownsRow base 75 7 (.slice (some ⟨lb, 0, none⟩) ls.length lc) ls.length (ls.flatMap Lv.cells) := by
    obtain ⟨cur, hcur⟩ := h.levBlock _ rfl
    exact h.lev.kept hg (.inr (hne lb 75 cur (0, 0) hcur (by decide)))
  obtain ⟨s1, s2⟩ := lev'.stored (k * 7 + 0) (.slice (some ⟨g, 0, none⟩) (l.runs.length + 1) cap)
  rw [fm_set Lv.cells 7 Lv.len ls k 0 l { l with ra := some ⟨g, 0, none⟩, rc := cap, runs := l.runs ++ [r] } _ hk (by omega) (by simp [Lv.cells])] at s1
  rw [Nat.add_zero] at s1 s2
  have glb : g ≠ lb := by
    intro e
    rcases hown.2 with ⟨h1, _⟩ | ⟨g', cap', cur, hv, _, h2, _⟩
    · cases h1
    · cases hv
      rcases lev'.2 with ⟨h1, _⟩ | ⟨g'', cap'', cur', hv', _, h2', _⟩
      · cases h1
      · cases hv'; rw [e, h2'] at h2; cases h2
  refine ⟨h.hle, ?_, by simpa using s1, fun b => if b = g then 2 * k else ow b, fun k' x hk' => ?_⟩
  · have e1 : w'.heap[hb]? = w.heap[hb]? := hg.block hb h.lt (hne hb 80 _ _ h.blk (by decide))
    rw [s2.block hb (by have := hg.size; have := h.lt; omega) (by intro e; exact h.lev_ne_hb _ rfl (by simpa using e.symm)), e1, List.length_set]; exact h.blk
  · have nel : ∀ {k' : Nat} {x : Lv}, ls[k']? = some x → (∀ y, x.ra = some y → some y.block ≠ some lb) ∧ (∀ y, x.sa = some y → some y.block ≠ some lb) := by
      intro k' x hx
      have := h.row_ne_lev hx ⟨lb, 0, none⟩ rfl
      exact ⟨fun y hy e => this.1 y hy (by simpa using e), fun y hy e => this.2 y hy (by simpa using e)⟩
    by_cases e : k = k'
    · subst e
      rw [List.getElem?_set_self hlt] at hk'
      cases hk'
      have ho' := ho k l hk
      refine ⟨?_, (ho'.2.1.kept hg (fun y hy => ((far k l hk).1 y hy).1)).kept s2 (nel hk).2, ?_, ?_⟩
      · unfold runRow
        simp only [List.length_append, List.length_cons, List.length_nil, Nat.zero_add, List.flatMap_append, List.flatMap_cons, List.flatMap_nil, List.append_nil]
        exact hown.kept s2 (.inr (by simpa [Value.ownBlock] using glb))
      · intro a ha; cases ha; simp
      · intro a ha
        have := ((far k l hk).1 a ha).2
        simp [this, ho'.2.2.2 a ha]
    · rw [List.getElem?_set_ne e] at hk'
      have ho' := ho k' x hk'
      have f1 := (far k' x hk').1
      have f2 := (far k' x hk').2 (by omega)
      refine ⟨(ho'.1.kept hg (fun y hy => (f2 y hy).1)).kept s2 (nel hk').1, (ho'.2.1.kept hg (fun y hy => (f1 y hy).1)).kept s2 (nel hk').2, ?_, ?_⟩
      · intro a ha; simp [(f2 a ha).2, ho'.2.2.1 a ha]
      · intro a ha; simp [(f1 a ha).2, ho'.2.2.2 a ha]
/-! ### a block that is none of the history's -/
def offRows (ls : List Lv) (N : Nat) : Prop := ∀ (k : Nat) (l : Lv), ls[k]? = some l → (∀ x : Addr, l.ra = some x → x.block ≠ N) ∧ (∀ x : Addr, l.sa = some x → x.block ≠ N)

theorem Hist.off (h : Hist w base hb la lc ls mg) {N : Nat} (hN : w.heap.size ≤ N) : offRows ls N := by
  obtain ⟨ow, ho⟩ := h.rows
  intro k l hk
  refine ⟨fun x hx => ?_, fun x hx => ?_⟩
  · rcases (ho k l hk).1.form with ⟨h1, _⟩ | ⟨g', h1, _, h2, _⟩
    · rw [h1] at hx; cases hx
    · rw [h1] at hx; cases hx; show g' ≠ N; omega
  · rcases (ho k l hk).2.1.form with ⟨h1, _⟩ | ⟨g', h1, _, h2, _⟩
    · rw [h1] at hx; cases hx
    · rw [h1] at hx; cases hx; show g' ≠ N; omega

theorem offRows.add {N : Nat} (h : offRows ls N) : offRows (ls ++ [lv0]) N := by
  intro k l hk
  rcases Nat.lt_or_ge k ls.length with hlt | hge
  · rw [List.getElem?_append_left hlt] at hk; exact h k l hk
  · rw [List.getElem?_append_right hge] at hk
    have : l = lv0 := by
      cases hd : k - ls.length with
      | zero => rw [hd] at hk; simpa using hk.symm
      | succ n => rw [hd] at hk; simp at hk
    subst this
    exact ⟨(fun a ha => nomatch ha), (fun a ha => nomatch ha)⟩

theorem offRows.set {N k : Nat} {l' : Lv} (h : offRows ls N) (h1 : ∀ x, l'.ra = some x → x.block ≠ N) (h2 : ∀ x, l'.sa = some x → x.block ≠ N) : offRows (ls.set k l') N := by
  intro k' l hk
  by_cases e : k = k'
  · subst e
    rcases Nat.lt_or_ge k ls.length with hlt | hge
    · rw [List.getElem?_set_self hlt] at hk; cases hk; exact ⟨h1, h2⟩
    · rw [List.set_eq_of_length_le hge] at hk; exact h k l hk
  · rw [List.getElem?_set_ne e] at hk; exact h k' l hk

theorem Hist.other (h : Hist w base hb la lc ls mg) {N : Nat} {cs : Array Value} {t : TypeId} {fr : Nat × Nat} (hN : w.heap[N]? = some (.cells cs t fr)) (t1 : t ≠ 80) (t2 : t ≠ 75) (ho : offRows ls N)
    (hg : w.grownBy w' (some N)) : Hist w' base hb la lc ls mg := by
  obtain ⟨ow, hr⟩ := h.rows
  refine ⟨h.hle, ?_, ?_, ow, fun k l hk => ⟨(hr k l hk).1.kept hg ?_, (hr k l hk).2.1.kept hg ?_, (hr k l hk).2.2⟩⟩
  · rw [hg.block hb h.lt ?_]; exact h.blk
    intro e
    have e' : hb = N := by simpa using e
    rw [← e', h.blk] at hN; cases hN; exact t1 rfl
  · refine h.lev.kept hg ?_
    cases hla : la with
    | none => left; rfl
    | some x =>
      right; intro e
      have e' : x.block = N := by simpa [Value.ownBlock] using e
      obtain ⟨cur, hc⟩ := h.levBlock x hla
      rw [e', hN] at hc; cases hc; exact t2 rfl
  · intro x hx e; exact (ho k l hk).1 x hx (by simpa using e)
  · intro x hx e; exact (ho k l hk).2 x hx (by simpa using e)

theorem grownBy_set (w : World) (N j : Nat) (u : Value) : w.grownBy (w.setCell ⟨N, j, none⟩ u) (some N) := ⟨rfl, rfl, rfl, by simp, fun k _ hk => heap_setCell_other w ⟨N, j, none⟩ k _ (fun e => hk (by simp [e]))⟩
theorem grownBy_trans {a b c : World} {row : Option Nat} (h : a.grownBy b row) (k : b.grownBy c row) : a.grownBy c row :=
  ⟨k.os.trans h.os, k.tape.trans h.tape, k.output.trans h.output, Nat.le_trans h.size k.size, fun i hi hne => (k.block i (by have := h.size; omega) hne).trans (h.block i hi hne)⟩
theorem grownBy_set3 (w : World) (N a b c : Nat) (u v x : Value) : w.grownBy (((w.setCell ⟨N, a, none⟩ u).setCell ⟨N, b, none⟩ v).setCell ⟨N, c, none⟩ x) (some N) :=
  grownBy_trans (grownBy_trans (grownBy_set _ _ _ _) (grownBy_set _ _ _ _)) (grownBy_set _ _ _ _)
theorem below_grown {B N : Nat} {a b : World} (h : a.grownBy b (some N)) (hB : B ≤ N) (hs : B ≤ a.heap.size) : Below B a b :=
  ⟨h.os, h.tape, h.output, h.size, fun k hk => h.block k (by omega) (by simp; omega)⟩
theorem below_grownO {B : Nat} {o : Option Nat} {a b : World} (h : a.grownBy b o) (hB : ∀ N, o = some N → B ≤ N) (hs : B ≤ a.heap.size) : Below B a b :=
  ⟨h.os, h.tape, h.output, h.size, fun k hk => h.block k (by omega) (by intro e; have := hB k e.symm; omega)⟩

/-- the three cells of a block of one run written -/
theorem Hist.set3 (h : Hist w base hb la lc ls mg) {N : Nat} {cs : Array Value} (hN : w.heap[N]? = some (.cells cs 53 (0, 0))) (ho : offRows ls N) (hb' : base ≤ N) (u v x : Value) :
    Hist (((w.setCell ⟨N, 0, none⟩ u).setCell ⟨N, 1, none⟩ v).setCell ⟨N, 2, none⟩ x) base hb la lc ls mg ∧ Below base w (((w.setCell ⟨N, 0, none⟩ u).setCell ⟨N, 1, none⟩ v).setCell ⟨N, 2, none⟩ x) :=
  ⟨h.other hN (by decide) (by decide) ho (grownBy_set3 w N 0 1 2 u v x), below_grown (grownBy_set3 w N 0 1 2 u v x) hb' (by have := h.lt; have := h.hle; omega)⟩
theorem Hist.base_le (h : Hist w base hb la lc ls mg) : base ≤ w.heap.size := by have := h.lt; have := h.hle; omega
theorem Hist.lev_base (h : Hist w base hb la lc ls mg) : ∀ x, la = some x → base ≤ x.block := by
  intro x hx
  rcases h.lev.2 with ⟨h1, _⟩ | ⟨g', cap', cur, hv, hb3, _⟩
  · rw [hx] at h1; cases h1
  · rw [hx] at hv; cases hv; exact hb3
theorem runRow.from_base {a : Option Addr} {c : Nat} {rs : List RunV} (h : runRow w base a c rs) : ∀ x, a = some x → base ≤ x.block := by
  intro x hx
  rcases h.form with ⟨h1, _⟩ | ⟨g, h1, h2, _⟩
  · rw [h1] at hx; cases hx
  · rw [h1] at hx; cases hx; exact h2
end
/-! ### what a call on a history leaves alone -/
def Off (hb : Nat) (la : Option Addr) (ls : List Lv) (N : Nat) : Prop := N ≠ hb ∧ (∀ x : Addr, la = some x → x.block ≠ N) ∧ offRows ls N

structure Fr (w w' : World) (hb : Nat) (la : Option Addr) (ls : List Lv) (la' : Option Addr) (ls' : List Lv) : Prop where
  os : w'.os = w.os
  tape : w'.tape = w.tape
  output : w'.output = w.output
  size : w.heap.size ≤ w'.heap.size
  keep : ∀ N, N < w.heap.size → Off hb la ls N → w'.heap[N]? = w.heap[N]? ∧ Off hb la' ls' N

section
variable {w w1 w2 w' : World} {base hb : Nat} {la la1 la2 la' : Option Addr} {lc : Nat} {ls ls1 ls2 ls' : List Lv} {mg : Int}

theorem Fr.trans (h : Fr w w1 hb la ls la1 ls1) (k : Fr w1 w2 hb la1 ls1 la2 ls2) : Fr w w2 hb la ls la2 ls2 :=
  ⟨k.os.trans h.os, k.tape.trans h.tape, k.output.trans h.output, Nat.le_trans h.size k.size, fun N hN ho =>
    let ⟨a, b⟩ := h.keep N hN ho
    let ⟨c, d⟩ := k.keep N (by have := h.size; omega) b
    ⟨c.trans a, d⟩⟩

theorem Fr.of_below (h : Below w.heap.size w w') : Fr w w' hb la ls la ls := ⟨h.os, h.tape, h.output, h.size, fun N hN ho => ⟨h.block N hN, ho⟩⟩

theorem Fr.of_grown {row : Option Nat} (h : w.grownBy w' row) (hr : ∀ N, Off hb la ls N → some N ≠ row) : Fr w w' hb la ls la ls := ⟨h.os, h.tape, h.output, h.size, fun N hN ho => ⟨h.block N hN (hr N ho), ho⟩⟩

theorem Fr.turn (h : Fr w w' hb la ls la1 ls1) (hr : ∀ N, N < w.heap.size → Off hb la1 ls1 N → Off hb la2 ls2 N) : Fr w w' hb la ls la2 ls2 :=
  ⟨h.os, h.tape, h.output, h.size, fun N hN ho => ⟨(h.keep N hN ho).1, hr N hN (h.keep N hN ho).2⟩⟩

/-- a block made since: writing it is no matter -/
theorem Fr.own {row : Nat} (h : Fr w w1 hb la ls la1 ls1) (hg : w1.grownBy w2 (some row)) (hr : w.heap.size ≤ row) : Fr w w2 hb la ls la1 ls1 :=
  ⟨hg.os.trans h.os, hg.tape.trans h.tape, hg.output.trans h.output, Nat.le_trans h.size hg.size, fun N hN ho =>
    ⟨(hg.block N (by have := h.size; omega) (by simp; omega)).trans (h.keep N hN ho).1, (h.keep N hN ho).2⟩⟩

theorem Hist.off_below (h : Hist w base hb la lc ls mg) {N : Nat} (hN : N < base) : Off hb la ls N := by
  have hle := h.hle
  refine ⟨by omega, fun x hx => by have := h.lev_base x hx; omega, fun k l hk => ?_⟩
  obtain ⟨ow, ho⟩ := h.rows
  exact ⟨fun x hx => by have := (ho k l hk).1.from_base x hx; omega, fun x hx => by have := (ho k l hk).2.1.from_base x hx; omega⟩

theorem Hist.off_new (h : Hist w base hb la lc ls mg) {N : Nat} (hN : w.heap.size ≤ N) : Off hb la ls N := by
  have hlt := h.lt
  refine ⟨by omega, fun x hx => ?_, h.off hN⟩
  obtain ⟨cur, hc⟩ := h.levBlock x hx
  have := (Array.getElem?_eq_some_iff.1 hc).1
  omega

theorem Fr.below (h : Hist w base hb la lc ls mg) (hf : Fr w w' hb la ls la' ls') : Below base w w' :=
  ⟨hf.os, hf.tape, hf.output, hf.size, fun k hk => (hf.keep k (by have := h.base_le; omega) (h.off_below hk)).1⟩

/-- the merged run of a level written -/
theorem Hist.setMerged {lb : Nat} (h : Hist w base hb (some ⟨lb, 0, none⟩) lc ls mg) {k : Nat} {l : Lv} (hk : ls[k]? = some l) (r : RunV) :
    Hist (((w.setCell ⟨lb, k * 7 + 1, none⟩ (.int .i64 r.n)).setCell ⟨lb, k * 7 + 2, none⟩ (.slice r.ta r.tl r.tc)).setCell ⟨lb, k * 7 + 3, none⟩ (.slice r.sa r.sl r.sc)) base hb (some ⟨lb, 0, none⟩) lc (ls.set k { l with m := r }) mg ∧
    w.grownBy (((w.setCell ⟨lb, k * 7 + 1, none⟩ (.int .i64 r.n)).setCell ⟨lb, k * 7 + 2, none⟩ (.slice r.ta r.tl r.tc)).setCell ⟨lb, k * 7 + 3, none⟩ (.slice r.sa r.sl r.sc)) (some lb) := by
  have hlt : k < ls.length := (List.getElem?_eq_some_iff.1 hk).1
  obtain ⟨ow, ho⟩ := h.rows
  obtain ⟨a1, g1⟩ := h.setLv (j := 1) (l' := { l with m := { l.m with n := r.n } }) (u := .int .i64 r.n) hk (by omega) rfl (ho k l hk).1 (ho k l hk).2.1 rfl rfl
  obtain ⟨ow1, ho1⟩ := a1.rows
  have hk1 : (ls.set k { l with m := { l.m with n := r.n } })[k]? = some { l with m := { l.m with n := r.n } } := List.getElem?_set_self hlt
  obtain ⟨a2, g2⟩ := a1.setLv (j := 2) (l' := { l with m := { l.m with n := r.n, ta := r.ta, tl := r.tl, tc := r.tc } }) (u := .slice r.ta r.tl r.tc) hk1 (by omega) rfl (ho1 k _ hk1).1 (ho1 k _ hk1).2.1 rfl rfl
  rw [List.set_set] at a2
  obtain ⟨ow2, ho2⟩ := a2.rows
  have hk2 : (ls.set k { l with m := { l.m with n := r.n, ta := r.ta, tl := r.tl, tc := r.tc } })[k]? = some { l with m := { l.m with n := r.n, ta := r.ta, tl := r.tl, tc := r.tc } } := List.getElem?_set_self hlt
  obtain ⟨a3, g3⟩ := a2.setLv (j := 3) (l' := { l with m := r }) (u := .slice r.sa r.sl r.sc) hk2 (by omega) rfl (ho2 k _ hk2).1 (ho2 k _ hk2).2.1 rfl rfl
  rw [List.set_set] at a3
  exact ⟨a3, grownBy_trans (grownBy_trans g1 g2) g3⟩

theorem Hist.ne_lev {lb : Nat} (h : Hist w base hb (some ⟨lb, 0, none⟩) lc ls mg) : hb ≠ lb := fun e => h.lev_ne_hb _ rfl e.symm
theorem Hist.lev_lt {lb : Nat} (h : Hist w base hb (some ⟨lb, 0, none⟩) lc ls mg) : lb < w.heap.size := by
  obtain ⟨cur, hc⟩ := h.levBlock _ rfl
  exact (Array.getElem?_eq_some_iff.1 hc).1
end
end Go.Proofs.Qxb6601843a
