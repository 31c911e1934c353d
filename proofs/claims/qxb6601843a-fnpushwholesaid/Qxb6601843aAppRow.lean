import Derived.Test.Qxb6601843aPush
namespace Go.Proofs.Qxb6601843a
open Go.RowKit
section
variable {w w' : World} {base hb : Nat} {la : Option Addr} {lc : Nat} {ls : List Lv} {mg : Int}
/-- the spares of a level, behind an append to their row: the cell of the level stored -/
theorem Hist.setSpares {lb : Nat} (h : Hist w base hb (some ⟨lb, 0, none⟩) lc ls mg) {k : Nat} {l : Lv} {r : RunV} (hk : ls[k]? = some l) {g cap : Nat}
    (hg : w.grownBy w' (Value.slice l.sa l.spare.length l.sc).ownBlock)
    (hown : w'.ownsRow base 53 3 (.slice (some ⟨g, 0, none⟩) (l.spare.length + 1) cap) (l.spare.length + 1) (l.spare.flatMap RunV.cells ++ r.cells))
    (hat : (Value.slice l.sa l.spare.length l.sc).ownBlock = some g ∨ w.heap.size ≤ g) :
    Hist (w'.setCell ⟨lb, k * 7 + 6, none⟩ (.slice (some ⟨g, 0, none⟩) (l.spare.length + 1) cap)) base hb (some ⟨lb, 0, none⟩) lc (ls.set k { l with sa := some ⟨g, 0, none⟩, sc := cap, spare := l.spare ++ [r] }) mg := by
  obtain ⟨ow, ho⟩ := h.rows
  have hlt : k < ls.length := (List.getElem?_eq_some_iff.1 hk).1
  -- the blocks of all other rows are not the appended one
  have far : ∀ k' x, ls[k']? = some x → (∀ y, x.ra = some y → some y.block ≠ (Value.slice l.sa l.spare.length l.sc).ownBlock ∧ y.block ≠ g) ∧ (k' ≠ k → ∀ y, x.sa = some y → some y.block ≠ (Value.slice l.sa l.spare.length l.sc).ownBlock ∧ y.block ≠ g) := by
    intro k' x hx
    have old : ∀ y, (x.sa = some y ∨ x.ra = some y) → y.block < w.heap.size := by
      intro y hy
      rcases hy with hy | hy
      · rcases (ho k' x hx).2.1.form with ⟨h1, _⟩ | ⟨g', h1, _, h2, _⟩
        · rw [h1] at hy; cases hy
        · rw [h1] at hy; cases hy; exact h2
      · rcases (ho k' x hx).1.form with ⟨h1, _⟩ | ⟨g', h1, _, h2, _⟩
        · rw [h1] at hy; cases hy
        · rw [h1] at hy; cases hy; exact h2
    have tag : ∀ z, l.sa = some z → ow z.block = 2 * k + 1 := (ho k l hk).2.2.2
    have one : ∀ y : Addr, (∀ z, l.sa = some z → y.block ≠ z.block) → y.block < w.heap.size → some y.block ≠ (Value.slice l.sa l.spare.length l.sc).ownBlock ∧ y.block ≠ g := by
      intro y hy hy2
      have h1 : some y.block ≠ (Value.slice l.sa l.spare.length l.sc).ownBlock := by
        cases hla : l.sa with
        | none => simp [Value.ownBlock]
        | some z => intro e; exact hy z hla (by simpa [Value.ownBlock] using e)
      refine ⟨h1, ?_⟩
      rcases hat with hat | hat
      · intro e; rw [hat, e] at h1; exact h1 rfl
      · omega
    refine ⟨fun y hy => one y (fun z hz e => ?_) (old y (.inr hy)), fun hne y hy => one y (fun z hz e => ?_) (old y (.inl hy))⟩
    · have := (ho k' x hx).2.2.1 y hy
      have := tag z hz
      rw [e] at *
      omega
    · have := (ho k' x hx).2.2.2 y hy
      have := tag z hz
      rw [e] at *
      omega
  have hne : ∀ b t cs fr, w.heap[b]? = some (.cells cs t fr) → t ≠ 53 → some b ≠ (Value.slice l.sa l.spare.length l.sc).ownBlock := by
    intro b t cs fr hb' ht
    cases hla : l.sa with
    | none => simp [Value.ownBlock]
    | some z => intro e; exact (ho k l hk).2.1.ne hb' ht z hla (by simpa [Value.ownBlock] using e.symm)
  -- the world behind the append, with the levels as they were
  have lev' : w'.ownsRow base 75 7 (.slice (some ⟨lb, 0, none⟩) ls.length lc) ls.length (ls.flatMap Lv.cells) := by
    obtain ⟨cur, hcur⟩ := h.levBlock _ rfl
    exact h.lev.kept hg (.inr (hne lb 75 cur (0, 0) hcur (by decide)))
  obtain ⟨s1, s2⟩ := lev'.stored (k * 7 + 6) (.slice (some ⟨g, 0, none⟩) (l.spare.length + 1) cap)
  rw [fm_set Lv.cells 7 Lv.len ls k 6 l { l with sa := some ⟨g, 0, none⟩, sc := cap, spare := l.spare ++ [r] } _ hk (by omega) (by simp [Lv.cells])] at s1
  have glb : g ≠ lb := by
    intro e
    rcases hown.2 with ⟨h1, _⟩ | ⟨g', cap', cur, hv, _, h2, _⟩
    · cases h1
    · cases hv
      rcases lev'.2 with ⟨h1, _⟩ | ⟨g'', cap'', cur', hv', _, h2', _⟩
      · cases h1
      · cases hv'; rw [e, h2'] at h2; cases h2
  refine ⟨h.hle, ?_, by simpa using s1, fun b => if b = g then 2 * k + 1 else ow b, fun k' x hk' => ?_⟩
  · have e1 : w'.heap[hb]? = w.heap[hb]? := hg.block hb h.lt (hne hb 80 _ _ h.blk (by decide))
    rw [s2.block hb (by have := hg.size; have := h.lt; omega) (by intro e; exact h.lev_ne_hb _ rfl (by simpa using e.symm)), e1, List.length_set]; exact h.blk
  · have nel : ∀ {k' : Nat} {x : Lv}, ls[k']? = some x → (∀ y, x.ra = some y → some y.block ≠ some lb) ∧ (∀ y, x.sa = some y → some y.block ≠ some lb) := by
      intro k' x hx
      have := h.row_ne_lev hx ⟨lb, 0, none⟩ rfl
      exact ⟨fun y hy e => this.1 y hy (by simpa using e), fun y hy e => this.2 y hy (by simpa using e)⟩
    by_cases e : k = k'
    · subst e
      rw [List.getElem?_set_self hlt] at hk'
      cases hk'
      have ho' := ho k l hk
      refine ⟨(ho'.1.kept hg (fun y hy => ((far k l hk).1 y hy).1)).kept s2 (nel hk).1, ?_, ?_, ?_⟩
      · unfold runRow
        simp only [List.length_append, List.length_cons, List.length_nil, Nat.zero_add, List.flatMap_append, List.flatMap_cons, List.flatMap_nil, List.append_nil]
        exact hown.kept s2 (.inr (by simpa [Value.ownBlock] using glb))
      · intro a ha
        have := ((far k l hk).1 a ha).2
        simp [this, ho'.2.2.1 a ha]
      · intro a ha; cases ha; simp
    · rw [List.getElem?_set_ne e] at hk'
      have ho' := ho k' x hk'
      have f1 := (far k' x hk').1
      have f2 := (far k' x hk').2 (by omega)
      refine ⟨(ho'.1.kept hg (fun y hy => (f1 y hy).1)).kept s2 (nel hk').1, (ho'.2.1.kept hg (fun y hy => (f2 y hy).1)).kept s2 (nel hk').2, ?_, ?_⟩
      · intro a ha; simp [(f1 a ha).2, ho'.2.2.1 a ha]
      · intro a ha; simp [(f2 a ha).2, ho'.2.2.2 a ha]
end

/-- an append of one run to a level's runs, at whatever world that holds the history and, in a block of its own, the run -/
theorem append_runs (W : World) (base hb lb : Nat) (lc : Nat) (ls : List Lv) (mg : Int) (h : Hist W base hb (some ⟨lb, 0, none⟩) lc ls mg) (k : Nat) (l : Lv) (hl : ls[k]? = some l) (hn : l.runs.length ≤ 1000000) (r : RunV) (s : Nat)
    (hs : W.heap[s]? = some (.cells r.cells.toArray 53 (0, 0))) :
    ∃ gg cap w1, appRun Try.prog 73 73 (.slice l.ra l.runs.length l.rc) (.slice (some ⟨s, 0, none⟩) 1 1) W = .ok (.slice (some ⟨gg, 0, none⟩) (l.runs.length + 1) cap) w1 ∧
      w1.cell? ⟨hb, 1, none⟩ = some (.slice (some ⟨lb, 0, none⟩) ls.length lc) ∧ w1.cell? ⟨lb, k * 7, none⟩ = some (.slice l.ra l.runs.length l.rc) ∧ w1.frozen? ⟨lb, k * 7, none⟩ = false ∧
      Hist (w1.setCell ⟨lb, k * 7, none⟩ (.slice (some ⟨gg, 0, none⟩) (l.runs.length + 1) cap)) base hb (some ⟨lb, 0, none⟩) lc (ls.set k { l with ra := some ⟨gg, 0, none⟩, rc := cap, runs := l.runs ++ [r] }) mg ∧
      Fr W (w1.setCell ⟨lb, k * 7, none⟩ (.slice (some ⟨gg, 0, none⟩) (l.runs.length + 1) cap)) hb (some ⟨lb, 0, none⟩) ls (some ⟨lb, 0, none⟩) (ls.set k { l with ra := some ⟨gg, 0, none⟩, rc := cap, runs := l.runs ++ [r] }) := by
  obtain ⟨i0, hi, hz0, hz1, hz2⟩ := info_parts Try.info53
  have hle := h.base_le
  obtain ⟨ow, ho⟩ := h.rows
  have hrow := (ho k l hl).1
  unfold runRow at hrow
  have nhb : some hb ≠ (Value.slice l.ra l.runs.length l.rc).ownBlock := by
    cases hla : l.ra with
    | none => simp [Value.ownBlock]
    | some x => intro e; exact (h.row_ne_hb hl).1 x hla (by simpa [Value.ownBlock] using e.symm)
  have nlb : some lb ≠ (Value.slice l.ra l.runs.length l.rc).ownBlock := by
    cases hla : l.ra with
    | none => simp [Value.ownBlock]
    | some x => intro e; exact (h.row_ne_lev hl ⟨lb, 0, none⟩ rfl).1 x hla (by simpa [Value.ownBlock] using e.symm)
  obtain ⟨gg, cap, w1, hrun, hown1, hgrow, hat, hlt1⟩ := run_append_lies (P := Try.prog) W 73 73 base 53 i0 _ 3 56 Try.underlying73 hi hz0 hz1 hz2 rfl (by omega) (.slice l.ra l.runs.length l.rc) l.runs.length (l.runs.flatMap RunV.cells) hrow
        ⟨s, 0, none⟩ 1 1 r.cells (by rfl) (World.news_of_block (cs := r.cells.toArray) (t := 53) (fr := (0, 0)) hs) r.one
        (by omega) (by unfold maxLen; omega) (by omega) hle W.heap.size rfl
  have ob : ∀ N, Off hb (some ⟨lb, 0, none⟩) ls N → some N ≠ (Value.slice l.ra l.runs.length l.rc).ownBlock := by
    intro N hN
    cases hla : l.ra with
    | none => simp [Value.ownBlock]
    | some x => intro e; exact (hN.2.2 k l hl).1 x hla (by simpa [Value.ownBlock] using e.symm)
  refine ⟨gg, cap, w1, hrun, ?_, ?_, ?_, h.setRuns hl hgrow hown1 (hat.imp id (fun e => by omega)), ?_⟩
  · rw [hgrow.cell_far _ h.lt nhb]; exact h.c1
  · rw [hgrow.cell_far _ h.lev_lt nlb]; have := h.cell hl 0 (by omega); simpa [Lv.cells] using this
  · rw [hgrow.frozen_far _ h.lev_lt nlb]; exact h.lfree _
  · have b1 : Fr W w1 hb (some ⟨lb, 0, none⟩) ls (some ⟨lb, 0, none⟩) ls := Fr.of_grown hgrow ob
    have b2 := b1.trans (Fr.of_grown (grownBy_set w1 lb (k * 7) (.slice (some ⟨gg, 0, none⟩) (l.runs.length + 1) cap)) (fun N hN e => hN.2.1 _ rfl (by simpa using e.symm)))
    refine b2.turn (fun N hN ho' => ⟨ho'.1, ho'.2.1, ho'.2.2.set (fun x hx => ?_) (ho'.2.2 k l hl).2⟩)
    cases hx
    show gg ≠ N
    rcases hat with hat | hat
    · intro e; rw [e] at hat; exact ob N ho' hat.symm
    · omega

/-- an append of one run to a level's spares, at whatever world that holds the history and, in a block of its own, the run -/
theorem append_spares (W : World) (base hb lb : Nat) (lc : Nat) (ls : List Lv) (mg : Int) (h : Hist W base hb (some ⟨lb, 0, none⟩) lc ls mg) (k : Nat) (l : Lv) (hl : ls[k]? = some l) (hn : l.spare.length ≤ 1000000) (r : RunV) (s : Nat)
    (hs : W.heap[s]? = some (.cells r.cells.toArray 53 (0, 0))) :
    ∃ gg cap w1, appRun Try.prog 73 73 (.slice l.sa l.spare.length l.sc) (.slice (some ⟨s, 0, none⟩) 1 1) W = .ok (.slice (some ⟨gg, 0, none⟩) (l.spare.length + 1) cap) w1 ∧
      w1.cell? ⟨hb, 1, none⟩ = some (.slice (some ⟨lb, 0, none⟩) ls.length lc) ∧ w1.cell? ⟨lb, k * 7 + 6, none⟩ = some (.slice l.sa l.spare.length l.sc) ∧ w1.frozen? ⟨lb, k * 7 + 6, none⟩ = false ∧
      Hist (w1.setCell ⟨lb, k * 7 + 6, none⟩ (.slice (some ⟨gg, 0, none⟩) (l.spare.length + 1) cap)) base hb (some ⟨lb, 0, none⟩) lc (ls.set k { l with sa := some ⟨gg, 0, none⟩, sc := cap, spare := l.spare ++ [r] }) mg ∧
      Fr W (w1.setCell ⟨lb, k * 7 + 6, none⟩ (.slice (some ⟨gg, 0, none⟩) (l.spare.length + 1) cap)) hb (some ⟨lb, 0, none⟩) ls (some ⟨lb, 0, none⟩) (ls.set k { l with sa := some ⟨gg, 0, none⟩, sc := cap, spare := l.spare ++ [r] }) := by
  obtain ⟨i0, hi, hz0, hz1, hz2⟩ := info_parts Try.info53
  have hle := h.base_le
  obtain ⟨ow, ho⟩ := h.rows
  have hrow := (ho k l hl).2.1
  unfold runRow at hrow
  have nhb : some hb ≠ (Value.slice l.sa l.spare.length l.sc).ownBlock := by
    cases hla : l.sa with
    | none => simp [Value.ownBlock]
    | some x => intro e; exact (h.row_ne_hb hl).2 x hla (by simpa [Value.ownBlock] using e.symm)
  have nlb : some lb ≠ (Value.slice l.sa l.spare.length l.sc).ownBlock := by
    cases hla : l.sa with
    | none => simp [Value.ownBlock]
    | some x => intro e; exact (h.row_ne_lev hl ⟨lb, 0, none⟩ rfl).2 x hla (by simpa [Value.ownBlock] using e.symm)
  obtain ⟨gg, cap, w1, hrun, hown1, hgrow, hat, hlt1⟩ := run_append_lies (P := Try.prog) W 73 73 base 53 i0 _ 3 56 Try.underlying73 hi hz0 hz1 hz2 rfl (by omega) (.slice l.sa l.spare.length l.sc) l.spare.length (l.spare.flatMap RunV.cells) hrow
        ⟨s, 0, none⟩ 1 1 r.cells (by rfl) (World.news_of_block (cs := r.cells.toArray) (t := 53) (fr := (0, 0)) hs) r.one
        (by omega) (by unfold maxLen; omega) (by omega) hle W.heap.size rfl
  have ob : ∀ N, Off hb (some ⟨lb, 0, none⟩) ls N → some N ≠ (Value.slice l.sa l.spare.length l.sc).ownBlock := by
    intro N hN
    cases hla : l.sa with
    | none => simp [Value.ownBlock]
    | some x => intro e; exact (hN.2.2 k l hl).2 x hla (by simpa [Value.ownBlock] using e.symm)
  refine ⟨gg, cap, w1, hrun, ?_, ?_, ?_, h.setSpares hl hgrow hown1 (hat.imp id (fun e => by omega)), ?_⟩
  · rw [hgrow.cell_far _ h.lt nhb]; exact h.c1
  · rw [hgrow.cell_far _ h.lev_lt nlb]; exact h.cell hl 6 (by omega)
  · rw [hgrow.frozen_far _ h.lev_lt nlb]; exact h.lfree _
  · have b1 : Fr W w1 hb (some ⟨lb, 0, none⟩) ls (some ⟨lb, 0, none⟩) ls := Fr.of_grown hgrow ob
    have b2 := b1.trans (Fr.of_grown (grownBy_set w1 lb (k * 7 + 6) (.slice (some ⟨gg, 0, none⟩) (l.spare.length + 1) cap)) (fun N hN e => hN.2.1 _ rfl (by simpa using e.symm)))
    refine b2.turn (fun N hN ho' => ⟨ho'.1, ho'.2.1, ho'.2.2.set (ho'.2.2 k l hl).1 (fun x hx => ?_)⟩)
    cases hx
    show gg ≠ N
    rcases hat with hat | hat
    · intro e; rw [e] at hat; exact ob N ho' hat.symm
    · omega
end Go.Proofs.Qxb6601843a
