/-
  The heap of a level in the midst of its merge: the pieces of the merged run, the level's cells, and what the stores do to them. No walk here.
-/
import Derived.Test.Qxb6601843aHist
import Derived.Test.Qxb6601843aPieces
namespace Go.Proofs.Qxb6601843a
open Go.RowKit

def pv (PL : Nat) (g : Nat) : Value := .slice (some ⟨g, 0, none⟩) PL PL

structure MH (w : World) (B : Nat) (ty oty : TypeId) (kd : IntKind) (ta : Option Addr) (tl tc PL : Nat) (gs : List Nat) (n : Nat) (f : Nat → Int) : Prop where
  out : w.ownsRow B oty 1 (.slice ta tl tc) tl (gs.map (pv PL))
  nod : gs.Nodup
  pc : ∀ g ∈ gs, B ≤ g ∧ ∃ cs, w.heap[g]? = some (.cells cs ty (0, 0)) ∧ cs.size = PL
  val : ∀ p, p < n → ∃ g, gs[p / 1024]? = some g ∧ w.cell? ⟨g, p % 1024, none⟩ = some (.int kd (f p))

section
variable {w w' : World} {B : Nat} {ty oty : TypeId} {kd : IntKind} {ta : Option Addr} {tl tc PL : Nat} {gs : List Nat} {n : Nat} {f : Nat → Int}

theorem MH.len (h : MH w B ty oty kd ta tl tc PL gs n f) : gs.length = tl := by have := h.out.1; simpa using this
theorem MH.lt (h : MH w B ty oty kd ta tl tc PL gs n f) {g : Nat} (hg : g ∈ gs) : g < w.heap.size := by
  obtain ⟨_, cs, hc, _⟩ := h.pc g hg
  exact (Array.getElem?_eq_some_iff.1 hc).1
theorem own_ty {e : TypeId} {sz : Nat} {v : Value} {m : Nat} {xs : List Value} (h : w.ownsRow B e sz v m xs) {X : Nat} {cs : Array Value} {t : TypeId} {fr : Nat × Nat} (hX : w.heap[X]? = some (.cells cs t fr)) (ht : t ≠ e) : some X ≠ v.ownBlock := by
  rcases h.2 with ⟨rfl, _⟩ | ⟨g, cap, cur, rfl, _, h2, _⟩
  · simp [Value.ownBlock]
  · intro e'
    simp [Value.ownBlock] at e'
    rw [← e', hX] at h2
    cases h2
    exact ht rfl

theorem MH.keep (h : MH w B ty oty kd ta tl tc PL gs n f) {row : Option Nat} (hg : w.grownBy w' row) (h1 : (Value.slice ta tl tc).ownBlock = none ∨ (Value.slice ta tl tc).ownBlock ≠ row) (h2 : ∀ g ∈ gs, some g ≠ row) : MH w' B ty oty kd ta tl tc PL gs n f where
  out := h.out.kept hg h1
  nod := h.nod
  pc := fun g hgm => by
    obtain ⟨a, cs, b, c⟩ := h.pc g hgm
    exact ⟨a, cs, (hg.block g (h.lt hgm) (h2 g hgm)).trans b, c⟩
  val := fun p hp => by
    obtain ⟨g, a, b⟩ := h.val p hp
    exact ⟨g, a, hg.cell b (h2 g (List.mem_of_getElem? a))⟩

theorem MH.keep_ty (h : MH w B ty oty kd ta tl tc PL gs n f) {X : Nat} {cs : Array Value} {t : TypeId} {fr : Nat × Nat} (hX : w.heap[X]? = some (.cells cs t fr)) (t1 : t ≠ ty) (t2 : t ≠ oty) (hg : w.grownBy w' (some X)) : MH w' B ty oty kd ta tl tc PL gs n f := by
  refine h.keep hg (.inr (fun e => own_ty h.out hX t2 e.symm)) (fun g hgm e => ?_)
  obtain ⟨_, cs', b, _⟩ := h.pc g hgm
  cases e
  rw [hX] at b
  cases b
  exact t1 rfl

theorem grown_none (hb : Below w.heap.size w w') : w.grownBy w' none := ⟨hb.os, hb.tape, hb.output, hb.size, fun k hk _ => hb.block k hk⟩
theorem MH.below (h : MH w B ty oty kd ta tl tc PL gs n f) (hb : Below w.heap.size w w') : MH w' B ty oty kd ta tl tc PL gs n f := by
  refine h.keep (grown_none hb) ?_ (fun g _ => by simp)
  cases ta <;> simp [Value.ownBlock]

theorem MH.pcs (h : MH w B ty oty kd ta tl tc PL gs n f) (hP : ∀ p, p < n → p % 1024 < PL) : Pcs w ta tl kd (fun _ => PL) n f := by
  intro p hp
  obtain ⟨g, a, b⟩ := h.val p hp
  have hl : p / 1024 < tl := by rw [← h.len]; exact (List.getElem?_eq_some_iff.1 a).1
  obtain ⟨tb, cap, hv, _, _⟩ := h.out.form (by omega)
  simp at hv
  obtain ⟨rfl, rfl⟩ := hv
  refine ⟨hl, hP p hp, tb, g, rfl, ?_, b⟩
  rw [h.out.cellAt _ (by omega), List.getElem?_map, a]
  rfl

theorem MH.put (h : MH w B ty oty kd ta tl tc PL gs n f) (hty : ty ≠ oty) {g : Nat} (hg : gs[n / 1024]? = some g) (hP : n % 1024 < PL) : MH (w.setCell ⟨g, n % 1024, none⟩ (.int kd (f n))) B ty oty kd ta tl tc PL gs (n + 1) f := by
  have hmem := List.mem_of_getElem? hg
  obtain ⟨hB, cs, hc, hsz⟩ := h.pc g hmem
  have hgr := grownBy_set w g (n % 1024) (.int kd (f n))
  refine ⟨h.out.kept hgr (.inr (fun e => own_ty h.out hc hty e.symm)), h.nod, fun g' hg' => ?_, fun p hp => ?_⟩
  · obtain ⟨a, cs', b, c⟩ := h.pc g' hg'
    by_cases e : g' = g
    · subst e
      rw [hc] at b
      cases b
      exact ⟨a, _, heap_setCell_same w g' _ cs ty _ hc, by simpa using c⟩
    · exact ⟨a, cs', (hgr.block g' (h.lt hg') (by simpa using e)).trans b, c⟩
  · by_cases e : p = n
    · subst e
      refine ⟨g, hg, ?_⟩
      rw [cell_of_row _ g _ _ _ _ (heap_setCell_same w g _ cs ty _ hc)]
      simp [hsz, hP]
    · obtain ⟨g', a, b⟩ := h.val p (by omega)
      refine ⟨g', a, ?_⟩
      by_cases e2 : g' = g
      · subst e2
        have e3 : p / 1024 = n / 1024 := (List.getElem?_inj (List.getElem?_eq_some_iff.1 a).1 h.nod).1 (a.trans hg.symm)
        have e4 : n % 1024 ≠ p % 1024 := by omega
        rw [cell_of_row _ g' _ _ _ _ (heap_setCell_same w g' _ cs ty _ hc)]
        rw [cell_of_row _ g' _ _ _ _ hc] at b
        rw [Array.getElem?_setIfInBounds_ne e4]; exact b
      · exact hgr.cell b (by simpa using e2)

/-- a new piece, behind the append that lists it -/
theorem MH.grow (h : MH w B ty oty kd ta tl tc PL gs n f) (hty : ty ≠ oty) {g : Nat} (hB : B ≤ g) (hnew : g ∉ gs) {cs : Array Value} (hc : w.heap[g]? = some (.cells cs ty (0, 0))) (hsz : cs.size = PL) {g2 cap : Nat}
    (hown : w'.ownsRow B oty 1 (.slice (some ⟨g2, 0, none⟩) (tl + 1) cap) (tl + 1) (gs.map (pv PL) ++ [pv PL g])) (hg : w.grownBy w' (Value.slice ta tl tc).ownBlock) : MH w' B ty oty kd (some ⟨g2, 0, none⟩) (tl + 1) cap PL (gs ++ [g]) n f := by
  have hne : ∀ g' ∈ gs, some g' ≠ (Value.slice ta tl tc).ownBlock := fun g' hg' => by
    obtain ⟨_, cs', b, _⟩ := h.pc g' hg'
    exact own_ty h.out b hty
  refine ⟨by simpa using hown, ?_, fun g' hg' => ?_, fun p hp => ?_⟩
  · rw [List.nodup_append]
    refine ⟨h.nod, by simp, fun a ha b hb => ?_⟩
    simp at hb
    subst hb
    intro e
    subst e
    exact hnew ha
  · rcases List.mem_append.1 hg' with hm | hm
    · obtain ⟨a, cs', b, c⟩ := h.pc g' hm
      exact ⟨a, cs', (hg.block g' (h.lt hm) (hne g' hm)).trans b, c⟩
    · simp at hm
      subst hm
      exact ⟨hB, cs, (hg.block g' (Array.getElem?_eq_some_iff.1 hc).1 (own_ty h.out hc hty)).trans hc, hsz⟩
  · obtain ⟨g', a, b⟩ := h.val p hp
    have hlt : p / 1024 < gs.length := (List.getElem?_eq_some_iff.1 a).1
    exact ⟨g', by rw [List.getElem?_append_left hlt]; exact a, hg.cell b (hne g' (List.mem_of_getElem? a))⟩
end

/-- the level in the midst of its merge: 'nt' times and 'ns' sums stand -/
structure LevM (w : World) (B lb rb : Nat) (RA RB : RunV) (mn i j : Int) (ta : Option Addr) (tl tc : Nat) (sa : Option Addr) (sl sc PL : Nat) (gt gs : List Nat) (nt ns : Nat) (ft fs : Nat → Int) : Prop where
  hlb : B ≤ lb
  hrb : B ≤ rb
  lev : w.heap[lb]? = some (.cells #[.slice (some ⟨rb, 0, none⟩) 2 2, .int .i64 mn, .slice ta tl tc, .slice sa sl sc, .int .i64 i, .int .i64 j, .slice none 0 0] 75 (0, 0))
  run : w.heap[rb]? = some (.cells #[.int .i64 RA.n, .slice RA.ta RA.tl RA.tc, .slice RA.sa RA.sl RA.sc, .int .i64 RB.n, .slice RB.ta RB.tl RB.tc, .slice RB.sa RB.sl RB.sc] 53 (0, 0))
  T : MH w B 21 22 .i32 ta tl tc PL gt nt ft
  S : MH w B 2 72 .i64 sa sl sc PL gs ns fs

section
variable {w w' : World} {B lb rb : Nat} {RA RB : RunV} {mn i j : Int} {ta : Option Addr} {tl tc : Nat} {sa : Option Addr} {sl sc PL : Nat} {gt gs : List Nat} {nt ns : Nat} {ft fs : Nat → Int}

theorem LevM.lt (h : LevM w B lb rb RA RB mn i j ta tl tc sa sl sc PL gt gs nt ns ft fs) : lb < w.heap.size ∧ rb < w.heap.size ∧ B ≤ w.heap.size := by
  have h1 := (Array.getElem?_eq_some_iff.1 h.lev).1
  have h2 := (Array.getElem?_eq_some_iff.1 h.run).1
  have := h.hlb
  exact ⟨h1, h2, by omega⟩
theorem LevM.below (h : LevM w B lb rb RA RB mn i j ta tl tc sa sl sc PL gt gs nt ns ft fs) (hb : Below w.heap.size w w') : LevM w' B lb rb RA RB mn i j ta tl tc sa sl sc PL gt gs nt ns ft fs :=
  ⟨h.hlb, h.hrb, (hb.block lb h.lt.1).trans h.lev, (hb.block rb h.lt.2.1).trans h.run, h.T.below hb, h.S.below hb⟩
theorem LevM.drewN (h : LevM w B lb rb RA RB mn i j ta tl tc sa sl sc PL gt gs nt ns ft fs) (m : Nat) : LevM (w.drewN m) B lb rb RA RB mn i j ta tl tc sa sl sc PL gt gs nt ns ft fs := ⟨h.hlb, h.hrb, h.lev, h.run, ⟨h.T.out, h.T.nod, h.T.pc, h.T.val⟩, ⟨h.S.out, h.S.nod, h.S.pc, h.S.val⟩⟩

theorem LevM.putT (h : LevM w B lb rb RA RB mn i j ta tl tc sa sl sc PL gt gs nt ns ft fs) {g : Nat} (hg : gt[nt / 1024]? = some g) (hP : nt % 1024 < PL) : LevM (w.setCell ⟨g, nt % 1024, none⟩ (.int .i32 (ft nt))) B lb rb RA RB mn i j ta tl tc sa sl sc PL gt gs (nt + 1) ns ft fs := by
  obtain ⟨hB, cs, hc, _⟩ := h.T.pc g (List.mem_of_getElem? hg)
  have hgr := grownBy_set w g (nt % 1024) (.int .i32 (ft nt))
  refine ⟨h.hlb, h.hrb, (hgr.block lb h.lt.1 (fun e => ?_)).trans h.lev, (hgr.block rb h.lt.2.1 (fun e => ?_)).trans h.run, h.T.put (by decide) hg hP, h.S.keep_ty hc (by decide) (by decide) hgr⟩
  · cases e; rw [h.lev] at hc; simp at hc
  · cases e; rw [h.run] at hc; simp at hc
theorem LevM.putS (h : LevM w B lb rb RA RB mn i j ta tl tc sa sl sc PL gt gs nt ns ft fs) {g : Nat} (hg : gs[ns / 1024]? = some g) (hP : ns % 1024 < PL) : LevM (w.setCell ⟨g, ns % 1024, none⟩ (.int .i64 (fs ns))) B lb rb RA RB mn i j ta tl tc sa sl sc PL gt gs nt (ns + 1) ft fs := by
  obtain ⟨hB, cs, hc, _⟩ := h.S.pc g (List.mem_of_getElem? hg)
  have hgr := grownBy_set w g (ns % 1024) (.int .i64 (fs ns))
  refine ⟨h.hlb, h.hrb, (hgr.block lb h.lt.1 (fun e => ?_)).trans h.lev, (hgr.block rb h.lt.2.1 (fun e => ?_)).trans h.run, h.T.keep_ty hc (by decide) (by decide) hgr, h.S.put (by decide) hg hP⟩
  · cases e; rw [h.lev] at hc; simp at hc
  · cases e; rw [h.run] at hc; simp at hc
/-- a store to the level's own block -/
theorem LevM.putL (h : LevM w B lb rb RA RB mn i j ta tl tc sa sl sc PL gt gs nt ns ft fs) (o : Nat) (v : Value) {mn' i' j' : Int}
    (hv : (#[.slice (some ⟨rb, 0, none⟩) 2 2, .int .i64 mn, .slice ta tl tc, .slice sa sl sc, .int .i64 i, .int .i64 j, .slice none 0 0] : Array Value).setIfInBounds o v = #[.slice (some ⟨rb, 0, none⟩) 2 2, .int .i64 mn', .slice ta tl tc, .slice sa sl sc, .int .i64 i', .int .i64 j', .slice none 0 0]) :
    LevM (w.setCell ⟨lb, o, none⟩ v) B lb rb RA RB mn' i' j' ta tl tc sa sl sc PL gt gs nt ns ft fs := by
  have hgr := grownBy_set w lb o v
  refine ⟨h.hlb, h.hrb, by rw [heap_setCell_same w lb o _ _ _ h.lev, hv], (hgr.block rb h.lt.2.1 (fun e => ?_)).trans h.run, h.T.keep_ty h.lev (by decide) (by decide) hgr, h.S.keep_ty h.lev (by decide) (by decide) hgr⟩
  cases e; have := h.run; rw [h.lev] at this; simp at this
theorem LevM.putIJN (h : LevM w B lb rb RA RB mn i j ta tl tc sa sl sc PL gt gs nt ns ft fs) (mn' i' j' : Int) :
    LevM (((w.setCell ⟨lb, 4, none⟩ (.int .i64 i')).setCell ⟨lb, 5, none⟩ (.int .i64 j')).setCell ⟨lb, 1, none⟩ (.int .i64 mn')) B lb rb RA RB mn' i' j' ta tl tc sa sl sc PL gt gs nt ns ft fs :=
  ((h.putL 4 (.int .i64 i') (mn' := mn) (i' := i') (j' := j) rfl).putL 5 (.int .i64 j') (mn' := mn) (i' := i') (j' := j') rfl).putL 1 (.int .i64 mn') (mn' := mn') (i' := i') (j' := j') rfl

theorem LevM.growT (h : LevM w B lb rb RA RB mn i j ta tl tc sa sl sc PL gt gs nt ns ft fs) {g : Nat} (hB : B ≤ g) (hnew : g ∉ gt) {cs : Array Value} (hc : w.heap[g]? = some (.cells cs 21 (0, 0))) (hsz : cs.size = PL) {g2 cap : Nat}
    (hown : w'.ownsRow B 22 1 (.slice (some ⟨g2, 0, none⟩) (tl + 1) cap) (tl + 1) (gt.map (pv PL) ++ [pv PL g])) (hg : w.grownBy w' (Value.slice ta tl tc).ownBlock) :
    LevM (w'.setCell ⟨lb, 2, none⟩ (.slice (some ⟨g2, 0, none⟩) (tl + 1) cap)) B lb rb RA RB mn i j (some ⟨g2, 0, none⟩) (tl + 1) cap sa sl sc PL (gt ++ [g]) gs nt ns ft fs := by
  have n1 := own_ty h.T.out h.lev (by decide)
  have n2 := own_ty h.T.out h.run (by decide)
  have hlev := (hg.block lb h.lt.1 n1).trans h.lev
  have hrun := (hg.block rb h.lt.2.1 n2).trans h.run
  have T' := h.T.grow (by decide) hB hnew hc hsz hown hg
  have S' : MH w' B 2 72 .i64 sa sl sc PL gs ns fs := by
    rcases h.T.out.2 with ⟨e, _⟩ | ⟨x, cap', cur, e, _, hx, _⟩
    · rw [e] at hg
      refine h.S.keep hg ?_ (fun g _ => by simp [Value.ownBlock])
      cases sa <;> simp [Value.ownBlock]
    · rw [e] at hg
      exact h.S.keep_ty hx (by decide) (by decide) hg
  have hgr := grownBy_set w' lb 2 (.slice (some ⟨g2, 0, none⟩) (tl + 1) cap)
  have hlt : rb < w'.heap.size := by have := h.lt.2.1; have := hg.size; omega
  refine ⟨h.hlb, h.hrb, by rw [heap_setCell_same w' lb 2 _ _ _ hlev]; rfl, (hgr.block rb hlt (fun e => ?_)).trans hrun, T'.keep_ty hlev (by decide) (by decide) hgr, S'.keep_ty hlev (by decide) (by decide) hgr⟩
  cases e; have := h.run; rw [h.lev] at this; simp at this
theorem LevM.growS (h : LevM w B lb rb RA RB mn i j ta tl tc sa sl sc PL gt gs nt ns ft fs) {g : Nat} (hB : B ≤ g) (hnew : g ∉ gs) {cs : Array Value} (hc : w.heap[g]? = some (.cells cs 2 (0, 0))) (hsz : cs.size = PL) {g2 cap : Nat}
    (hown : w'.ownsRow B 72 1 (.slice (some ⟨g2, 0, none⟩) (sl + 1) cap) (sl + 1) (gs.map (pv PL) ++ [pv PL g])) (hg : w.grownBy w' (Value.slice sa sl sc).ownBlock) :
    LevM (w'.setCell ⟨lb, 3, none⟩ (.slice (some ⟨g2, 0, none⟩) (sl + 1) cap)) B lb rb RA RB mn i j ta tl tc (some ⟨g2, 0, none⟩) (sl + 1) cap PL gt (gs ++ [g]) nt ns ft fs := by
  have n1 := own_ty h.S.out h.lev (by decide)
  have n2 := own_ty h.S.out h.run (by decide)
  have hlev := (hg.block lb h.lt.1 n1).trans h.lev
  have hrun := (hg.block rb h.lt.2.1 n2).trans h.run
  have S' := h.S.grow (by decide) hB hnew hc hsz hown hg
  have T' : MH w' B 21 22 .i32 ta tl tc PL gt nt ft := by
    rcases h.S.out.2 with ⟨e, _⟩ | ⟨x, cap', cur, e, _, hx, _⟩
    · rw [e] at hg
      refine h.T.keep hg ?_ (fun g _ => by simp [Value.ownBlock])
      cases ta <;> simp [Value.ownBlock]
    · rw [e] at hg
      exact h.T.keep_ty hx (by decide) (by decide) hg
  have hgr := grownBy_set w' lb 3 (.slice (some ⟨g2, 0, none⟩) (sl + 1) cap)
  have hlt : rb < w'.heap.size := by have := h.lt.2.1; have := hg.size; omega
  refine ⟨h.hlb, h.hrb, by rw [heap_setCell_same w' lb 3 _ _ _ hlev]; rfl, (hgr.block rb hlt (fun e => ?_)).trans hrun, T'.keep_ty hlev (by decide) (by decide) hgr, S'.keep_ty hlev (by decide) (by decide) hgr⟩
  cases e; have := h.run; rw [h.lev] at this; simp at this
end
end Go.Proofs.Qxb6601843a
