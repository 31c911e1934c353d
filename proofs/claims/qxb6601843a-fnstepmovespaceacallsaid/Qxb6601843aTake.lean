import Derived.Test.Qxb6601843aProg
import Derived.Test.Qxb6601843aHist
import Derived.WalkKit
import Derived.WalkSpells
import Derived.BigRegion
import Derived.BigQuiet
import Derived.Deep.RegionHeld3
import Derived.Deep.AppendLies
import Derived.KernelRfl
namespace Go.Proofs.Qxb6601843a
open Go.RowKit
theorem Try.info22 : (Try.prog.info? 22).map (fun i => (i.zero, i.size, i.bytes)) = some (some (.slice none 0 0), 1, 24) := by kernel_rfl
theorem Try.info72 : (Try.prog.info? 72).map (fun i => (i.zero, i.size, i.bytes)) = some (some (.slice none 0 0), 1, 24) := by kernel_rfl
theorem Try.info75 : (Try.prog.info? 75).map (fun i => (i.zero, i.size, i.bytes)) = some (some (.agg #[.slice none 0 0, .int .i64 0, .slice none 0 0, .slice none 0 0, .int .i64 0, .int .i64 0, .slice none 0 0]), 7, 120) := by kernel_rfl
theorem make26 (c : Int) (h0 : 0 ≤ c) (h1 : c ≤ 1000000) (w : World) : Sem.run Try.prog (Instr.makeSlice 26 (Value.int .i64 0) (Value.int .i64 c)) w =
   Result.ok (Value.slice (some { block := w.heap.size, off := 0 }) 0 c.toNat) (w.alloc (Obj.cells (madeCells #[.slice none 0 0] c.toNat) 22)) := by
  obtain ⟨i0, hi, hz0, hz1, hz2⟩ := info_parts Try.info22
  have := run_make (P := Try.prog) w 26 22 i0 _ Try.underlying26 hi hz0 .i64 .i64 0 c (by omega) (by omega) (by rw [hz2]; omega) (by omega)
  simpa [hz1, Value.cells] using this
theorem make27 (c : Int) (h0 : 0 ≤ c) (h1 : c ≤ 1000000) (w : World) : Sem.run Try.prog (Instr.makeSlice 27 (Value.int .i64 0) (Value.int .i64 c)) w =
   Result.ok (Value.slice (some { block := w.heap.size, off := 0 }) 0 c.toNat) (w.alloc (Obj.cells (madeCells #[.slice none 0 0] c.toNat) 72)) := by
  obtain ⟨i0, hi, hz0, hz1, hz2⟩ := info_parts Try.info72
  have := run_make (P := Try.prog) w 27 72 i0 _ Try.underlying27 hi hz0 .i64 .i64 0 c (by omega) (by omega) (by rw [hz2]; omega) (by omega)
  simpa [hz1, Value.cells] using this
def freshRun (r : RunV) (p : Nat) : Prop := r.n = 0 ∧ r.tl = 0 ∧ r.tc = p ∧ r.sl = 0 ∧ r.sc = p
set_option maxHeartbeats 400000 in
theorem newRun_any (n : Int) (w : World) (h0 : 0 ≤ n) (h1 : n ≤ 134217728) :
    Calls Try.prog 45 #[.int .i64 n] w fun e w' => ∃ r : RunV, e = .returned r.val ∧ freshRun r ((n + 1023) / 1024).toNat ∧ Below w.heap.size w w' := by
  have m1 := make26 ((n + 1024 - 1)/1024) (by omega) (by omega)
  have m2 := make27 ((n + 1024 - 1)/1024) (by omega) (by omega)
  have e : n + 1023 = n + 1024 - 1 := by omega
  rw [e]; clear e
  go_enter Try.func45, Try.ntmps45
  go_wp2
  go_region
  all_goals go_wp2
  · refine bodyPost_ret (v := RunV.val ⟨0, some ⟨w.heap.size + 1, 0, none⟩, 0, ((n + 1024 - 1) / 1024).toNat, some ⟨w.heap.size + 1 + 1, 0, none⟩, 0, ((n + 1024 - 1) / 1024).toNat⟩) (by simp [results, Try.results45, RunV.val, go_sem]) rfl ⟨_, rfl, ⟨rfl, rfl, rfl, rfl, rfl⟩, ?_⟩
    exact ((((Below.refl _ _).alloc (Nat.le_refl _) _).alloc (by simp) _).alloc (by simp; omega) _).drew
  · refine bodyPost_ret (v := RunV.val ⟨0, some ⟨w.heap.size + 1 + 1, 0, none⟩, 0, ((n + 1024 - 1) / 1024).toNat, some ⟨w.heap.size + 1, 0, none⟩, 0, ((n + 1024 - 1) / 1024).toNat⟩) (by simp [results, Try.results45, RunV.val, go_sem]) rfl ⟨_, rfl, ⟨rfl, rfl, rfl, rfl, rfl⟩, ?_⟩
    exact ((((Below.refl _ _).alloc (Nat.le_refl _) _).alloc (by simp) _).alloc (by simp; omega) _).drew
theorem World.below2 (w : World) (A B : Obj) : Below w.heap.size w ((w.alloc A).alloc B) := ((Below.refl _ _).alloc (Nat.le_refl _) _).alloc (by simp) _
/-- what the walk of take wants behind the append of a level -/
theorem addLev_facts {w w1 : World} {A B : Obj} {base hb : Nat} {la : Option Addr} {lc : Nat} {ls : List Lv} {mg : Int} (h : Hist w base hb la lc ls mg) {g cap : Nat}
    (hg : ((w.alloc A).alloc B).grownBy w1 (Value.slice la ls.length lc).ownBlock)
    (hown : w1.ownsRow base 75 7 (.slice (some ⟨g, 0, none⟩) (ls.length + 1) cap) (ls.length + 1) (ls.flatMap Lv.cells ++ lv0.cells)) :
    w1.cell? ⟨hb, 1, none⟩ = some (.slice la ls.length lc) ∧ w1.frozen? ⟨hb, 1, none⟩ = false ∧
    Hist (w1.setCell ⟨hb, 1, none⟩ (.slice (some ⟨g, 0, none⟩) (ls.length + 1) cap)) base hb (some ⟨g, 0, none⟩) cap (ls ++ [lv0]) mg ∧
    (w1.setCell ⟨hb, 1, none⟩ (.slice (some ⟨g, 0, none⟩) (ls.length + 1) cap)).cell? ⟨g, ls.length * 7 + 6, none⟩ = some (.slice none 0 0) := by
  have H2 := h.below (World.below2 w A B)
  have H3 := H2.addLev hg hown
  have hne : some hb ≠ (Value.slice la ls.length lc).ownBlock := by
    cases hla : la with
    | none => simp [Value.ownBlock]
    | some x => intro e; exact h.lev_ne_hb x hla (by simpa [Value.ownBlock] using e.symm)
  refine ⟨?_, ?_, H3, ?_⟩
  · rw [hg.cell_far _ H2.lt hne]; exact H2.c1
  · rw [hg.frozen_far _ H2.lt hne]; exact H2.free 1
  · rw [H3.cell (k := ls.length) (l := lv0) (by simp) 6 (by omega)]; rfl

def pieces (k : Nat) : Nat := (64 * 2 ^ k + 1023) / 1024
theorem pow_le20 (k : Nat) (hk : k ≤ 20) : 2 ^ k ≤ 1048576 := by have := Nat.pow_le_pow_right (n := 2) (by omega) hk; simpa using this
theorem shl64 (k : Nat) (hk : k ≤ 20) : wrap64 (64 * 2 ^ k) = ((64 * 2 ^ k : Nat) : Int) ∧ 64 * 2 ^ k ≤ 134217728 := by
  have h := pow_le20 k hk
  refine ⟨?_, by omega⟩
  have e : (64 * 2 ^ k : Int) = ((64 * 2 ^ k : Nat) : Int) := by simp
  rw [e]
  exact IntWalk.wrap64_in _ (by omega)
theorem newRun_shl (k : Nat) (hk : k ≤ 20) (w : World) :
    Calls Try.prog 45 #[.int .i64 (wrap64 (64 * 2 ^ k))] w fun e w' => ∃ r : RunV, e = .returned (.agg #[.int .i64 r.n, .slice r.ta r.tl r.tc, .slice r.sa r.sl r.sc]) ∧ freshRun r (pieces k) ∧ Below w.heap.size w w' := by
  obtain ⟨e1, e2⟩ := shl64 k hk
  rw [e1]
  refine (newRun_any ((64 * 2 ^ k : Nat) : Int) w (by omega) (by omega)).mono ?_
  rintro e w' ⟨r, rfl, hr, hb⟩
  refine ⟨r, rfl, ?_, hb⟩
  have : (((64 * 2 ^ k : Nat) : Int) + 1023) / 1024 = ((pieces k : Nat) : Int) := by unfold pieces; omega
  rw [this] at hr
  simpa using hr

/-- where the result's block stands behind the append of a level and newRun -/
theorem take_new_end {w w1 w2 : World} {B : Obj} {c0 : Array Value} {base hb : Nat} {la : Option Addr} {lc : Nat} {ls : List Lv} {mg : Int} (h : Hist w base hb la lc ls mg) {g cap : Nat}
    (hg : ((w.alloc (.cells c0 53)).alloc B).grownBy w1 (Value.slice la ls.length lc).ownBlock)
    (hown : w1.ownsRow base 75 7 (.slice (some ⟨g, 0, none⟩) (ls.length + 1) cap) (ls.length + 1) (ls.flatMap Lv.cells ++ lv0.cells))
    (hat : (Value.slice la ls.length lc).ownBlock = some g ∨ g = w.heap.size + 2)
    (hb2 : Below (w1.setCell ⟨hb, 1, none⟩ (.slice (some ⟨g, 0, none⟩) (ls.length + 1) cap)).heap.size (w1.setCell ⟨hb, 1, none⟩ (.slice (some ⟨g, 0, none⟩) (ls.length + 1) cap)) w2) :
    w2.heap[w.heap.size]? = some (.cells c0 53 (0, 0)) ∧ ∀ u v x, Hist (((w2.setCell ⟨w.heap.size, 0, none⟩ u).setCell ⟨w.heap.size, 1, none⟩ v).setCell ⟨w.heap.size, 2, none⟩ x) base hb (some ⟨g, 0, none⟩) cap (ls ++ [lv0]) mg ∧
      Fr w (((w2.setCell ⟨w.heap.size, 0, none⟩ u).setCell ⟨w.heap.size, 1, none⟩ v).setCell ⟨w.heap.size, 2, none⟩ x) hb la ls (some ⟨g, 0, none⟩) (ls ++ [lv0]) := by
  obtain ⟨k1, k2, H3, k4⟩ := addLev_facts h hg hown
  have H4 := H3.below hb2
  have hsz := hg.size
  have hlt := h.lt
  have hle := h.hle
  simp at hsz
  have ob : ∀ N, Off hb la ls N → some N ≠ (Value.slice la ls.length lc).ownBlock := by
    intro N hN
    cases hla : la with
    | none => simp [Value.ownBlock]
    | some x => intro e; exact hN.2.1 x hla (by simpa [Value.ownBlock] using e.symm)
  have e0 : w2.heap[w.heap.size]? = some (.cells c0 53 (0, 0)) := by
    rw [hb2.block _ (by simp; omega), heap_setCell_other w1 ⟨hb, 1, none⟩ _ _ (by show w.heap.size ≠ hb; omega), hg.block _ (by simp; omega) (ob _ (h.off_new (Nat.le_refl _)))]
    rw [Below.heap_alloc _ _ _ (by simp)]; exact heap_alloc_new w _
  refine ⟨e0, fun u v x => ?_⟩
  obtain ⟨r1, r2⟩ := H4.set3 e0 (h.off (Nat.le_refl _)).add (by omega) u v x
  refine ⟨r1, ?_⟩
  have b1 : Fr w ((w.alloc (.cells c0 53)).alloc B) hb la ls la ls := Fr.of_below (World.below2 w _ _)
  have b2 : Fr w w1 hb la ls la ls := b1.trans (Fr.of_grown hg ob)
  have b3 : Fr w (w1.setCell ⟨hb, 1, none⟩ (.slice (some ⟨g, 0, none⟩) (ls.length + 1) cap)) hb la ls la ls := b2.trans (Fr.of_grown (grownBy_set w1 hb 1 _) (fun N hN => by simp; exact hN.1))
  have b4 : Fr w w2 hb la ls la ls := b3.trans (Fr.of_below hb2)
  have b5 := b4.own (grownBy_set3 w2 w.heap.size 0 1 2 u v x) (Nat.le_refl _)
  refine b5.turn (fun N hN ho => ⟨ho.1, fun y hy => ?_, ho.2.2.add⟩)
  cases hy
  show g ≠ N
  rcases hat with hat | hat
  · intro e; rw [e] at hat; exact ob N ho hat.symm
  · omega

set_option maxHeartbeats 400000 in
theorem take_new (w : World) (base hb : Nat) (la : Option Addr) (lc : Nat) (ls : List Lv) (mg : Int) (h : Hist w base hb la lc ls mg) (hL : ls.length ≤ 20) :
    Calls Try.prog 47 #[.pointer (some ⟨hb, 0, none⟩), .int .i64 ls.length] w fun e w' => ∃ (r : RunV) (la' : Option Addr) (lc' : Nat), e = .returned (.agg #[.int .i64 r.n, .slice r.ta r.tl r.tc, .slice r.sa r.sl r.sc]) ∧
      Hist w' base hb la' lc' (ls ++ [lv0]) mg ∧ Fr w w' hb la ls la' (ls ++ [lv0]) ∧ freshRun r (pieces ls.length) := by
  obtain ⟨i0, hi, hz0, hz1, hz2⟩ := info_parts Try.info75
  have c1 := h.c1
  have f1 := h.free 1
  have hlt := h.lt
  have hle := h.hle
  have hl := h.lev
  go_enter Try.func47, Try.ntmps47
  go_wp2_with (first
    | (at_builtin; refine wpList_append_lies _ rfl _ _ _ rfl base 75 i0 _ 7 120 Try.underlying78 hi hz0 hz1 hz2 rfl (by omega) (.slice la ls.length lc) ls.length _ rfl ((hl.alloc _).alloc _) ⟨w.heap.size + 1, 0, none⟩ 1 1 lv0.cells rfl rfl (World.news_of_block (cs := lv0.cells.toArray) (t := 75) (fr := (0, 0)) (heap_alloc2_new w _ _)) (by simp [lv0, Lv.cells, Value.oneCell']) (by omega) (by unfold maxLen; omega) (by omega) (by simp; omega) (w.heap.size + 2) (by simp) ?_; intro g cap w1 hown1 hgrow hat hlt1; obtain ⟨k1, k2, H3, k4⟩ := addLev_facts h hgrow hown1)
    | (go_at_call 45; refine (newRun_shl ls.length hL _).mono ?_; rintro e w2 ⟨r, rfl, hfr, hbl⟩; obtain ⟨e0, fin⟩ := take_new_end h hgrow hown1 hat hbl; have d0 := cell_of_row w2 w.heap.size 0 _ _ _ e0; have d1 := cell_of_row w2 w.heap.size 1 _ _ _ e0; have d2 := cell_of_row w2 w.heap.size 2 _ _ _ e0; have z0 := frozen_of_row w2 w.heap.size 0 _ _ e0; have z1 := frozen_of_row w2 w.heap.size 1 _ _ e0; have z2 := frozen_of_row w2 w.heap.size 2 _ _ e0; clear hown1 hgrow hat H3 k4 k1 k2 hbl))
  exact bodyPost_ret (v := .agg #[.int .i64 r.n, .slice r.ta r.tl r.tc, .slice r.sa r.sl r.sc]) (by simp [results, Try.results47, go_sem, d0, d1, d2]) rfl ⟨r, some ⟨g, 0, none⟩, cap, rfl, (fin _ _ _).1, (fin _ _ _).2, hfr⟩
theorem take_fresh_end {w w2 : World} {c0 : Array Value} {base hb : Nat} {la : Option Addr} {lc : Nat} {ls : List Lv} {mg : Int} (h : Hist w base hb la lc ls mg)
    (hb2 : Below (w.heap.size + 1) (w.alloc (.cells c0 53)) w2) :
    w2.heap[w.heap.size]? = some (.cells c0 53 (0, 0)) ∧ ∀ u v x, Hist (((w2.setCell ⟨w.heap.size, 0, none⟩ u).setCell ⟨w.heap.size, 1, none⟩ v).setCell ⟨w.heap.size, 2, none⟩ x) base hb la lc ls mg ∧
      Fr w (((w2.setCell ⟨w.heap.size, 0, none⟩ u).setCell ⟨w.heap.size, 1, none⟩ v).setCell ⟨w.heap.size, 2, none⟩ x) hb la ls la ls := by
  have H1 := h.below ((Below.refl _ _).alloc (Nat.le_refl _) (.cells c0 53))
  have H4 := H1.below (w' := w2) (by simpa using hb2)
  have hlt := h.lt
  have hle := h.hle
  have e0 : w2.heap[w.heap.size]? = some (.cells c0 53 (0, 0)) := by
    rw [hb2.block _ (by omega)]; exact heap_alloc_new w _
  refine ⟨e0, fun u v x => ?_⟩
  obtain ⟨r1, r2⟩ := H4.set3 e0 (h.off (Nat.le_refl _)) (by omega) u v x
  have b1 : Fr w w2 hb la ls la ls := Fr.of_below (((Below.refl _ _).alloc (Nat.le_refl _) _).trans (hb2.mono (by omega)))
  exact ⟨r1, b1.own (grownBy_set3 w2 w.heap.size 0 1 2 u v x) (Nat.le_refl _)⟩

set_option maxHeartbeats 400000 in
theorem take_fresh (w : World) (base hb lb : Nat) (lc : Nat) (ls : List Lv) (mg : Int) (h : Hist w base hb (some ⟨lb, 0, none⟩) lc ls mg) (k : Nat) (hk : k ≤ 20) (l : Lv) (hl : ls[k]? = some l) (hs : l.spare = []) :
    Calls Try.prog 47 #[.pointer (some ⟨hb, 0, none⟩), .int .i64 k] w fun e w' => ∃ (r : RunV), e = .returned (.agg #[.int .i64 r.n, .slice r.ta r.tl r.tc, .slice r.sa r.sl r.sc]) ∧
      Hist w' base hb (some ⟨lb, 0, none⟩) lc ls mg ∧ Fr w w' hb (some ⟨lb, 0, none⟩) ls (some ⟨lb, 0, none⟩) ls ∧ freshRun r (pieces k) := by
  have c1 := h.c1
  have hlt : k < ls.length := (List.getElem?_eq_some_iff.1 hl).1
  have c6 : w.cell? ⟨lb, k * 7 + 6, none⟩ = some (.slice l.sa 0 l.sc) := by rw [h.cell hl 6 (by omega)]; simp [Lv.cells, hs]
  have hb1 := h.lt
  have hlb : lb < w.heap.size := World.block_lt_of_cell? w _ c6
  have hd : ((k : Int) == (ls.length : Int)) = false := by simp; omega
  clear hl hs
  go_enter Try.func47, Try.ntmps47
  go_wp2_with (go_at_call 45; refine (newRun_shl k hk _).mono ?_; rintro e w2 ⟨r, rfl, hfr, hbl⟩; obtain ⟨e0, fin⟩ := take_fresh_end h (by simpa using hbl); have d0 := cell_of_row w2 w.heap.size 0 _ _ _ e0; have d1 := cell_of_row w2 w.heap.size 1 _ _ _ e0; have d2 := cell_of_row w2 w.heap.size 2 _ _ _ e0; have z0 := frozen_of_row w2 w.heap.size 0 _ _ e0; have z1 := frozen_of_row w2 w.heap.size 1 _ _ e0; have z2 := frozen_of_row w2 w.heap.size 2 _ _ e0; clear hbl)
  exact bodyPost_ret (v := .agg #[.int .i64 r.n, .slice r.ta r.tl r.tc, .slice r.sa r.sl r.sc]) (by simp [results, Try.results47, go_sem, d0, d1, d2]) rfl ⟨r, rfl, (fin _ _ _).1, (fin _ _ _).2, hfr⟩

set_option maxHeartbeats 400000 in
theorem take_spare (w : World) (base hb lb : Nat) (lc : Nat) (ls : List Lv) (mg : Int) (h : Hist w base hb (some ⟨lb, 0, none⟩) lc ls mg) (k : Nat) (l : Lv) (hl : ls[k]? = some l) (rs : List RunV) (r : RunV) (hs : l.spare = rs ++ [r]) :
    Calls Try.prog 47 #[.pointer (some ⟨hb, 0, none⟩), .int .i64 k] w fun e w' => e = .returned (.agg #[.int .i64 r.n, .slice r.ta r.tl r.tc, .slice r.sa r.sl r.sc]) ∧
      Hist w' base hb (some ⟨lb, 0, none⟩) lc (ls.set k { l with spare := rs }) mg ∧ Fr w w' hb (some ⟨lb, 0, none⟩) ls (some ⟨lb, 0, none⟩) (ls.set k { l with spare := rs }) := by
  obtain ⟨ow, ho⟩ := h.rows
  have hrow := (ho k l hl).2.1
  obtain ⟨sb, hsa, hsb, hslt, hscap, hsm, cur, hcur⟩ : ∃ g, l.sa = some ⟨g, 0, none⟩ ∧ base ≤ g ∧ g < w.heap.size ∧ l.spare.length ≤ l.sc ∧ l.sc ≤ maxLen ∧ ∃ cur, w.heap[g]? = some (.cells cur 53 (0, 0)) := by
    rcases hrow.form with ⟨_, _, h3⟩ | h3
    · rw [hs] at h3; simp at h3
    · exact h3
  have c1 := h.c1
  have hlt : k < ls.length := (List.getElem?_eq_some_iff.1 hl).1
  have c6 : w.cell? ⟨lb, k * 7 + 6, none⟩ = some (.slice (some ⟨sb, 0, none⟩) (rs.length + 1) l.sc) := by rw [h.cell hl 6 (by omega)]; simp [Lv.cells, hs, hsa]
  have hb1 := h.lt
  have hlb : lb < w.heap.size := World.block_lt_of_cell? w _ c6
  have hd : ((k : Int) == (ls.length : Int)) = false := by simp; omega
  have hcell : ∀ j, j < 3 → w.cell? ⟨sb, rs.length * 3 + j, none⟩ = r.cells[j]? := by
    intro j hj
    unfold runRow at hrow
    rw [hsa] at hrow
    rw [hrow.cellAt _ (by rw [hs]; simp; omega), hs, fm_get RunV.cells 3 RunV.len _ rs.length j r (by simp) hj]
  have s0 : w.cell? ⟨sb, rs.length * 3, none⟩ = some (.int .i64 r.n) := hcell 0 (by omega)
  have s1 : w.cell? ⟨sb, rs.length * 3 + 1, none⟩ = some (.slice r.ta r.tl r.tc) := hcell 1 (by omega)
  have s2 : w.cell? ⟨sb, rs.length * 3 + 2, none⟩ = some (.slice r.sa r.sl r.sc) := hcell 2 (by omega)
  have hm : rs.length + 1 ≤ l.sc := by rw [hs] at hscap; simpa using hscap
  have z6 := h.lfree (k * 7 + 6)
  unfold maxLen at hsm
  have hpop : runRow w base l.sa l.sc rs := by
    unfold runRow at hrow ⊢
    rw [hs, hsa] at hrow
    rw [hsa]
    simp only [List.length_append, List.length_cons, List.length_nil, Nat.zero_add, List.flatMap_append] at hrow
    exact ownsRow_pop (fm_length RunV.cells 3 RunV.len rs) hrow
  obtain ⟨T1, T2⟩ := h.setLv (k := k) (j := 6) (l := l) (l' := { l with spare := rs }) (u := .slice (some ⟨sb, 0, none⟩) rs.length l.sc) hl (by omega) (by simp [Lv.cells, hsa]) (ho k l hl).1 hpop rfl rfl
  have hfr : Fr w (w.setCell ⟨lb, k * 7 + 6, none⟩ (.slice (some ⟨sb, 0, none⟩) rs.length l.sc)) hb (some ⟨lb, 0, none⟩) ls (some ⟨lb, 0, none⟩) (ls.set k { l with spare := rs }) :=
    (Fr.of_grown T2 (fun N hN e => hN.2.1 _ rfl (by simpa using e.symm))).turn (fun N hN ho => ⟨ho.1, ho.2.1, ho.2.2.set (ho.2.2 k l hl).1 (ho.2.2 k l hl).2⟩)
  clear hrow ho hcell hscap hpop
  go_enter Try.func47, Try.ntmps47
  go_wp2_with fail
  go_region
  go_wp2
  go_region
  go_wp2
  refine bodyPost_ret (v := .agg #[.int .i64 r.n, .slice r.ta r.tl r.tc, .slice r.sa r.sl r.sc]) (by simp [results, Try.results47, go_sem]) rfl ⟨rfl, ?_, ?_⟩
  · exact T1.below ((((Below.refl _ _).alloc (Nat.le_refl _) _).alloc (by simp) _).drew.drew)
  · exact hfr.trans (Fr.of_below ((((Below.refl _ _).alloc (Nat.le_refl _) _).alloc (by simp) _).drew.drew))
end Go.Proofs.Qxb6601843a
