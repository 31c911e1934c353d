import Derived.Test.Qxb6601843aMergedK
import Derived.Test.Qxb6601843aRoom
import Derived.Test.Qxb6601843aApp
import Derived.Test.Qxb6601843aTake
import Derived.Lib.MinMax
namespace Go.Proofs.Qxb6601843a.K
open Go.RowKit
attribute [local go_sem ↓] wp_app
theorem app26 (W : World) (B : Nat) (ta : Option Addr) (tl tc : Nat) (xs : List Value) (hrow : W.ownsRow B 22 1 (.slice ta tl tc) tl xs) (s : Nat) (v : Value) (hs : W.heap[s]? = some (.cells #[v] 22 (0, 0))) (hv : v.oneCell' = true) (hB : B ≤ W.heap.size) (htl : tl ≤ 1000000) :
    ∃ g cap w1, appRun Try.prog 26 26 (.slice ta tl tc) (.slice (some ⟨s, 0, none⟩) 1 1) W = .ok (.slice (some ⟨g, 0, none⟩) (tl + 1) cap) w1 ∧ w1.ownsRow B 22 1 (.slice (some ⟨g, 0, none⟩) (tl + 1) cap) (tl + 1) (xs ++ [v]) ∧ W.grownBy w1 (Value.slice ta tl tc).ownBlock ∧ ((Value.slice ta tl tc).ownBlock = some g ∨ g = W.heap.size) := by
  obtain ⟨i0, hi, hz0, hz1, hz2⟩ := info_parts Try.info22
  obtain ⟨gg, cap, w1, hrun, hown1, hgrow, hat, hlt1⟩ := run_append_lies (P := Try.prog) W 26 26 B 22 i0 _ 1 24 Try.underlying26 hi hz0 hz1 hz2 rfl (by omega) (.slice ta tl tc) tl xs hrow
        ⟨s, 0, none⟩ 1 1 [v] (by rfl) (World.news_of_block (cs := #[v]) (t := 22) (fr := (0, 0)) hs) (by simpa using hv)
        (by omega) (by unfold maxLen; omega) (by omega) hB W.heap.size rfl
  exact ⟨gg, cap, w1, hrun, hown1, hgrow, hat⟩
theorem app27 (W : World) (B : Nat) (ta : Option Addr) (tl tc : Nat) (xs : List Value) (hrow : W.ownsRow B 72 1 (.slice ta tl tc) tl xs) (s : Nat) (v : Value) (hs : W.heap[s]? = some (.cells #[v] 72 (0, 0))) (hv : v.oneCell' = true) (hB : B ≤ W.heap.size) (htl : tl ≤ 1000000) :
    ∃ g cap w1, appRun Try.prog 27 27 (.slice ta tl tc) (.slice (some ⟨s, 0, none⟩) 1 1) W = .ok (.slice (some ⟨g, 0, none⟩) (tl + 1) cap) w1 ∧ w1.ownsRow B 72 1 (.slice (some ⟨g, 0, none⟩) (tl + 1) cap) (tl + 1) (xs ++ [v]) ∧ W.grownBy w1 (Value.slice ta tl tc).ownBlock ∧ ((Value.slice ta tl tc).ownBlock = some g ∨ g = W.heap.size) := by
  obtain ⟨i0, hi, hz0, hz1, hz2⟩ := info_parts Try.info72
  obtain ⟨gg, cap, w1, hrun, hown1, hgrow, hat, hlt1⟩ := run_append_lies (P := Try.prog) W 27 27 B 72 i0 _ 1 24 Try.underlying27 hi hz0 hz1 hz2 rfl (by omega) (.slice ta tl tc) tl xs hrow
        ⟨s, 0, none⟩ 1 1 [v] (by rfl) (World.news_of_block (cs := #[v]) (t := 72) (fr := (0, 0)) hs) (by simpa using hv)
        (by omega) (by unfold maxLen; omega) (by omega) hB W.heap.size rfl
  exact ⟨gg, cap, w1, hrun, hown1, hgrow, hat⟩

section
variable {w : World} {K : Nat → Prop} {lb rb : Nat} {RA RB : RunV} {mn i j : Int} {ta : Option Addr} {tl tc : Nat} {sa : Option Addr} {sl sc PL : Nat} {gt gs : List Nat} {nt ns : Nat} {ft fs : Nat → Int}
theorem LevM.c (h : LevM w K lb rb RA RB mn i j ta tl tc sa sl sc PL gt gs nt ns ft fs) : w.cell? ⟨lb, 0, none⟩ = some (.slice (some ⟨rb, 0, none⟩) 2 2) ∧ w.cell? ⟨lb, 1, none⟩ = some (.int .i64 mn) ∧ w.cell? ⟨lb, 2, none⟩ = some (.slice ta tl tc) ∧ w.cell? ⟨lb, 3, none⟩ = some (.slice sa sl sc) ∧ w.cell? ⟨lb, 4, none⟩ = some (.int .i64 i) ∧ w.cell? ⟨lb, 5, none⟩ = some (.int .i64 j) ∧ ∀ o, w.frozen? ⟨lb, o, none⟩ = false := by
  refine ⟨?_, ?_, ?_, ?_, ?_, ?_, fun o => frozen_of_row w lb o _ _ h.lev⟩ <;> (rw [cell_of_row w lb _ _ _ _ h.lev]; rfl)
theorem LevM.r (h : LevM w K lb rb RA RB mn i j ta tl tc sa sl sc PL gt gs nt ns ft fs) : w.cell? ⟨rb, 0, none⟩ = some (.int .i64 RA.n) ∧ w.cell? ⟨rb, 1, none⟩ = some (.slice RA.ta RA.tl RA.tc) ∧ w.cell? ⟨rb, 2, none⟩ = some (.slice RA.sa RA.sl RA.sc) ∧ w.cell? ⟨rb, 3, none⟩ = some (.int .i64 RB.n) ∧ w.cell? ⟨rb, 4, none⟩ = some (.slice RB.ta RB.tl RB.tc) ∧ w.cell? ⟨rb, 5, none⟩ = some (.slice RB.sa RB.sl RB.sc) := by
  refine ⟨?_, ?_, ?_, ?_, ?_, ?_⟩ <;> (rw [cell_of_row w rb _ _ _ _ h.run]; rfl)
end

/-- room where the piece is there -/
theorem room_old (w : World) (K : Nat → Prop) (lb rb : Nat) (RA RB : RunV) (n : Nat) (i j : Int) (ta : Option Addr) (tl tc : Nat) (sa : Option Addr) (sl sc PL : Nat) (gt gs : List Nat) (ft fs : Nat → Int)
    (h : LevM w K lb rb RA RB n i j ta tl tc sa sl sc PL gt gs n n ft fs) (size : Nat) (hn : n < size) (hsz : size ≤ 131072) (hPL : PL = min 1024 size) (htl : tl = n / 1024 + 1) (hsl : sl = n / 1024 + 1) :
    Calls Try.prog 50 #[.pointer (some ⟨lb, 1, none⟩), .int .i64 size] w fun e w' => ∃ g1 g2, e = .returned (.tuple #[.slice (some ⟨g1, n % 1024, none⟩) (PL - n % 1024) (PL - n % 1024), .slice (some ⟨g2, n % 1024, none⟩) (PL - n % 1024) (PL - n % 1024)]) ∧
      (gt[n / 1024]? = some g1 ∧ gs[n / 1024]? = some g2) ∧ ∃ m, w' = w.drewN m := by
  obtain ⟨c0, c1, c2, c3, c4, c5, z⟩ := h.c
  have hl1 := h.T.len
  have hl2 := h.S.len
  obtain ⟨tb, cap, hv, _, _⟩ := h.T.out.form (by omega)
  simp at hv
  obtain ⟨rfl, rfl⟩ := hv
  obtain ⟨sb, cap, hv, _, _⟩ := h.S.out.form (by omega)
  simp at hv
  obtain ⟨rfl, rfl⟩ := hv
  have hg1 : gt[n / 1024]? = some gt[n / 1024] := List.getElem?_eq_getElem (by omega)
  have hg2 : gs[n / 1024]? = some gs[n / 1024] := List.getElem?_eq_getElem (by omega)
  have o1 : w.cell? ⟨tb, n / 1024, none⟩ = some (.slice (some ⟨gt[n / 1024], 0, none⟩) PL PL) := by rw [h.T.out.cellAt _ (by omega), List.getElem?_map, hg1]; rfl
  have o2 : w.cell? ⟨sb, n / 1024, none⟩ = some (.slice (some ⟨gs[n / 1024], 0, none⟩) PL PL) := by rw [h.S.out.cellAt _ (by omega), List.getElem?_map, hg2]; rfl
  have HG : Hid (gt[n / 1024]? = some gt[n / 1024] ∧ gs[n / 1024]? = some gs[n / 1024]) := ⟨hg1, hg2⟩
  clear hg1 hg2
  generalize gt[n / 1024] = g1 at *
  generalize gs[n / 1024] = g2 at *
  have hd : ((n : Int) / 1024 == (tl : Int)) = false := by simp; omega
  have hp : n % 1024 < PL := by omega
  clear h hl1 hl2 hPL
  go_enter Try.func50, Try.ntmps50
  go_wp2
  go_quiet (fail)
  go_wp2
  go_quiet (fail)
  go_wp2
  exact bodyPost_ret (v := .tuple #[.slice (some ⟨g1, n % 1024, none⟩) (PL - n % 1024) (PL - n % 1024), .slice (some ⟨g2, n % 1024, none⟩) (PL - n % 1024) (PL - n % 1024)]) (by simp [results, Try.results50, go_sem]) rfl ⟨g1, g2, rfl, HG.out, _, World.drewN_drewN ..⟩

section
variable {w : World} {K : Nat → Prop} {lb rb : Nat} {RA RB : RunV} {mn i j : Int} {ta : Option Addr} {tl tc : Nat} {sa : Option Addr} {sl sc PL : Nat} {gt gs : List Nat} {nt ns : Nat} {ft fs : Nat → Int}
theorem room_times (h : LevM w K lb rb RA RB mn i j ta tl tc sa sl sc PL gt gs nt ns ft fs) (htl : tl ≤ 1000000) :
    ∃ gg cap w1, appRun Try.prog 26 26 (.slice ta tl tc) (.slice (some ⟨w.heap.size + 1, 0, none⟩) 1 1) ((w.alloc (.cells (madeCells #[.int .i32 0] PL) 21)).alloc (.cells #[.slice (some ⟨w.heap.size, 0, none⟩) PL PL] 22)).drew = .ok (.slice (some ⟨gg, 0, none⟩) (tl + 1) cap) w1 ∧
      (w1.cell? ⟨lb, 2, none⟩ = some (.slice ta tl tc) ∧ w1.frozen? ⟨lb, 2, none⟩ = false) ∧ LevM (w1.setCell ⟨lb, 2, none⟩ (.slice (some ⟨gg, 0, none⟩) (tl + 1) cap)) K lb rb RA RB mn i j (some ⟨gg, 0, none⟩) (tl + 1) cap sa sl sc PL (gt ++ [w.heap.size]) gs nt ns ft fs ∧
      Keep K w (w1.setCell ⟨lb, 2, none⟩ (.slice (some ⟨gg, 0, none⟩) (tl + 1) cap)) := by
  have bl := (World.below2 w (.cells (madeCells #[.int .i32 0] PL) 21) (.cells #[.slice (some ⟨w.heap.size, 0, none⟩) PL PL] 22)).drew
  have h1 := h.below bl
  have hlt := h.lt
  have e0 : ((w.alloc (.cells (madeCells #[.int .i32 0] PL) 21)).alloc (.cells #[.slice (some ⟨w.heap.size, 0, none⟩) PL PL] 22)).drew.heap[w.heap.size]? = some (.cells (madeCells #[.int .i32 0] PL) 21 (0, 0)) := by
    show ((w.alloc (.cells (madeCells #[.int .i32 0] PL) 21)).alloc (.cells #[.slice (some ⟨w.heap.size, 0, none⟩) PL PL] 22)).heap[w.heap.size]? = _
    rw [Below.heap_alloc _ _ _ (by simp)]; exact heap_alloc_new w _
  obtain ⟨gg, cap, w1, hap, hown, hgrow, hat⟩ := app26 _ 0 ta tl tc _ h1.T.out (w.heap.size + 1) (pv PL w.heap.size) (heap_alloc2_new w _ _) rfl (Nat.zero_le _) htl
  have hnw : ¬ K w.heap.size := fun hk => Nat.lt_irrefl _ (h.kk _ hk)
  have hg2 : ¬ K gg := by
    rcases hat with e | e
    · exact h.T.own gg e
    · intro hk; have := h.kk gg hk; simp at e; omega
  have n1 := own_ty h1.T.out h1.lev (by decide)
  have c1 := hgrow.cell_far ⟨lb, 2, none⟩ h1.lt.1 n1
  have f1 := hgrow.frozen_far ⟨lb, 2, none⟩ h1.lt.1 n1
  refine ⟨gg, cap, w1, hap, ⟨?_, ?_⟩, h1.growT (g := w.heap.size) hnw (fun hm => ?_) e0 (by simp [madeCells]) hown hgrow hg2, ?_⟩
  · rw [c1, cell_of_row _ lb _ _ _ _ h1.lev]; rfl
  · rw [f1]; exact frozen_of_row _ lb _ _ _ h1.lev
  · have := h.T.lt hm; omega
  · exact ((Keep.of_below bl).trans (Keep.of_grown hgrow h.T.own)).setCell h.hlb _
theorem room_sums (h : LevM w K lb rb RA RB mn i j ta tl tc sa sl sc PL gt gs nt ns ft fs) (hsl : sl ≤ 1000000) :
    ∃ gg cap w1, appRun Try.prog 27 27 (.slice sa sl sc) (.slice (some ⟨w.heap.size + 1, 0, none⟩) 1 1) ((w.alloc (.cells (madeCells #[.int .i64 0] PL) 2)).alloc (.cells #[.slice (some ⟨w.heap.size, 0, none⟩) PL PL] 72)).drew = .ok (.slice (some ⟨gg, 0, none⟩) (sl + 1) cap) w1 ∧
      (w1.cell? ⟨lb, 3, none⟩ = some (.slice sa sl sc) ∧ w1.frozen? ⟨lb, 3, none⟩ = false) ∧ LevM (w1.setCell ⟨lb, 3, none⟩ (.slice (some ⟨gg, 0, none⟩) (sl + 1) cap)) K lb rb RA RB mn i j ta tl tc (some ⟨gg, 0, none⟩) (sl + 1) cap PL gt (gs ++ [w.heap.size]) nt ns ft fs ∧
      Keep K w (w1.setCell ⟨lb, 3, none⟩ (.slice (some ⟨gg, 0, none⟩) (sl + 1) cap)) := by
  have bl := (World.below2 w (.cells (madeCells #[.int .i64 0] PL) 2) (.cells #[.slice (some ⟨w.heap.size, 0, none⟩) PL PL] 72)).drew
  have h1 := h.below bl
  have hlt := h.lt
  have e0 : ((w.alloc (.cells (madeCells #[.int .i64 0] PL) 2)).alloc (.cells #[.slice (some ⟨w.heap.size, 0, none⟩) PL PL] 72)).drew.heap[w.heap.size]? = some (.cells (madeCells #[.int .i64 0] PL) 2 (0, 0)) := by
    show ((w.alloc (.cells (madeCells #[.int .i64 0] PL) 2)).alloc (.cells #[.slice (some ⟨w.heap.size, 0, none⟩) PL PL] 72)).heap[w.heap.size]? = _
    rw [Below.heap_alloc _ _ _ (by simp)]; exact heap_alloc_new w _
  obtain ⟨gg, cap, w1, hap, hown, hgrow, hat⟩ := app27 _ 0 sa sl sc _ h1.S.out (w.heap.size + 1) (pv PL w.heap.size) (heap_alloc2_new w _ _) rfl (Nat.zero_le _) hsl
  have hnw : ¬ K w.heap.size := fun hk => Nat.lt_irrefl _ (h.kk _ hk)
  have hg2 : ¬ K gg := by
    rcases hat with e | e
    · exact h.S.own gg e
    · intro hk; have := h.kk gg hk; simp at e; omega
  have n1 := own_ty h1.S.out h1.lev (by decide)
  have c1 := hgrow.cell_far ⟨lb, 3, none⟩ h1.lt.1 n1
  have f1 := hgrow.frozen_far ⟨lb, 3, none⟩ h1.lt.1 n1
  refine ⟨gg, cap, w1, hap, ⟨?_, ?_⟩, h1.growS (g := w.heap.size) hnw (fun hm => ?_) e0 (by simp [madeCells]) hown hgrow hg2, ?_⟩
  · rw [c1, cell_of_row _ lb _ _ _ _ h1.lev]; rfl
  · rw [f1]; exact frozen_of_row _ lb _ _ _ h1.lev
  · have := h.S.lt hm; omega
  · exact ((Keep.of_below bl).trans (Keep.of_grown hgrow h.S.own)).setCell h.hlb _
end
/-- room where a piece is to be added -/
theorem room_new (w : World) (K : Nat → Prop) (lb rb : Nat) (RA RB : RunV) (n : Nat) (i j : Int) (ta : Option Addr) (tl tc : Nat) (sa : Option Addr) (sl sc PL : Nat) (gt gs : List Nat) (ft fs : Nat → Int)
    (h : LevM w K lb rb RA RB n i j ta tl tc sa sl sc PL gt gs n n ft fs) (size : Nat) (hn : n < size) (hsz : size ≤ 131072) (hPL : PL = min 1024 size) (htl : tl = n / 1024) (hsl : sl = n / 1024) (hn0 : n % 1024 = 0) :
    Calls Try.prog 50 #[.pointer (some ⟨lb, 1, none⟩), .int .i64 size] w fun e w' => ∃ g1 g2, e = .returned (.tuple #[.slice (some ⟨g1, n % 1024, none⟩) (PL - n % 1024) (PL - n % 1024), .slice (some ⟨g2, n % 1024, none⟩) (PL - n % 1024) (PL - n % 1024)]) ∧
      ∃ ta' tc' sa' sc' gt' gs', LevM w' K lb rb RA RB n i j ta' (n / 1024 + 1) tc' sa' (n / 1024 + 1) sc' PL gt' gs' n n ft fs ∧ (gt'[n / 1024]? = some g1 ∧ gs'[n / 1024]? = some g2) ∧ Keep K w w' := by
  subst htl hsl
  have hmin : min (1024 : Int) (size : Int) = (PL : Int) := by omega
  have hPL1 : PL ≤ 1024 := by omega
  have m1 := make22 PL (by omega)
  have m2 := make72 PL (by omega)
  have hp : 0 < PL := by omega
  clear hPL
  obtain ⟨c0, c1, c2, c3, c4, c5, z⟩ := h.c
  go_enter Try.func50, Try.ntmps50
  go_wp2
  go_quiet (fail)
  have h1 := h.drewN nq
  have bW : Keep K w (w.drewN nq) := (Keep.refl _ _).drewN nq
  generalize w.drewN nq = W at *
  clear c0 c1 c2 c3 c4 c5 z h
  obtain ⟨c0, c1, c2, c3, c4, c5, z⟩ := h1.c
  clear c0 c1 c3 c4 c5 z
  have hlt := h1.lt.1
  obtain ⟨g1, cap1, w1, ha, ⟨d2, f2⟩, H1, B1⟩ := room_times h1 (by omega)
  go_wp2_with fail
  go_region
  go_wp2_with fail
  generalize w1.setCell ⟨lb, 2, none⟩ (.slice (some ⟨g1, 0, none⟩) (n / 1024 + 1) cap1) = W1 at *
  clear ha d2 f2 c2 hlt
  obtain ⟨k0, k1, k2, k3, k4, k5, z⟩ := H1.c
  have hlt1 := H1.lt.1
  obtain ⟨g2, cap2, w2, ha2, ⟨e2, q2⟩, H2, B2⟩ := room_sums H1 (by omega)
  clear k0 k1 k4 k5 z
  go_region
  go_wp2_with fail
  generalize w2.setCell ⟨lb, 3, none⟩ (.slice (some ⟨g2, 0, none⟩) (n / 1024 + 1) cap2) = W2 at *
  clear ha2 e2 q2 k2 k3 hlt1
  have HL := h1
  obtain ⟨k0, k1, k2, k3, k4, k5, z⟩ := H2.c
  have hl1 := H2.T.len
  have hl2 := H2.S.len
  simp at hl1 hl2
  have o1 : W2.cell? ⟨g1, n / 1024, none⟩ = some (.slice (some ⟨W.heap.size, 0, none⟩) PL PL) := by rw [H2.T.out.cellAt _ (by omega), List.getElem?_map, List.getElem?_append_right (by omega), hl1]; simp [pv]
  have o2 : W2.cell? ⟨g2, n / 1024, none⟩ = some (.slice (some ⟨W1.heap.size, 0, none⟩) PL PL) := by rw [H2.S.out.cellAt _ (by omega), List.getElem?_map, List.getElem?_append_right (by omega), hl2]; simp [pv]
  have G1 : Hid ((gt ++ [W.heap.size])[n / 1024]? = some W.heap.size ∧ (gs ++ [W1.heap.size])[n / 1024]? = some W1.heap.size) := by
    constructor
    · rw [List.getElem?_append_right (by omega), hl1]; simp
    · rw [List.getElem?_append_right (by omega), hl2]; simp
  clear hl1 hl2 k0 k1 k4 k5 z m1 m2 hmin
  go_quiet (fail)
  go_wp2
  exact bodyPost_ret (v := .tuple #[.slice (some ⟨W.heap.size, n % 1024, none⟩) (PL - n % 1024) (PL - n % 1024), .slice (some ⟨W1.heap.size, n % 1024, none⟩) (PL - n % 1024) (PL - n % 1024)]) (by simp [results, Try.results50, go_sem]) rfl ⟨_, _, rfl, _, _, _, _, _, _, H2.drewN _, G1.out, ((bW.trans B1).trans B2).drewN _⟩
end Go.Proofs.Qxb6601843a.K
