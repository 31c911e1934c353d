import Derived.Test.Qxb6601843aPush
namespace Go.Proofs.Qxb6601843a
open Go.RowKit
section
variable {w : World} {base hb : Nat} {la : Option Addr} {lc : Nat} {ls : List Lv} {mg : Int}
set_option maxHeartbeats 400000 in
theorem levelCount_any (h : Hist w base hb la lc ls mg) :
    Calls Try.prog 28 #[.pointer (some ⟨hb, 0, none⟩)] w fun e w' => e = .returned (.int .i64 ls.length) ∧ w' = w := by
  have c1 := h.c1
  go_enter Try.func28, Try.ntmps28
  go_wp2
  go_ret
  exact ⟨rfl, rfl⟩
set_option maxHeartbeats 400000 in
theorem merging_any (h : Hist w base hb la lc ls mg) :
    Calls Try.prog 41 #[.pointer (some ⟨hb, 0, none⟩)] w fun e w' => e = .returned (.int .u64 mg) ∧ w' = w := by
  have c1 := h.c2
  go_enter Try.func41, Try.ntmps41
  go_wp2
  go_ret
  exact ⟨rfl, rfl⟩
set_option maxHeartbeats 400000 in
theorem runCount_any (h : Hist w base hb la lc ls mg) (kk : Int) (k : Nat) (ek : kk = (k : Int)) (l : Lv) (hl : ls[k]? = some l) :
    Calls Try.prog 34 #[.pointer (some ⟨hb, 0, none⟩), .int .i64 kk] w fun e w' => e = .returned (.int .i64 l.runs.length) ∧ w' = w := by
  subst ek
  have hlt : k < ls.length := (List.getElem?_eq_some_iff.1 hl).1
  obtain ⟨lb, rfl, _⟩ := h.form (by omega)
  have c1 := h.c1
  have c0 : w.cell? ⟨lb, k * 7, none⟩ = some (.slice l.ra l.runs.length l.rc) := by have := h.cell hl 0 (by omega); simpa [Lv.cells] using this
  clear hl
  go_enter Try.func34, Try.ntmps34
  go_wp2
  go_ret
  exact ⟨rfl, rfl⟩
set_option maxHeartbeats 400000 in
theorem spareCount_any (h : Hist w base hb la lc ls mg) (kk : Int) (k : Nat) (ek : kk = (k : Int)) (l : Lv) (hl : ls[k]? = some l) :
    Calls Try.prog 37 #[.pointer (some ⟨hb, 0, none⟩), .int .i64 kk] w fun e w' => e = .returned (.int .i64 l.spare.length) ∧ w' = w := by
  subst ek
  have hlt : k < ls.length := (List.getElem?_eq_some_iff.1 hl).1
  obtain ⟨lb, rfl, _⟩ := h.form (by omega)
  have c1 := h.c1
  have c0 : w.cell? ⟨lb, k * 7 + 6, none⟩ = some (.slice l.sa l.spare.length l.sc) := by have := h.cell hl 6 (by omega); simpa [Lv.cells] using this
  clear hl
  go_enter Try.func37, Try.ntmps37
  go_wp2
  go_ret
  exact ⟨rfl, rfl⟩
set_option maxHeartbeats 400000 in
theorem mergedShape_any (h : Hist w base hb la lc ls mg) (kk : Int) (k : Nat) (ek : kk = (k : Int)) (l : Lv) (hl : ls[k]? = some l) :
    Calls Try.prog 35 #[.pointer (some ⟨hb, 0, none⟩), .int .i64 kk] w fun e w' => e = .returned (.tuple #[.int .i64 l.m.n, .int .i64 l.m.tl, .int .i64 l.m.tc]) ∧ Below w.heap.size w w' := by
  subst ek
  have hlt : k < ls.length := (List.getElem?_eq_some_iff.1 hl).1
  obtain ⟨lb, rfl, _⟩ := h.form (by omega)
  have c1 := h.c1
  have a1 : w.cell? ⟨lb, k * 7 + 1, none⟩ = some (.int .i64 l.m.n) := h.cell hl 1 (by omega)
  have a2 : w.cell? ⟨lb, k * 7 + 2, none⟩ = some (.slice l.m.ta l.m.tl l.m.tc) := h.cell hl 2 (by omega)
  have a3 : w.cell? ⟨lb, k * 7 + 3, none⟩ = some (.slice l.m.sa l.m.sl l.m.sc) := h.cell hl 3 (by omega)
  have l1 := h.lt
  have l2 := h.lev_lt
  clear hl
  go_enter Try.func35, Try.ntmps35
  go_wp2
  go_region
  go_wp2
  go_ret3
  exact ⟨rfl, ((Below.refl _ _).alloc (Nat.le_refl _) _).drew⟩
end
set_option maxHeartbeats 400000 in
theorem runShape_any (r : RunV) (w : World) :
    Calls Try.prog 29 #[.agg #[.int .i64 r.n, .slice r.ta r.tl r.tc, .slice r.sa r.sl r.sc]] w fun e w' => e = .returned (.tuple #[.int .i64 r.n, .int .i64 r.tl, .int .i64 r.tc, .int .i64 r.sl, .int .i64 r.sc]) ∧ Below w.heap.size w w' := by
  go_enter Try.func29, Try.ntmps29
  go_wp2
  go_region
  go_wp2
  exact bodyPost_ret (v := .tuple #[.int .i64 r.n, .int .i64 r.tl, .int .i64 r.tc, .int .i64 r.sl, .int .i64 r.sc]) (by simp [results, Try.results29, go_sem]) rfl ⟨rfl, ((Below.refl _ _).alloc (Nat.le_refl _) _).drew⟩
set_option maxHeartbeats 400000 in
theorem tagRun_any (n : Int) (w : World) :
    Calls Try.prog 40 #[.int .i64 n] w fun e w' => e = .returned (.agg #[.int .i64 n, .slice none 0 0, .slice none 0 0]) ∧ Below w.heap.size w w' := by
  go_enter Try.func40, Try.ntmps40
  go_wp2
  exact bodyPost_ret (v := .agg #[.int .i64 n, .slice none 0 0, .slice none 0 0]) (by simp [results, Try.results40, go_sem]) rfl ⟨rfl, ((Below.refl _ _).alloc (Nat.le_refl _) _)⟩
theorem pieces_small (k : Nat) (h : k ≤ 4) : pieces k = 1 := by
  have : k = 0 ∨ k = 1 ∨ k = 2 ∨ k = 3 ∨ k = 4 := by omega
  rcases this with rfl | rfl | rfl | rfl | rfl <;> rfl
theorem pieces_great (j : Nat) : pieces (j + 4) = 2 ^ j := by
  unfold pieces
  rw [Nat.pow_add]
  omega
theorem wrap64_pow (j : Nat) (hj : j ≤ 17) : wrap64 (2 ^ j) = ((2 ^ j : Nat) : Int) := by
  have hp : 2 ^ j ≤ 2 ^ 17 := Nat.pow_le_pow_right (by omega) hj
  have e : (2 ^ j : Int) = ((2 ^ j : Nat) : Int) := by simp
  rw [e]
  generalize 2 ^ j = p at hp
  exact IntWalk.wrap64_in _ (by omega)
set_option maxHeartbeats 400000 in
theorem freshPieces_any (kk : Int) (k : Nat) (ek : kk = (k : Int)) (hk : k ≤ 21) (w : World) :
    Calls Try.prog 31 #[.int .i64 kk] w fun e w' => e = .returned (.int .i64 (pieces k)) ∧ w' = w := by
  subst ek
  by_cases h4 : k ≤ 4
  · rw [pieces_small k h4]
    have h4' : (k : Int) ≤ 4 := by omega
    go_enter Try.func31, Try.ntmps31
    go_wp2
    go_ret
    exact ⟨rfl, rfl⟩
  · obtain ⟨j, rfl⟩ : ∃ j, k = j + 4 := ⟨k - 4, by omega⟩
    rw [pieces_great]
    have h4' : ¬ ((j + 4 : Nat) : Int) ≤ 4 := by omega
    go_enter Try.func31, Try.ntmps31
    go_wp2
    go_ret
    refine ⟨?_, rfl⟩
    show Ending.returned (.int .i64 (wrap64 (2 ^ j))) = _
    rw [wrap64_pow j (by omega)]
    simp

set_option maxHeartbeats 400000 in
theorem zztake_any (w : World) (base hb : Nat) (la : Option Addr) (lc : Nat) (ls : List Lv) (mg : Int) (h : Hist w base hb la lc ls mg) (kk : Int) (k : Nat) (ek : kk = (k : Int)) (hk : k ≤ ls.length) (hk2 : k ≤ 20) :
    Calls Try.prog 27 #[.pointer (some ⟨hb, 0, none⟩), .int .i64 kk] w fun e w' => ∃ (r : RunV) (la' : Option Addr) (lc' : Nat), e = .returned (.agg #[.int .i64 r.n, .slice r.ta r.tl r.tc, .slice r.sa r.sl r.sc]) ∧
      Hist w' base hb la' lc' (takeL ls k) mg ∧ Fr w w' hb la ls la' (takeL ls k) ∧ takeR ls k r := by
  have H1 := h.below ((Below.refl _ _).alloc (Nat.le_refl _) (.cells #[.int .i64 0, .slice none 0 0, .slice none 0 0] 53))
  have F1 : Fr w (w.alloc (.cells #[.int .i64 0, .slice none 0 0, .slice none 0 0] 53)) hb la ls la ls := Fr.of_below ((Below.refl _ _).alloc (Nat.le_refl _) _)
  have hlt := h.lt
  have hle := h.hle
  subst ek
  go_enter Try.func27, Try.ntmps27
  go_wp2_with (go_at_call 47; refine (take_any' _ base hb la lc ls mg H1 _ k rfl hk hk2).mono ?_; rintro e w2 ⟨r, la', lc', rfl, H2, F2, R2⟩; obtain ⟨e0', o2⟩ := F2.keep w.heap.size (by simp) (h.off_new (Nat.le_refl _)); have e0 := e0'.trans (heap_alloc_new w _); have d0 := cell_of_row w2 w.heap.size 0 _ _ _ e0; have d1 := cell_of_row w2 w.heap.size 1 _ _ _ e0; have d2 := cell_of_row w2 w.heap.size 2 _ _ _ e0; have z0 := frozen_of_row w2 w.heap.size 0 _ _ e0; have z1 := frozen_of_row w2 w.heap.size 1 _ _ e0; have z2 := frozen_of_row w2 w.heap.size 2 _ _ e0; have HE : Hid (w2.heap[w.heap.size]? = _) := e0; clear e0 e0')
  exact bodyPost_ret (v := .agg #[.int .i64 r.n, .slice r.ta r.tl r.tc, .slice r.sa r.sl r.sc]) (by simp [results, Try.results27, go_sem, d0, d1, d2]) rfl ⟨r, la', lc', rfl, (H2.set3 HE.out o2.2.2 (by omega) _ _ _).1, (F1.trans F2).own (grownBy_set3 w2 w.heap.size 0 1 2 _ _ _) (Nat.le_refl _), R2⟩

/-- what push leaves, in one word: 'r' is laid on level k; if that is its second run, level k + 1 gives a run to be merged into -/
def PushRel (ls : List Lv) (mg : Int) (k : Nat) (l : Lv) (r : RunV) (ls' : List Lv) (mg' : Int) : Prop :=
  ∃ ra rc, (l.runs.length ≠ 1 ∧ ls' = ls.set k { l with ra := ra, rc := rc, runs := l.runs ++ [r] } ∧ mg' = mg) ∨
    (l.runs.length = 1 ∧ ∃ rr, ls' = (takeL (ls.set k { l with ra := ra, rc := rc, runs := l.runs ++ [r] }) (k + 1)).set k { l with ra := ra, rc := rc, runs := l.runs ++ [r], m := rr } ∧ mg' = orBit mg k ∧
      takeR (ls.set k { l with ra := ra, rc := rc, runs := l.runs ++ [r] }) (k + 1) rr)

theorem push_any (w : World) (base hb : Nat) (la : Option Addr) (lc : Nat) (ls : List Lv) (mg : Int) (h : Hist w base hb la lc ls mg) (kk : Int) (k : Nat) (ek : kk = (k : Int)) (hk : k ≤ 19) (l : Lv) (hl : ls[k]? = some l) (hn : l.runs.length ≤ 1000000) (r : RunV) :
    Calls Try.prog 48 #[.pointer (some ⟨hb, 0, none⟩), .int .i64 kk, .agg #[.int .i64 r.n, .slice r.ta r.tl r.tc, .slice r.sa r.sl r.sc]] w fun e w' => e = .returned (.tuple #[]) ∧ ∃ la' lc' ls' mg',
      Hist w' base hb la' lc' ls' mg' ∧ Fr w w' hb la ls la' ls' ∧ PushRel ls mg k l r ls' mg' := by
  subst ek
  have hlt : k < ls.length := (List.getElem?_eq_some_iff.1 hl).1
  obtain ⟨lb, rfl, _⟩ := h.form (by omega)
  by_cases h1 : l.runs.length = 1
  · refine (push_two w base hb lb lc ls mg h k hk l hl h1 r).mono ?_
    rintro e w' ⟨rfl, ra, rc, rr, la', lc', a, b, c⟩
    exact ⟨rfl, la', lc', _, _, a, b, ra, rc, .inr ⟨h1, rr, rfl, rfl, c⟩⟩
  · refine (push_one w base hb lb lc ls mg h k l hl hn h1 r).mono ?_
    rintro e w' ⟨rfl, ra, rc, a, b⟩
    exact ⟨rfl, _, _, _, _, a, b, ra, rc, .inl ⟨h1, rfl, rfl⟩⟩

set_option maxHeartbeats 400000 in
theorem zzpush_any (w : World) (base hb : Nat) (la : Option Addr) (lc : Nat) (ls : List Lv) (mg : Int) (h : Hist w base hb la lc ls mg) (kk : Int) (k : Nat) (ek : kk = (k : Int)) (hk : k ≤ 19) (l : Lv) (hl : ls[k]? = some l) (hn : l.runs.length ≤ 1000000) (r : RunV) :
    Calls Try.prog 39 #[.pointer (some ⟨hb, 0, none⟩), .int .i64 kk, .agg #[.int .i64 r.n, .slice r.ta r.tl r.tc, .slice r.sa r.sl r.sc]] w fun e w' => e = .returned (.tuple #[]) ∧ ∃ la' lc' ls' mg',
      Hist w' base hb la' lc' ls' mg' ∧ Fr w w' hb la ls la' ls' ∧ PushRel ls mg k l r ls' mg' := by
  have H1 := h.below ((Below.refl _ _).alloc (Nat.le_refl _) (.cells #[.int .i64 r.n, .slice r.ta r.tl r.tc, .slice r.sa r.sl r.sc] 53))
  have F1 : Fr w (w.alloc (.cells #[.int .i64 r.n, .slice r.ta r.tl r.tc, .slice r.sa r.sl r.sc] 53)) hb la ls la ls := Fr.of_below ((Below.refl _ _).alloc (Nat.le_refl _) _)
  have HL : Hid (ls[k]? = some l) := hl
  clear hl
  subst ek
  go_enter Try.func39, Try.ntmps39
  go_wp2_with (go_at_call 48; refine (push_any _ base hb la lc ls mg H1 _ k rfl hk l HL.out hn r).mono ?_; rintro e w2 ⟨rfl, la', lc', ls', mg', H2, F2, R2⟩)
  go_end0
  exact ⟨rfl, la', lc', ls', mg', H2, F1.trans F2, R2⟩
end Go.Proofs.Qxb6601843a
