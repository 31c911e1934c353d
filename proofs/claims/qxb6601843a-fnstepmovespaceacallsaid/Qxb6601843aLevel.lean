import Derived.Test.Qxb6601843aStep
namespace Go.Proofs.Qxb6601843a
open Go.RowKit
def ownsBoth (w : World) (B : Nat) (r : RunV) : Prop := r.n = 0 ∧ r.tl = 0 ∧ r.sl = 0 ∧ w.ownsRow B 22 1 (.slice r.ta 0 r.tc) 0 [] ∧ w.ownsRow B 72 1 (.slice r.sa 0 r.sc) 0 []
theorem own_mono {w : World} {base base' : Nat} {e : TypeId} {size : Nat} {v : Value} {n : Nat} {xs : List Value} (h : w.ownsRow base e size v n xs) (hb : base' ≤ base) : w.ownsRow base' e size v n xs :=
  ⟨h.1, h.2.imp id (fun ⟨g, cap, cur, a, b, c⟩ => ⟨g, cap, cur, a, Nat.le_trans hb b, c⟩)⟩
theorem own_made {w : World} {B g cap : Nat} {e : TypeId} {z : Value} (hB : B ≤ g) (h : w.heap[g]? = some (.cells (madeCells #[z] cap) e (0, 0))) (hc : cap ≤ maxLen) : w.ownsRow B e 1 (.slice (some ⟨g, 0, none⟩) 0 cap) 0 [] :=
  ⟨by simp, .inr ⟨g, cap, _, rfl, hB, h, Nat.zero_le _, hc, by simp [madeCells], by simp⟩⟩
theorem heap3a (w : World) (A B C : Obj) : (((w.alloc A).alloc B).alloc C).drew.heap[w.heap.size + 1]? = some B := by
  show (((w.alloc A).alloc B).alloc C).heap[w.heap.size + 1]? = some B
  rw [Below.heap_alloc _ _ _ (by simp)]; exact heap_alloc2_new w A B
theorem heap3b (w : World) (A B C : Obj) : (((w.alloc A).alloc B).alloc C).drew.heap[w.heap.size + 1 + 1]? = some C := by
  show (((w.alloc A).alloc B).alloc C).heap[w.heap.size + 1 + 1]? = some C
  have := heap_alloc_new ((w.alloc A).alloc B) C
  rw [show ((w.alloc A).alloc B).heap.size = w.heap.size + 1 + 1 by simp] at this
  exact this
set_option maxHeartbeats 400000 in
theorem newRun_own (n : Int) (w : World) (h0 : 0 ≤ n) (h1 : n ≤ 134217728) :
    Calls Try.prog 45 #[.int .i64 n] w fun e w' => ∃ r : RunV, e = .returned r.val ∧ ownsBoth w' w.heap.size r ∧ Below w.heap.size w w' := by
  have m1 := make26 ((n + 1024 - 1)/1024) (by omega) (by omega)
  have m2 := make27 ((n + 1024 - 1)/1024) (by omega) (by omega)
  have hc : ((n + 1024 - 1) / 1024).toNat ≤ maxLen := by unfold maxLen; omega
  have HC : Hid (((n + 1024 - 1) / 1024).toNat ≤ maxLen) := hc
  clear hc
  go_enter Try.func45, Try.ntmps45
  go_wp2
  go_region
  all_goals go_wp2
  · refine bodyPost_ret (v := RunV.val ⟨0, some ⟨w.heap.size + 1, 0, none⟩, 0, ((n + 1024 - 1) / 1024).toNat, some ⟨w.heap.size + 1 + 1, 0, none⟩, 0, ((n + 1024 - 1) / 1024).toNat⟩) (by simp [results, Try.results45, RunV.val, go_sem]) rfl ⟨_, rfl, ⟨rfl, rfl, rfl, own_made (z := .slice none 0 0) (by omega) ?_ HC.out, own_made (z := .slice none 0 0) (by omega) ?_ HC.out⟩, ?_⟩
    · exact heap3a w _ _ _
    · exact heap3b w _ _ _
    · exact ((((Below.refl _ _).alloc (Nat.le_refl _) _).alloc (by simp) _).alloc (by simp; omega) _).drew
  · refine bodyPost_ret (v := RunV.val ⟨0, some ⟨w.heap.size + 1 + 1, 0, none⟩, 0, ((n + 1024 - 1) / 1024).toNat, some ⟨w.heap.size + 1, 0, none⟩, 0, ((n + 1024 - 1) / 1024).toNat⟩) (by simp [results, Try.results45, RunV.val, go_sem]) rfl ⟨_, rfl, ⟨rfl, rfl, rfl, own_made (z := .slice none 0 0) (by omega) ?_ HC.out, own_made (z := .slice none 0 0) (by omega) ?_ HC.out⟩, ?_⟩
    · exact heap3b w _ _ _
    · exact heap3a w _ _ _
    · exact ((((Below.refl _ _).alloc (Nat.le_refl _) _).alloc (by simp) _).alloc (by simp; omega) _).drew
theorem newRun_lit (n : Int) (w : World) (h0 : 0 ≤ n) (h1 : n ≤ 134217728) :
    Calls Try.prog 45 #[.int .i64 n] w fun e w' => ∃ ta tc sa sc, e = .returned (.agg #[.int .i64 0, .slice ta 0 tc, .slice sa 0 sc]) ∧ w'.ownsRow w.heap.size 22 1 (.slice ta 0 tc) 0 [] ∧ w'.ownsRow w.heap.size 72 1 (.slice sa 0 sc) 0 [] ∧ Below w.heap.size w w' := by
  refine (newRun_own n w h0 h1).mono ?_
  rintro e w' ⟨⟨rn, ta, tl, tc, sa, sl, sc⟩, rfl, ⟨z1, z2, z3, o1, o2⟩, hb⟩
  dsimp only at z1 z2 z3 o1 o2
  subst z1 z2 z3
  exact ⟨ta, tc, sa, sc, rfl, o1, o2, hb⟩
/-- a level at its start -/
theorem lev_start {w w2 : World} {ta sa : Option Addr} {tc sc : Nat} (RA RB : RunV) (PL : Nat) (ft fs : Nat → Int) (c0 : Array Value) (hc : c0 = #[.int .i64 RA.n, .slice RA.ta RA.tl RA.tc, .slice RA.sa RA.sl RA.sc, .int .i64 RB.n, .slice RB.ta RB.tl RB.tc, .slice RB.sa RB.sl RB.sc])
    (o1 : w2.ownsRow (w.alloc (.cells c0 53)).heap.size 22 1 (.slice ta 0 tc) 0 []) (o2 : w2.ownsRow (w.alloc (.cells c0 53)).heap.size 72 1 (.slice sa 0 sc) 0 []) (hb : Below (w.alloc (.cells c0 53)).heap.size (w.alloc (.cells c0 53)) w2) :
    LevM (w2.alloc (.cells #[.slice (some ⟨w.heap.size, 0, none⟩) 2 2, .int .i64 0, .slice ta 0 tc, .slice sa 0 sc, .int .i64 0, .int .i64 0, .slice none 0 0] 75)) w.heap.size w2.heap.size w.heap.size RA RB 0 0 0 ta 0 tc sa 0 sc PL [] [] 0 0 ft fs ∧
    Below w.heap.size w (w2.alloc (.cells #[.slice (some ⟨w.heap.size, 0, none⟩) 2 2, .int .i64 0, .slice ta 0 tc, .slice sa 0 sc, .int .i64 0, .int .i64 0, .slice none 0 0] 75)) := by
  subst hc
  have hs := hb.size
  simp at hs o1 o2
  have b0 : Below w.heap.size w w2 := ((Below.refl w.heap.size w).alloc (Nat.le_refl _) _).trans (hb.mono (by simp))
  refine ⟨⟨b0.size, Nat.le_refl _, heap_alloc_new w2 _, ?_, ⟨?_, List.nodup_nil, (fun g h => nomatch h), fun p hp => absurd hp (Nat.not_lt_zero _)⟩, ⟨?_, List.nodup_nil, (fun g h => nomatch h), fun p hp => absurd hp (Nat.not_lt_zero _)⟩⟩, b0.alloc b0.size _⟩
  · rw [Below.heap_alloc _ _ _ (by omega), hb.block _ (by simp)]; exact heap_alloc_new w _
  · exact (own_mono o1 (by omega)).alloc _
  · exact (own_mono o2 (by omega)).alloc _
set_option maxHeartbeats 800000 in
theorem newLevel_any (na nb : Nat) (ta tb sa sb : Option Addr) (tl tc sl sc tl' tc' sl' sc' : Nat) (w : World) (h1 : na ≤ 65536) (h2 : nb ≤ 65536) (PL : Nat) (ft fs : Nat → Int) :
    Calls Try.prog 13 #[.int .i64 na, .slice ta tl tc, .slice sa sl sc, .int .i64 nb, .slice tb tl' tc', .slice sb sl' sc'] w fun e w' => ∃ lb, e = .returned (.pointer (some ⟨lb, 0, none⟩)) ∧
      (∃ t c s c', LevM w' w.heap.size lb w.heap.size ⟨na, ta, tl, tc, sa, sl, sc⟩ ⟨nb, tb, tl', tc', sb, sl', sc'⟩ 0 0 0 t 0 c s 0 c' PL [] [] 0 0 ft fs) ∧ Below w.heap.size w w' := by
  go_enter Try.func13, Try.ntmps13
  go_wp2_with (go_at_call 45; refine (newRun_lit _ _ (by omega) (by omega)).mono ?_; rintro e w2 ⟨t, c, s, c', rfl, o1, o2, hbl⟩; obtain ⟨LL, BB⟩ := lev_start ⟨na, ta, tl, tc, sa, sl, sc⟩ ⟨nb, tb, tl', tc', sb, sl', sc'⟩ PL ft fs _ rfl o1 o2 hbl; clear o1 o2 hbl)
  go_ret
  exact ⟨_, rfl, ⟨_, _, _, _, LL⟩, BB⟩
section
variable {w : World} {B lb rb : Nat} {RA RB : RunV} {mn i j : Int} {ta : Option Addr} {tl tc : Nat} {sa : Option Addr} {sl sc PL : Nat} {gt gs : List Nat} {nt ns : Nat} {ft fs : Nat → Int}
theorem merged_any (h : LevM w B lb rb RA RB mn i j ta tl tc sa sl sc PL gt gs nt ns ft fs) : Calls Try.prog 16 #[.pointer (some ⟨lb, 0, none⟩)] w fun e w' => e = .returned (.tuple #[.int .i64 mn, .slice ta tl tc, .slice sa sl sc]) ∧ ∃ m, w' = w.drewN m := by
  obtain ⟨c0, c1, c2, c3, c4, c5, z⟩ := h.c
  clear h
  go_enter Try.func16, Try.ntmps16
  go_wp2
  go_quiet (fail)
  go_wp2
  exact bodyPost_ret (v := .tuple #[.int .i64 mn, .slice ta tl tc, .slice sa sl sc]) (by simp [results, Try.results16, go_sem]) rfl ⟨rfl, _, rfl⟩
theorem ij_any (h : LevM w B lb rb RA RB mn i j ta tl tc sa sl sc PL gt gs nt ns ft fs) : Calls Try.prog 18 #[.pointer (some ⟨lb, 0, none⟩)] w fun e w' => e = .returned (.tuple #[.int .i64 i, .int .i64 j]) ∧ ∃ m, w' = w.drewN m := by
  obtain ⟨c0, c1, c2, c3, c4, c5, z⟩ := h.c
  clear h
  go_enter Try.func18, Try.ntmps18
  go_wp2
  go_quiet (fail)
  go_wp2
  exact bodyPost_ret (v := .tuple #[.int .i64 i, .int .i64 j]) (by simp [results, Try.results18, go_sem]) rfl ⟨rfl, _, rfl⟩
theorem levRunCount_any (h : LevM w B lb rb RA RB mn i j ta tl tc sa sl sc PL gt gs nt ns ft fs) : Calls Try.prog 19 #[.pointer (some ⟨lb, 0, none⟩)] w fun e w' => e = .returned (.int .i64 2) ∧ w' = w := by
  obtain ⟨c0, c1, c2, c3, c4, c5, z⟩ := h.c
  clear h
  go_enter Try.func19, Try.ntmps19
  go_wp2
  go_ret
  exact ⟨rfl, rfl⟩
theorem levRun0_any (h : LevM w B lb rb RA RB mn i j ta tl tc sa sl sc PL gt gs nt ns ft fs) : Calls Try.prog 20 #[.pointer (some ⟨lb, 0, none⟩), .int .i64 0] w fun e w' => e = .returned (.tuple #[.int .i64 RA.n, .slice RA.ta RA.tl RA.tc, .slice RA.sa RA.sl RA.sc]) ∧ ∃ m, w' = w.drewN m := by
  obtain ⟨c0, c1, c2, c3, c4, c5, z⟩ := h.c
  obtain ⟨r0, r1, r2, r3, r4, r5⟩ := h.r
  clear h
  go_enter Try.func20, Try.ntmps20
  go_wp2
  go_quiet (fail)
  go_wp2
  exact bodyPost_ret (v := .tuple #[.int .i64 RA.n, .slice RA.ta RA.tl RA.tc, .slice RA.sa RA.sl RA.sc]) (by simp [results, Try.results20, go_sem]) rfl ⟨rfl, _, rfl⟩
theorem levRun1_any (h : LevM w B lb rb RA RB mn i j ta tl tc sa sl sc PL gt gs nt ns ft fs) : Calls Try.prog 20 #[.pointer (some ⟨lb, 0, none⟩), .int .i64 1] w fun e w' => e = .returned (.tuple #[.int .i64 RB.n, .slice RB.ta RB.tl RB.tc, .slice RB.sa RB.sl RB.sc]) ∧ ∃ m, w' = w.drewN m := by
  obtain ⟨c0, c1, c2, c3, c4, c5, z⟩ := h.c
  obtain ⟨r0, r1, r2, r3, r4, r5⟩ := h.r
  clear h
  go_enter Try.func20, Try.ntmps20
  go_wp2
  go_quiet (fail)
  go_wp2
  exact bodyPost_ret (v := .tuple #[.int .i64 RB.n, .slice RB.ta RB.tl RB.tc, .slice RB.sa RB.sl RB.sc]) (by simp [results, Try.results20, go_sem]) rfl ⟨rfl, _, rfl⟩
end
/-- the bound on the arguments' lengths -/
theorem bytes9_any (a1 a2 a3 a4 : Option Addr) (n1 n2 n3 n4 c1 c2 c3 c4 : Nat) (w : World) : Calls Try.prog 9 #[.slice a1 n1 c1, .slice a2 n2 c2, .slice a3 n3 c3, .slice a4 n4 c4] w fun e w' => (∃ b, e = .returned (.bool b)) ∧ w' = w := by
  go_enter Try.func9, Try.ntmps9
  go_wp2
  all_goals (go_ret; exact ⟨⟨_, rfl⟩, rfl⟩)
theorem bytes21_any (a1 a2 a3 a4 : Option Addr) (n1 n2 n3 n4 c1 c2 c3 c4 : Nat) (w : World) : Calls Try.prog 21 #[.slice a1 n1 c1, .slice a2 n2 c2, .slice a3 n3 c3, .slice a4 n4 c4] w fun e w' => (∃ b, e = .returned (.bool b)) ∧ w' = w := by
  go_enter Try.func21, Try.ntmps21
  go_wp2
  all_goals (go_ret; exact ⟨⟨_, rfl⟩, rfl⟩)
theorem zzstep_any {w0 w : World} {lb rb : Nat} {RA RB : RunV} {D : Two} (ok : D.Ok) (hA : RunOk w0 RA D.na D.tA D.pA) (hB : RunOk w0 RB D.nb D.tB D.pB) (hw : Below w0.heap.size w0 w) {n : Nat} (hn : n ≤ D.size) (st : StepSt w w0.heap.size lb rb RA RB D n) :
    Calls Try.prog 14 #[.pointer (some ⟨lb, 0, none⟩)] w fun e w' => e = .returned (.bool (decide (min (n + 32) D.size = D.size))) ∧ StepSt w' w0.heap.size lb rb RA RB D (min (n + 32) D.size) ∧ Below w0.heap.size w w' := by
  have h := step_any w0 w lb rb RA RB D ok hA hB hw n hn st
  clear ok hA hB hw hn st
  go_enter Try.func14, Try.ntmps14
  go_wp2_with (go_at_call 46; refine h.mono ?_; rintro e w' ⟨rfl, h1, h2⟩)
  go_ret
  exact ⟨rfl, h1, h2⟩
end Go.Proofs.Qxb6601843a
