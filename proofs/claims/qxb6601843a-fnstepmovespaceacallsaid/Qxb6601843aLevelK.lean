import Derived.Test.Qxb6601843aLevel
import Derived.Test.Qxb6601843aStepK
namespace Go.Proofs.Qxb6601843a.K
open Go.RowKit
/-- what the steps keep: what was there ahead of the level, and what was made behind it -/
def Kept (B s9 sB : Nat) (k : Nat) : Prop := k < B ∨ (s9 ≤ k ∧ k < sB)
theorem toK {w9 wB : World} {B lb rb : Nat} {RA RB : RunV} {ta : Option Addr} {tc : Nat} {sa : Option Addr} {sc PL : Nat} {ft fs : Nat → Int} (h : Qxb6601843a.LevM w9 B lb rb RA RB 0 0 0 ta 0 tc sa 0 sc PL [] [] 0 0 ft fs) (hb : Below w9.heap.size w9 wB) :
    LevM wB (Kept B w9.heap.size wB.heap.size) lb rb RA RB 0 0 0 ta 0 tc sa 0 sc PL [] [] 0 0 ft fs := by
  have hlt := h.lt
  have hlb := h.hlb
  have hs := hb.size
  have h' := h.below hb
  refine ⟨fun k hk => ?_, fun hk => ?_, h'.lev, h'.run, ⟨fun x hx hk => ?_, ?_, List.nodup_nil, (fun g hg => nomatch hg), fun p hp => absurd hp (Nat.not_lt_zero _)⟩, ⟨fun x hx hk => ?_, ?_, List.nodup_nil, (fun g hg => nomatch hg), fun p hp => absurd hp (Nat.not_lt_zero _)⟩⟩
  · rcases hk with h1 | h1 <;> omega
  · rcases hk with h1 | h1 <;> omega
  · have := h.T.out.lt x hx
    rcases hk with h1 | h1 <;> omega
  · exact own_mono h'.T.out (Nat.zero_le _)
  · have := h.S.out.lt x hx
    rcases hk with h1 | h1 <;> omega
  · exact own_mono h'.S.out (Nat.zero_le _)
section
variable {w : World} {K : Nat → Prop} {lb rb : Nat} {RA RB : RunV} {mn i j : Int} {ta : Option Addr} {tl tc : Nat} {sa : Option Addr} {sl sc PL : Nat} {gt gs : List Nat} {nt ns : Nat} {ft fs : Nat → Int}
theorem merged_any (h : LevM w K lb rb RA RB mn i j ta tl tc sa sl sc PL gt gs nt ns ft fs) : Calls Try.prog 16 #[.pointer (some ⟨lb, 0, none⟩)] w fun e w' => e = .returned (.tuple #[.int .i64 mn, .slice ta tl tc, .slice sa sl sc]) ∧ ∃ m, w' = w.drewN m := by
  obtain ⟨c0, c1, c2, c3, c4, c5, z⟩ := h.c
  clear h
  go_enter Try.func16, Try.ntmps16
  go_wp2
  go_quiet (fail)
  go_wp2
  exact bodyPost_ret (v := .tuple #[.int .i64 mn, .slice ta tl tc, .slice sa sl sc]) (by simp [results, Try.results16, go_sem]) rfl ⟨rfl, _, rfl⟩
theorem ij_any (h : LevM w K lb rb RA RB mn i j ta tl tc sa sl sc PL gt gs nt ns ft fs) : Calls Try.prog 18 #[.pointer (some ⟨lb, 0, none⟩)] w fun e w' => e = .returned (.tuple #[.int .i64 i, .int .i64 j]) ∧ ∃ m, w' = w.drewN m := by
  obtain ⟨c0, c1, c2, c3, c4, c5, z⟩ := h.c
  clear h
  go_enter Try.func18, Try.ntmps18
  go_wp2
  go_quiet (fail)
  go_wp2
  exact bodyPost_ret (v := .tuple #[.int .i64 i, .int .i64 j]) (by simp [results, Try.results18, go_sem]) rfl ⟨rfl, _, rfl⟩
theorem levRunCount_any (h : LevM w K lb rb RA RB mn i j ta tl tc sa sl sc PL gt gs nt ns ft fs) : Calls Try.prog 19 #[.pointer (some ⟨lb, 0, none⟩)] w fun e w' => e = .returned (.int .i64 2) ∧ w' = w := by
  obtain ⟨c0, c1, c2, c3, c4, c5, z⟩ := h.c
  clear h
  go_enter Try.func19, Try.ntmps19
  go_wp2
  go_ret
  exact ⟨rfl, rfl⟩
theorem levRun0_any (h : LevM w K lb rb RA RB mn i j ta tl tc sa sl sc PL gt gs nt ns ft fs) : Calls Try.prog 20 #[.pointer (some ⟨lb, 0, none⟩), .int .i64 0] w fun e w' => e = .returned (.tuple #[.int .i64 RA.n, .slice RA.ta RA.tl RA.tc, .slice RA.sa RA.sl RA.sc]) ∧ ∃ m, w' = w.drewN m := by
  obtain ⟨c0, c1, c2, c3, c4, c5, z⟩ := h.c
  obtain ⟨r0, r1, r2, r3, r4, r5⟩ := h.r
  clear h
  go_enter Try.func20, Try.ntmps20
  go_wp2
  go_quiet (fail)
  go_wp2
  exact bodyPost_ret (v := .tuple #[.int .i64 RA.n, .slice RA.ta RA.tl RA.tc, .slice RA.sa RA.sl RA.sc]) (by simp [results, Try.results20, go_sem]) rfl ⟨rfl, _, rfl⟩
theorem levRun1_any (h : LevM w K lb rb RA RB mn i j ta tl tc sa sl sc PL gt gs nt ns ft fs) : Calls Try.prog 20 #[.pointer (some ⟨lb, 0, none⟩), .int .i64 1] w fun e w' => e = .returned (.tuple #[.int .i64 RB.n, .slice RB.ta RB.tl RB.tc, .slice RB.sa RB.sl RB.sc]) ∧ ∃ m, w' = w.drewN m := by
  obtain ⟨c0, c1, c2, c3, c4, c5, z⟩ := h.c
  obtain ⟨r0, r1, r2, r3, r4, r5⟩ := h.r
  clear h
  go_enter Try.func20, Try.ntmps20
  go_wp2
  go_quiet (fail)
  go_wp2
  exact bodyPost_ret (v := .tuple #[.int .i64 RB.n, .slice RB.ta RB.tl RB.tc, .slice RB.sa RB.sl RB.sc]) (by simp [results, Try.results20, go_sem]) rfl ⟨rfl, _, rfl⟩
end
theorem zzstep_any {w0 w : World} {lb rb : Nat} {RA RB : RunV} {D : Two} (ok : D.Ok) (hA : RunOk w0 RA D.na D.tA D.pA) (hB : RunOk w0 RB D.nb D.tB D.pB) {K : Nat → Prop} (hK0 : ∀ k, k < w0.heap.size → K k) (hw : Keep K w0 w) {n : Nat} (hn : n ≤ D.size) (st : StepSt w K lb rb RA RB D n) :
    Calls Try.prog 14 #[.pointer (some ⟨lb, 0, none⟩)] w fun e w' => e = .returned (.bool (decide (min (n + 32) D.size = D.size))) ∧ StepSt w' K lb rb RA RB D (min (n + 32) D.size) ∧ Keep K w w' := by
  have h := step_any w0 w lb rb RA RB D ok hA hB K hK0 hw n hn st
  clear ok hA hB hK0 hw hn st
  go_enter Try.func14, Try.ntmps14
  go_wp2_with (go_at_call 46; refine h.mono ?_; rintro e w' ⟨rfl, h1, h2⟩)
  go_ret
  exact ⟨rfl, h1, h2⟩
end Go.Proofs.Qxb6601843a.K
