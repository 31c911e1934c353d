import Derived.Test.Qxb6601843aProg
import Derived.Test.Qxb6601843aFront
import Derived.Test.Qxb6601843aIntRows
namespace Go.Proofs.Qxb6601843a
open Go.RowKit
/-- the first n prices of a run's pieces -/
def Pcs (w : World) (ta : Option Addr) (tl : Nat) (kd : IntKind) (L : Nat → Nat) (n : Nat) (f : Nat → Int) : Prop :=
  ∀ p, p < n → p / 1024 < tl ∧ p % 1024 < L (p / 1024) ∧ ∃ tb g, ta = some ⟨tb, 0, none⟩ ∧ w.cell? ⟨tb, p / 1024, none⟩ = some (.slice (some ⟨g, 0, none⟩) (L (p / 1024)) (L (p / 1024))) ∧ w.cell? ⟨g, p % 1024, none⟩ = some (.int kd (f p))
theorem Pcs.below {w w' : World} {ta : Option Addr} {tl : Nat} {kd : IntKind} {L : Nat → Nat} {n : Nat} {f : Nat → Int} (h : Pcs w ta tl kd L n f) (hb : Below w.heap.size w w') : Pcs w' ta tl kd L n f := by
  intro p hp
  obtain ⟨h1, h2, tb, g, h3, h4, h5⟩ := h p hp
  exact ⟨h1, h2, tb, g, h3, (hb.cell (p := ⟨tb, _, none⟩) (World.block_lt_of_cell? w _ h4)).trans h4, (hb.cell (p := ⟨g, _, none⟩) (World.block_lt_of_cell? w _ h5)).trans h5⟩
/-- a row of numbers, by a function -/
def FRd (w : World) (a : Option Addr) (kd : IntKind) (n : Nat) (f : Nat → Int) : Prop := ∀ p, p < n → ∃ b off, a = some ⟨b, off, none⟩ ∧ w.cell? ⟨b, off + p, none⟩ = some (.int kd (f p))
theorem FRd.below {w w' : World} {a : Option Addr} {kd : IntKind} {n : Nat} {f : Nat → Int} (h : FRd w a kd n f) (hb : Below w.heap.size w w') : FRd w' a kd n f := by
  intro p hp
  obtain ⟨b, off, h1, h2⟩ := h p hp
  exact ⟨b, off, h1, (hb.cell (p := ⟨b, _, none⟩) (World.block_lt_of_cell? w _ h2)).trans h2⟩
theorem Pcs.drewN {w : World} {ta : Option Addr} {tl : Nat} {kd : IntKind} {L : Nat → Nat} {n : Nat} {f : Nat → Int} (h : Pcs w ta tl kd L n f) (m : Nat) : Pcs (w.drewN m) ta tl kd L n f := h
theorem Pcs.tail {w : World} {ta : Option Addr} {tl : Nat} {kd : IntKind} {L : Nat → Nat} {n : Nat} {f : Nat → Int} (h : Pcs w ta tl kd L n f) {p : Nat} (hp : p < n) :
    p / 1024 < tl ∧ p % 1024 < L (p / 1024) ∧ ∃ tb g, ta = some ⟨tb, 0, none⟩ ∧ w.cell? ⟨tb, p / 1024, none⟩ = some (.slice (some ⟨g, 0, none⟩) (L (p / 1024)) (L (p / 1024))) ∧ ∀ q, q < n → q / 1024 = p / 1024 → w.cell? ⟨g, q % 1024, none⟩ = some (.int kd (f q)) := by
  obtain ⟨h1, h2, tb, g, h3, h4, h5⟩ := h p hp
  refine ⟨h1, h2, tb, g, h3, h4, fun q hq e => ?_⟩
  obtain ⟨_, _, tb', g', h3', h4', h5'⟩ := h q hq
  rw [h3] at h3'
  cases h3'
  rw [e, h4] at h4'
  simp only [Option.some.injEq, Value.slice.injEq, Addr.mk.injEq] at h4'
  rw [h4'.1.1]; exact h5'
theorem sumTo_any (rb ro : Nat) (sa : Option Addr) (sl sc : Nat) (L : Nat → Nat) (n : Nat) (S : Nat → Int) (w : World) (hS0 : S 0 = 0) (hc : w.cell? ⟨rb, ro + 2, none⟩ = some (.slice sa sl sc)) (hp : Pcs w sa sl .i64 L n (fun p => S (p + 1))) (p : Nat) (hpn : p ≤ n) (hn : n ≤ 1000000) :
    Calls Try.prog 51 #[.pointer (some ⟨rb, ro, none⟩), .int .i64 p] w fun e w' => e = .returned (.int .i64 (S p)) ∧ w' = w := by
  cases p with
  | zero =>
    rw [hS0]
    go_enter Try.func51, Try.ntmps51
    go_wp2
    go_ret
    exact ⟨rfl, rfl⟩
  | succ q =>
    obtain ⟨h1, h2, tb, g, rfl, h4, h5⟩ := hp q (by omega)
    clear hp
    dsimp only at h5
    generalize S (q + 1) = s at *
    generalize L (q / 1024) = l at *
    go_enter Try.func51, Try.ntmps51
    go_wp2
    go_ret
    exact ⟨rfl, rfl⟩
/-- what tail gives -/
def TailOk (w : World) (a1 a2 : Option Addr) (la p n : Nat) (tf : Nat → Int) (S : Nat → Int) : Prop :=
  (p < n → 0 < la) ∧ (p = n → la = 0) ∧ la ≤ 1024 ∧ p + la ≤ n ∧ ∀ x, x < la → ∃ g1 o1 g2 o2, a1 = some ⟨g1, o1, none⟩ ∧ a2 = some ⟨g2, o2, none⟩ ∧ w.cell? ⟨g1, o1 + x, none⟩ = some (.int .i32 (tf (p + x))) ∧ w.cell? ⟨g2, o2 + x, none⟩ = some (.int .i64 (S (p + x + 1)))
theorem tail_any (rb ro : Nat) (ta : Option Addr) (tl tc : Nat) (sa : Option Addr) (sl sc : Nat) (n : Nat) (tf : Nat → Int) (S : Nat → Int) (w0 w : World) (hb : Below w0.heap.size w0 w) (hS0 : S 0 = 0)
    (hc0 : w.cell? ⟨rb, ro, none⟩ = some (.int .i64 n)) (hc1 : w.cell? ⟨rb, ro + 1, none⟩ = some (.slice ta tl tc)) (hc2 : w.cell? ⟨rb, ro + 2, none⟩ = some (.slice sa sl sc))
    (hpt : Pcs w0 ta tl .i32 (fun c => min 1024 (n - c * 1024)) n tf) (hps : Pcs w0 sa sl .i64 (fun c => min 1024 (n - c * 1024)) n (fun p => S (p + 1))) (p : Nat) (hpn : p ≤ n) (hn : n ≤ 1000000) :
    Calls Try.prog 49 #[.pointer (some ⟨rb, ro, none⟩), .int .i64 p] w fun e w' => (∃ a1 a2 la, e = .returned (.tuple #[.slice a1 la la, .slice a2 la la, .int .i64 (S p)]) ∧ TailOk w0 a1 a2 la p n tf S) ∧ ∃ m, w' = w.drewN m := by
  have hs := fun m => sumTo_any rb ro sa sl sc _ n S (w.drewN m) hS0 hc2 ((hps.below hb).drewN m) p hpn hn
  by_cases hlt : p < n
  · obtain ⟨h1, h2, tb, g, rfl, h4, h5⟩ := hpt.tail hlt
    obtain ⟨k1, k2, tb', g', rfl, k4, k5⟩ := hps.tail hlt
    clear hpt hps

    have HT : Hid (TailOk w0 (some ⟨g, p % 1024, none⟩) (some ⟨g', p % 1024, none⟩) (min 1024 (n - p / 1024 * 1024) - p % 1024) p n tf S) := by
      refine ⟨by omega, by omega, by omega, by omega, fun x hx => ⟨g, p % 1024, g', p % 1024, rfl, rfl, ?_, ?_⟩⟩
      · have e1 : (p + x) / 1024 = p / 1024 := by omega
        have e2 : p % 1024 + x = (p + x) % 1024 := by omega
        rw [e2]; exact h5 (p + x) (by omega) e1
      · have e1 : (p + x) / 1024 = p / 1024 := by omega
        have e2 : p % 1024 + x = (p + x) % 1024 := by omega
        rw [e2]; exact k5 (p + x) (by omega) e1
    clear h5 k5
    have h4 := (hb.cell (p := ⟨tb, _, none⟩) (World.block_lt_of_cell? w0 _ h4)).trans h4
    have k4 := (hb.cell (p := ⟨tb', _, none⟩) (World.block_lt_of_cell? w0 _ k4)).trans k4
    clear hb
    generalize min 1024 (n - p / 1024 * 1024) = l at *
    generalize S p = s at *
    have hd : ((p : Int) == (n : Int)) = false := by simp; omega
    go_enter Try.func49, Try.ntmps49
    go_wp2
    go_quiet ((go_at_call 51; exact Calls.quiet_of_same (hs _)))
    go_wp2
    exact bodyPost_ret (v := .tuple #[.slice (some ⟨g, p % 1024, none⟩) (l - p % 1024) (l - p % 1024), .slice (some ⟨g', p % 1024, none⟩) (l - p % 1024) (l - p % 1024), .int .i64 s]) (by simp [results, Try.results49, go_sem]) rfl ⟨⟨_, _, _, rfl, HT.out⟩, _, rfl⟩
  · have e : p = n := by omega
    subst e
    clear hpt hps hb
    generalize S p = s at *
    go_enter Try.func49, Try.ntmps49
    go_wp2_with (go_at_call 51; refine same_calls (hs 0) ?_)
    exact bodyPost_ret (v := .tuple #[.slice none 0 0, .slice none 0 0, .int .i64 s]) (by simp [results, Try.results49, go_sem]) rfl ⟨⟨none, none, 0, rfl, by omega, fun _ => rfl, by omega, by omega, fun x hx => absurd hx (Nat.not_lt_zero _)⟩, 0, rfl⟩

set_option maxRecDepth 20000 in
set_option maxHeartbeats 1000000 in
/-- the places from 'p' to 'q' of two rows of int32 -/
theorem spanHolds_any (ta : Option Addr) (tl tc : Nat) (sa : Option Addr) (sl sc : Nat) (L L' : Nat → Nat) (n : Nat) (tf pf : Nat → Int) (wt : Option Addr) (wtn wtc : Nat) (wp : Option Addr) (wpn wpc : Nat) (w : World)
    (hpt : Pcs w ta tl .i32 L n tf) (hps : Pcs w sa sl .i64 L' n (fun p => psum pf (p + 1)))
    (hwt : FRd w wt .i32 n tf) (hwp : FRd w wp .i32 n pf) (hn1 : n ≤ wtn) (hn2 : n ≤ wpn) (hn : n ≤ 1000000) (from_ to_ : Nat) (hft : from_ ≤ to_) (hto : to_ ≤ n) (hbd : ∀ p, p < n → -2147483648 ≤ pf p ∧ pf p ≤ 2147483647) :
    Calls Try.prog 23 #[.slice ta tl tc, .slice sa sl sc, .slice wt wtn wtc, .slice wp wpn wpc, .int .i64 from_, .int .i64 to_, .int .i64 (psum pf from_)] w fun e w' => e = .returned (.tuple #[.int .i64 (psum pf to_), .bool true]) ∧ ∃ m, w' = w.drewN m := by
  have d0 : decide ((from_ : Int) < 0) = false := decide_eq_false (by omega)
  have d1 : decide (wtn < to_) = false := decide_eq_false (by omega)
  have d2 : decide (wpn < to_) = false := decide_eq_false (by omega)
  go_enter Try.func23, Try.ntmps23
  go_wp2
  go_loopw [6, 16] (fun s i wr => ∃ p : Nat, from_ ≤ p ∧ p ≤ to_ ∧ i = .int .i64 p ∧ s = .int .i64 (psum pf p) ∧ ∃ m, wr = w.drewN m) (fun _ i _ => to_ - (intOf i).toNat)
  case atStart => exact ⟨from_, Nat.le_refl _, hft, rfl, rfl, 0, rfl⟩
  case round =>
    obtain ⟨p, hp1, hp2, rfl, rfl, m, rfl⟩ := hrel
    by_cases hlt : p < to_
    · obtain ⟨t1, t2, tb, g, rfl, t4, t5⟩ := hpt p (by omega)
      obtain ⟨s1, s2, sb, h, rfl, s4, s5⟩ := hps p (by omega)
      obtain ⟨b1, o1, rfl, c1⟩ := hwt p (by omega)
      obtain ⟨b2, o2, rfl, c2⟩ := hwp p (by omega)
      have hb := hbd p (by omega)
      have hq := psum_bound pf p (fun q hq => hbd q (by omega))
      have HS : Hid (psum pf (p + 1) = psum pf p + pf p) := rfl
      simp only [psum] at s5
      clear hpt hps hwt hwp hbd
      generalize L (p / 1024) = l at *
      generalize L' (p / 1024) = l' at *
      generalize pf p = v at *
      generalize psum pf p = s at *
      generalize tf p = t at *
      go_wp2
      go_quiet (fail)
      go_wp2
      go_roundw
      case rel => exact ⟨p + 1, by omega, by omega, by go_num, by rw [HS.out], _, rfl⟩
      case measure => simp [intOf]; omega
    · have e : p = to_ := by omega
      subst e
      go_wp2
      exact bodyPost_ret (v := .tuple #[.int .i64 (psum pf p), .bool true]) (by simp [results, Try.results23, go_sem]) rfl ⟨rfl, _, rfl⟩
theorem runHolds_any (ta : Option Addr) (tl tc : Nat) (sa : Option Addr) (sl sc : Nat) (L L' : Nat → Nat) (n : Nat) (tf pf : Nat → Int) (wt : Option Addr) (wtc : Nat) (wp : Option Addr) (wpc : Nat) (w : World)
    (hpt : Pcs w ta tl .i32 L n tf) (hps : Pcs w sa sl .i64 L' n (fun p => psum pf (p + 1)))
    (hwt : FRd w wt .i32 n tf) (hwp : FRd w wp .i32 n pf) (hn : n ≤ 1000000) (hbd : ∀ p, p < n → -2147483648 ≤ pf p ∧ pf p ≤ 2147483647) :
    Calls Try.prog 17 #[.int .i64 n, .slice ta tl tc, .slice sa sl sc, .slice wt n wtc, .slice wp n wpc] w fun e w' => e = .returned (.bool true) ∧ ∃ m, w' = w.drewN m := by
  have h := spanHolds_any ta tl tc sa sl sc L L' n tf pf wt n wtc wp n wpc w hpt hps hwt hwp (Nat.le_refl _) (Nat.le_refl _) hn 0 n (Nat.zero_le _) (Nat.le_refl _) hbd
  have h' : Calls Try.prog 23 #[.slice ta tl tc, .slice sa sl sc, .slice wt n wtc, .slice wp n wpc, .int .i64 0, .int .i64 n, .int .i64 0] w fun e w' => e = .returned (.tuple #[.int .i64 (psum pf n), .bool true]) ∧ ∃ m, w' = w.drewN m := h
  clear hpt hps hwt hwp hbd h
  go_enter Try.func17, Try.ntmps17
  go_wp2_with (go_at_call 23; refine h'.mono ?_; rintro e w' ⟨rfl, m, rfl⟩)
  go_ret
  exact ⟨rfl, _, rfl⟩
end Go.Proofs.Qxb6601843a
