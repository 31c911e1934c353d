import Derived.Test.Qxb6601843aRoomK
import Derived.Deep.CutRange
import Derived.Deep.CutBlock
import Derived.Deep.DeepCutAuto
namespace Go.Proofs.Qxb6601843a.K
open Go.RowKit
theorem hideE {p : Prop} (h : p) : Hid p := h
theorem LevM.cast {w : World} {K : Nat → Prop} {lb rb : Nat} {RA RB : RunV} {mn i j : Int} {ta : Option Addr} {tl tc : Nat} {sa : Option Addr} {sl sc PL : Nat} {gt gs : List Nat} {nt ns : Nat} {ft fs : Nat → Int} (h : LevM w K lb rb RA RB mn i j ta tl tc sa sl sc PL gt gs nt ns ft fs)
    {tl' sl' : Nat} (e1 : tl = tl') (e2 : sl = sl') : LevM w K lb rb RA RB mn i j ta tl' tc sa sl' sc PL gt gs nt ns ft fs := by subst e1 e2; exact h
theorem room_any (w : World) (K : Nat → Prop) (lb rb : Nat) (RA RB : RunV) (n : Nat) (i j : Int) (ta : Option Addr) (tc : Nat) (sa : Option Addr) (sc PL : Nat) (gt gs : List Nat) (ft fs : Nat → Int)
    (h : LevM w K lb rb RA RB n i j ta ((n + 1023) / 1024) tc sa ((n + 1023) / 1024) sc PL gt gs n n ft fs) (size : Nat) (hn : n < size) (hsz : size ≤ 131072) (hPL : PL = min 1024 size) :
    Calls Try.prog 50 #[.pointer (some ⟨lb, 1, none⟩), .int .i64 size] w fun e w' => ∃ g1 g2, e = .returned (.tuple #[.slice (some ⟨g1, n % 1024, none⟩) (PL - n % 1024) (PL - n % 1024), .slice (some ⟨g2, n % 1024, none⟩) (PL - n % 1024) (PL - n % 1024)]) ∧
      ∃ ta' tc' sa' sc' gt' gs', LevM w' K lb rb RA RB n i j ta' (n / 1024 + 1) tc' sa' (n / 1024 + 1) sc' PL gt' gs' n n ft fs ∧ (gt'[n / 1024]? = some g1 ∧ gs'[n / 1024]? = some g2) ∧ Keep K w w' := by
  by_cases h0 : n % 1024 = 0
  · exact room_new w K lb rb RA RB n i j ta _ tc sa _ sc PL gt gs ft fs h size hn hsz hPL (by omega) (by omega) h0
  · have e : (n + 1023) / 1024 = n / 1024 + 1 := by omega
    refine (room_old w K lb rb RA RB n i j ta _ tc sa _ sc PL gt gs ft fs h size hn hsz hPL e e).mono ?_
    rintro e' w' ⟨g1, g2, rfl, hg, m, rfl⟩
    exact ⟨g1, g2, rfl, ta, tc, sa, sc, gt, gs, (h.cast e e).drewN m, hg, (Keep.refl _ _).drewN m⟩

/-- n of the prices are merged -/
def StepSt (w : World) (K : Nat → Prop) (lb rb : Nat) (RA RB : RunV) (D : Two) (n : Nat) : Prop :=
  ∃ ta tc sa sc gt gs, LevM w K lb rb RA RB n (D.front n).1 (D.front n).2 ta ((n + 1023) / 1024) tc sa ((n + 1023) / 1024) sc (min 1024 D.size) gt gs n n D.eT (fun p => psum D.eP (p + 1))
theorem StepSt.drewN {w : World} {K : Nat → Prop} {lb rb : Nat} {RA RB : RunV} {D : Two} {n : Nat} (h : StepSt w K lb rb RA RB D n) (m : Nat) : StepSt (w.drewN m) K lb rb RA RB D n := by
  obtain ⟨ta, tc, sa, sc, gt, gs, H⟩ := h
  exact ⟨ta, tc, sa, sc, gt, gs, H.drewN m⟩
/-- the two runs that are read -/
structure RunOk (w : World) (R : RunV) (n : Nat) (tf pf : Nat → Int) : Prop where
  hn : R.n = n
  t : Pcs w R.ta R.tl .i32 (fun c => min 1024 (n - c * 1024)) n tf
  s : Pcs w R.sa R.sl .i64 (fun c => min 1024 (n - c * 1024)) n (fun p => psum pf (p + 1))
theorem RunOk.below {w w' : World} {R : RunV} {n : Nat} {tf pf : Nat → Int} (h : RunOk w R n tf pf) (hb : Below w.heap.size w w') : RunOk w' R n tf pf := ⟨h.hn, h.t.below hb, h.s.below hb⟩

/-- within one round of step: X of A's, Y of B's prices moved, Z in all -/
structure Inn (D : Two) (w wr : World) (K : Nat → Prop) (lb rb : Nat) (RA RB : RunV) (m i0 j0 : Nat) (ta : Option Addr) (tc : Nat) (sa : Option Addr) (sc size : Nat) (gt gs : List Nat) (X Y Z : Nat) : Prop where
  fr : D.front (m + Z) = (i0 + X, j0 + Y)
  L : LevM wr K lb rb RA RB m i0 j0 ta (m / 1024 + 1) tc sa (m / 1024 + 1) sc (min 1024 size) gt gs (m + Z) (m + Z) D.eT (fun p => psum D.eP (p + 1))
  bl : Keep K w wr
section
variable {D : Two} {w0 w wr : World} {K : Nat → Prop} {lb rb : Nat} {RA RB : RunV} {m i0 j0 : Nat} {ta : Option Addr} {tc : Nat} {sa : Option Addr} {sc size : Nat} {gt gs : List Nat} {X Y Z : Nat}
theorem Inn.drewN (I : Inn D w wr K lb rb RA RB m i0 j0 ta tc sa sc size gt gs X Y Z) (q : Nat) : Inn D w (wr.drewN q) K lb rb RA RB m i0 j0 ta tc sa sc size gt gs X Y Z := ⟨I.fr, I.L.drewN q, I.bl.drewN q⟩
/-- where the next two stores go -/
theorem Inn.dst (I : Inn D w wr K lb rb RA RB m i0 j0 ta tc sa sc size gt gs X Y Z) {g1 g2 rm : Nat} (hg : gt[m / 1024]? = some g1 ∧ gs[m / 1024]? = some g2) (hz : Z < rm) (_hr1 : rm + m % 1024 ≤ 1024) (hr2 : rm + m % 1024 ≤ min 1024 size) :
    (∃ u, wr.cell? ⟨g1, m % 1024 + Z, none⟩ = some u) ∧ (∃ u, wr.cell? ⟨g2, m % 1024 + Z, none⟩ = some u) ∧ wr.frozen? ⟨g1, m % 1024 + Z, none⟩ = false ∧ wr.frozen? ⟨g2, m % 1024 + Z, none⟩ = false ∧ ¬ K g1 ∧ ¬ K g2 ∧ g1 ≠ g2 := by
  obtain ⟨b1, cs1, h1, s1⟩ := I.L.T.pc g1 (List.mem_of_getElem? hg.1)
  obtain ⟨b2, cs2, h2, s2⟩ := I.L.S.pc g2 (List.mem_of_getElem? hg.2)
  refine ⟨⟨cs1[m % 1024 + Z]'(by omega), ?_⟩, ⟨cs2[m % 1024 + Z]'(by omega), ?_⟩, frozen_of_row _ _ _ _ _ h1, frozen_of_row _ _ _ _ _ h2, b1, b2, fun e => ?_⟩
  · rw [cell_of_row _ _ _ _ _ _ h1]; exact Array.getElem?_eq_getElem _
  · rw [cell_of_row _ _ _ _ _ _ h2]; exact Array.getElem?_eq_getElem _
  · subst e; rw [h1] at h2; simp at h2
/-- the two stores of a move -/
theorem Inn.put (I : Inn D w wr K lb rb RA RB m i0 j0 ta tc sa sc size gt gs X Y Z) {g1 g2 rm : Nat} (hg : gt[m / 1024]? = some g1 ∧ gs[m / 1024]? = some g2) (hz : Z < rm) (hr1 : rm + m % 1024 ≤ 1024) (hr2 : rm + m % 1024 ≤ min 1024 size)
    {X' Y' : Nat} (hf : D.front (m + Z + 1) = (i0 + X', j0 + Y')) (t s : Int) (ht : D.eT (m + Z) = t) (hs : psum D.eP (m + Z + 1) = s) :
    Inn D w ((wr.setCell ⟨g1, m % 1024 + Z, none⟩ (.int .i32 t)).setCell ⟨g2, m % 1024 + Z, none⟩ (.int .i64 s)) K lb rb RA RB m i0 j0 ta tc sa sc size gt gs X' Y' (Z + 1) := by
  subst ht hs
  obtain ⟨_, _, _, _, b1, b2, _⟩ := I.dst hg hz hr1 hr2
  have e1 : (m + Z) / 1024 = m / 1024 := by omega
  have e2 : m % 1024 + Z = (m + Z) % 1024 := by omega
  have L1 := I.L.putT (g := g1) (by rw [e1]; exact hg.1) (by omega)
  have L2 := L1.putS (g := g2) (by rw [e1]; exact hg.2) (by omega)
  refine ⟨hf, ?_, ?_⟩
  · rw [e2]; exact L2
  · exact (I.bl.setCell b1 _).setCell b2 _
/-- the round's end -/
theorem Inn.done (I : Inn D w wr K lb rb RA RB m i0 j0 ta tc sa sc size gt gs X Y Z) (hz : 0 < Z) (hz2 : Z + m % 1024 ≤ 1024) (hsz : D.size = size) :
    StepSt (((wr.setCell ⟨lb, 4, none⟩ (.int .i64 ((i0 : Int) + (X : Int)))).setCell ⟨lb, 5, none⟩ (.int .i64 ((j0 : Int) + (Y : Int)))).setCell ⟨lb, 1, none⟩ (.int .i64 ((m : Int) + (Z : Int)))) K lb rb RA RB D (m + Z) ∧
    Keep K w (((wr.setCell ⟨lb, 4, none⟩ (.int .i64 ((i0 : Int) + (X : Int)))).setCell ⟨lb, 5, none⟩ (.int .i64 ((j0 : Int) + (Y : Int)))).setCell ⟨lb, 1, none⟩ (.int .i64 ((m : Int) + (Z : Int)))) := by
  have e : m / 1024 + 1 = (m + Z + 1023) / 1024 := by omega
  have hlb := I.L.hlb
  refine ⟨⟨ta, tc, sa, sc, gt, gs, ?_⟩, ((I.bl.setCell hlb _).setCell hlb _).setCell hlb _⟩
  have h := (I.L.putIJN ((m : Int) + (Z : Int)) ((i0 : Int) + (X : Int)) ((j0 : Int) + (Y : Int))).cast e e
  rw [hsz, I.fr]
  exact h
theorem tail_cells {a1 a2 : Option Addr} {la p n : Nat} {tf S : Nat → Int} (h : TailOk w0 a1 a2 la p n tf S) {x : Nat} (hx : x < la) (hb : Below w0.heap.size w0 wr) :
    ∃ g1 o1 g2 o2, a1 = some ⟨g1, o1, none⟩ ∧ a2 = some ⟨g2, o2, none⟩ ∧ wr.cell? ⟨g1, o1 + x, none⟩ = some (.int .i32 (tf (p + x))) ∧ wr.cell? ⟨g2, o2 + x, none⟩ = some (.int .i64 (S (p + x + 1))) ∧ g1 < w0.heap.size ∧ g2 < w0.heap.size := by
  obtain ⟨g1, o1, g2, o2, h1, h2, h3, h4⟩ := h.2.2.2.2 x hx
  have l1 := World.block_lt_of_cell? w0 _ h3
  have l2 := World.block_lt_of_cell? w0 _ h4
  exact ⟨g1, o1, g2, o2, h1, h2, (hb.cell (p := ⟨g1, _, none⟩) l1).trans h3, (hb.cell (p := ⟨g2, _, none⟩) l2).trans h4, l1, l2⟩
theorem Two.Ok.range (ok : D.Ok) (n : Nat) (hn : n ≤ D.size) : -281474976710656 ≤ psum D.eP n ∧ psum D.eP n ≤ 281474976710656 := by
  have := psum_bound D.eP n (fun q hq => ok.bE q (by omega))
  have h1 := ok.la
  have h2 := ok.lb
  unfold Two.size at hn
  omega
theorem Two.Ok.rangeA (ok : D.Ok) (n : Nat) (hn : n ≤ D.na) : -281474976710656 ≤ psum D.pA n ∧ psum D.pA n ≤ 281474976710656 := by
  have := psum_bound D.pA n (fun q hq => ok.bA q (by omega))
  have h1 := ok.la
  omega
theorem Two.Ok.rangeB (ok : D.Ok) (n : Nat) (hn : n ≤ D.nb) : -281474976710656 ≤ psum D.pB n ∧ psum D.pB n ≤ 281474976710656 := by
  have := psum_bound D.pB n (fun q hq => ok.bB q (by omega))
  have h1 := ok.lb
  omega
end

set_option maxRecDepth 100000 in
set_option maxHeartbeats 4000000 in
theorem step_any (w0 w : World) (lb rb : Nat) (RA RB : RunV) (D : Two) (ok : D.Ok) (hA : RunOk w0 RA D.na D.tA D.pA) (hB : RunOk w0 RB D.nb D.tB D.pB) (K : Nat → Prop) (hK0 : ∀ k, k < w0.heap.size → K k) (hw : Keep K w0 w) (n : Nat) (hn : n ≤ D.size) (st : StepSt w K lb rb RA RB D n) :
    Calls Try.prog 46 #[.pointer (some ⟨lb, 0, none⟩)] w fun e w' => e = .returned (.bool (decide (min (n + 32) D.size = D.size))) ∧ StepSt w' K lb rb RA RB D (min (n + 32) D.size) ∧ Keep K w w' := by
  have HA : Hid (RunOk w0 RA D.na D.tA D.pA) := hA
  have HB : Hid (RunOk w0 RB D.nb D.tB D.pB) := hB
  have OK : Hid D.Ok := ok
  have hna := ok.la
  have hnb := ok.lb
  have HS : Hid (D.size = D.na + D.nb) := rfl
  have hs : D.size ≤ 131072 := by rw [HS.out]; omega
  have an := hA.hn
  have bn := hB.hn
  clear ok hA hB
  have st' := st
  obtain ⟨ta, tc, sa, sc, gt, gs, H⟩ := st'
  obtain ⟨c0, c1, c2, c3, c4, c5, z⟩ := H.c
  obtain ⟨r0, r1, r2, r3, r4, r5⟩ := H.r
  rw [an] at r0
  rw [bn] at r3
  have HK0 : Hid (∀ k, k < w0.heap.size → K k) := hK0
  clear hK0
  have hsz : (D.na : Int) + (D.nb : Int) = (D.size : Int) := by rw [HS.out]; omega
  clear H c1 c2 c3 c4 c5 z r1 r2 r4 r5
  have HSZ : Hid (∃ s, s = D.size) := ⟨_, rfl⟩
  generalize hse : D.size = size at *
  have HSE : Hid (D.size = size) := hse
  clear hse HSZ HS
  generalize hT : min (n + 32) size = T at *
  have hT1 : T ≤ n + 32 := by omega
  have hT2 : T ≤ size := by omega
  have hT3 : T = n + 32 ∨ T = size := by omega
  have hT4 : n ≤ T := by omega
  have HT3 : Hid (T = n + 32 ∨ T = size) := hT3
  clear hT hT3
  go_enter Try.func46, Try.ntmps46
  go_wp2
  go_quiet (fail)
  go_wp2
  go_quiet (fail)
  go_wp2
  go_loopw [7] (fun l wr => ∃ m : Nat, n ≤ m ∧ m ≤ T ∧ l = .int .i64 (32 + (n : Int) - (m : Int)) ∧ StepSt wr K lb rb RA RB D m ∧ Keep K w wr) (fun l _ => (intOf l).toNat)
  case atStart => exact ⟨n, Nat.le_refl _, hT4, by go_num, (st.drewN _).drewN _, ((Keep.refl _ _).drewN _).drewN _⟩
  case round =>
    as_aux_lemma =>
      clear c0 r0 r3 st
      obtain ⟨m, hm1, hm2, rfl, stm, bl⟩ := hrel
      obtain ⟨ta, tc, sa, sc, gt, gs, H⟩ := stm
      rw [HSE.out] at H
      have hadd := D.front_add m
      have hle := D.front_le m (by rw [HSE.out]; omega)
      generalize hf : D.front m = ij at *
      have HF : Hid (D.front m = ij) := hf
      clear hf
      obtain ⟨i0, j0⟩ := ij
      dsimp only at hadd hle H
      obtain ⟨c0, c1, c2, c3, c4, c5, z⟩ := H.c
      obtain ⟨r0, r1, r2, r3, r4, r5⟩ := H.r
      rw [an] at r0
      rw [bn] at r3
      by_cases hlt : m < T
      · have hbW : Keep K w0 wr := hw.trans bl
        go_wp2_with fail
        refine (tail_any rb 0 RA.ta RA.tl RA.tc RA.sa RA.sl RA.sc D.na D.tA (psum D.pA) w0 wr (hbW.below HK0.out (Nat.le_refl _)) rfl r0 r1 r2 HA.out.t HA.out.s i0 hle.1 (by omega)).mono ?_
        rintro e w1 ⟨⟨a1, a2, la, rfl, TA⟩, q1, hq1⟩
        have H1 : LevM w1 K lb rb RA RB m i0 j0 ta ((m + 1023) / 1024) tc sa ((m + 1023) / 1024) sc (min 1024 size) gt gs m m D.eT (fun p => psum D.eP (p + 1)) := by rw [hq1]; exact H.drewN _
        have bl1 : Keep K w w1 := by rw [hq1]; exact bl.drewN _
        clear hq1 c0 c1 c2 c3 c4 c5 z r0 r1 r2 r3 r4 r5 H bl hbW
        obtain ⟨c0, c1, c2, c3, c4, c5, z⟩ := H1.c
        obtain ⟨r0, r1, r2, r3, r4, r5⟩ := H1.r
        rw [bn] at r3
        go_wp2_with fail
        refine (tail_any rb 3 RB.ta RB.tl RB.tc RB.sa RB.sl RB.sc D.nb D.tB (psum D.pB) w0 w1 ((hw.trans bl1).below HK0.out (Nat.le_refl _)) rfl r3 r4 r5 HB.out.t HB.out.s j0 hle.2 (by omega)).mono ?_
        rintro e w2 ⟨⟨b1, b2, lb', rfl, TB⟩, q2, hq2⟩
        have H2 : LevM w2 K lb rb RA RB m i0 j0 ta ((m + 1023) / 1024) tc sa ((m + 1023) / 1024) sc (min 1024 size) gt gs m m D.eT (fun p => psum D.eP (p + 1)) := by rw [hq2]; exact H1.drewN _
        have bl2 : Keep K w w2 := by rw [hq2]; exact bl1.drewN _
        clear hq2 c0 c1 c2 c3 c4 c5 z r0 r1 r2 r3 r4 r5 H1 bl1
        go_wp2_with fail
        refine (room_any w2 K lb rb RA RB m i0 j0 ta tc sa sc (min 1024 size) gt gs _ _ H2 size (by omega) hs rfl).mono ?_
        rintro e w3 ⟨g1, g2, rfl, ta', tc', sa', sc', gt', gs', H3, hg, bl3⟩
        have bl4 : Keep K w w3 := bl2.trans bl3
        clear bl2 bl3 H2
        obtain ⟨hT5, rm, hrm⟩ : m < size ∧ ∃ rm, rm = min 1024 size - m % 1024 := ⟨by omega, _, rfl⟩
        have hrm1 : 0 < rm := by omega
        have hrm2 : rm + m % 1024 ≤ 1024 := by omega
        have hrm3 : rm + m % 1024 ≤ min 1024 size := by omega
        rw [← hrm]
        clear hrm
        generalize hlm : min (n + 32 - m) rm = lm at *
        have hlm1 : lm ≤ rm := by omega
        have hlm2 : lm ≤ n + 32 - m := by omega
        have hlm3 : 0 < lm := by omega
        have hmin : min (32 + (n : Int) - (m : Int)) (rm : Int) = (lm : Int) := by omega
        clear hlm
        go_wp2_with fail
        go_region
        have H4 : LevM w3.drew K lb rb RA RB m i0 j0 ta' (m / 1024 + 1) tc' sa' (m / 1024 + 1) sc' (min 1024 size) gt' gs' m m D.eT (fun p => psum D.eP (p + 1)) := H3.drewN 1
        have bl5 : Keep K w w3.drew := bl4.drew
        clear H3 bl4
        generalize w3.drew = w4 at *
        obtain ⟨c0, c1, c2, c3, c4, c5, z⟩ := H4.c
        clear c0 c2 c4 c5 z
        have hS := sumTo_any lb 1 sa' (m / 1024 + 1) sc' (fun _ => min 1024 size) m (psum D.eP) w4 rfl c3 (H4.S.pcs (fun p hp => by omega)) m (Nat.le_refl _) (by omega)
        have HSM := hideE hS
        clear hS c3
        go_wp2_with fail
        refine same_calls HSM.out ?_
        clear HSM c1
        have I0 : Inn D w w4 K lb rb RA RB m i0 j0 ta' tc' sa' sc' size gt' gs' 0 0 0 := ⟨HF.out, H4, bl5⟩
        have HG : Hid (gt'[m / 1024]? = some g1 ∧ gs'[m / 1024]? = some g2) := hg
        obtain ⟨ta1, ta2, ta3, ta4, _⟩ := id TA
        obtain ⟨tb1, tb2, tb3, tb4, _⟩ := id TB
        clear H4 bl5 hg
        go_upto_block 2 with fail
        go_cut [10, 13, 16, 17, 18, 19] (fun pa pb sum x y z wr => (∃ X Y Z : Nat, X + Y = Z ∧ X ≤ la ∧ Y ≤ lb' ∧ Z ≤ lm ∧ pa = .int .i64 (psum D.pA (i0 + X)) ∧ pb = .int .i64 (psum D.pB (j0 + Y)) ∧ sum = .int .i64 (psum D.eP (m + Z)) ∧ x = .int .i64 X ∧ y = .int .i64 Y ∧ z = .int .i64 Z ∧ Inn D w wr K lb rb RA RB m i0 j0 ta' tc' sa' sc' size gt' gs' X Y Z) ∧ (i0 ≠ D.na ∧ j0 ≠ D.nb → 0 < (intOf z)))
        case first =>
          as_aux_lemma =>
            go_wp2_with fail
            go_loopw [10, 13, 16, 17, 18, 19] (fun pa pb sum x y z wr => ∃ X Y Z : Nat, X + Y = Z ∧ X ≤ la ∧ Y ≤ lb' ∧ Z ≤ lm ∧ pa = .int .i64 (psum D.pA (i0 + X)) ∧ pb = .int .i64 (psum D.pB (j0 + Y)) ∧ sum = .int .i64 (psum D.eP (m + Z)) ∧ x = .int .i64 X ∧ y = .int .i64 Y ∧ z = .int .i64 Z ∧ Inn D w wr K lb rb RA RB m i0 j0 ta' tc' sa' sc' size gt' gs' X Y Z) (fun _ _ _ _ _ z _ => lm - (intOf z).toNat)
            case atStart => exact ⟨0, 0, 0, rfl, Nat.zero_le _, Nat.zero_le _, Nat.zero_le _, rfl, rfl, rfl, rfl, rfl, rfl, I0⟩
            case round =>
              as_aux_lemma =>
                clear I0
                obtain ⟨X, Y, Z, hxyz, hX, hY, hZ, rfl, rfl, rfl, rfl, rfl, rfl, I⟩ := hrel
                by_cases hc : (Z < lm ∧ X < la) ∧ Y < lb'
                · obtain ⟨⟨hc1, hc2⟩, hc3⟩ := hc
                  obtain ⟨ga, oa, ga2, oa2, rfl, rfl, ka, ka2, la1, la2⟩ := tail_cells TA hc2 ((hw.trans I.bl).below HK0.out (Nat.le_refl _))
                  obtain ⟨gb, ob, gb2, ob2, rfl, rfl, kb, kb2, lb1, lb2⟩ := tail_cells TB hc3 ((hw.trans I.bl).below HK0.out (Nat.le_refl _))
                  obtain ⟨⟨u1, d1⟩, ⟨u2, d2⟩, f1, f2, bb1, bb2, hne⟩ := I.dst HG.out (rm := rm) (by omega) hrm2 hrm3
                  have hn1 : ga2 ≠ g1 := fun e => bb1 (e ▸ HK0.out _ la2)
                  have hn2 : gb2 ≠ g1 := fun e => bb1 (e ▸ HK0.out _ lb2)
                  have hr1 := Two.Ok.range OK.out (m + Z) (by rw [HSE.out]; omega)
                  have hr2 := Two.Ok.rangeA OK.out (i0 + X) (by omega)
                  have hr3 := Two.Ok.rangeB OK.out (j0 + Y) (by omega)
                  have hr4 := OK.out.bA (i0 + X) (by omega)
                  have hr5 := OK.out.bB (j0 + Y) (by omega)
                  have ea : psum D.pA (i0 + X + 1) = psum D.pA (i0 + X) + D.pA (i0 + X) := rfl
                  have eb : psum D.pB (j0 + Y + 1) = psum D.pB (j0 + Y) + D.pB (j0 + Y) := rfl
                  rw [ea] at ka2
                  rw [eb] at kb2
                  clear ea eb
                  by_cases hpk : D.tA (i0 + X) ≤ D.tB (j0 + Y)
                  · have hdp : decide (D.tA (i0 + X) ≤ D.tB (j0 + Y)) = true := decide_eq_true hpk
                    have MV := hideE (D.moveA I.fr ⟨by omega, .inr hpk⟩)
                    go_wp2_with fail
                    go_quiet (fail)
                    go_wp2
                    go_roundw
                    case rel => exact ⟨X + 1, Y, Z + 1, by omega, by omega, by omega, by omega, rfl, rfl, congrArg (Value.int .i64) (by rw [show m + (Z + 1) = m + Z + 1 from rfl, MV.out.2.2]; omega), by go_num, rfl, by go_num, (I.drewN nq).put HG.out (rm := rm) (by omega) hrm2 hrm3 MV.out.1 _ _ MV.out.2.1 (by rw [MV.out.2.2]; omega)⟩
                    case measure => simp [intOf]; omega
                  · have hdp : decide (D.tA (i0 + X) ≤ D.tB (j0 + Y)) = false := decide_eq_false hpk
                    have MV := hideE (D.moveB I.fr (fun h => h.2.elim (fun h' => by omega) (fun h' => hpk h')))
                    go_wp2_with fail
                    go_quiet (fail)
                    go_wp2
                    go_roundw
                    case rel => exact ⟨X, Y + 1, Z + 1, by omega, by omega, by omega, by omega, rfl, rfl, congrArg (Value.int .i64) (by rw [show m + (Z + 1) = m + Z + 1 from rfl, MV.out.2.2]; omega), rfl, by go_num, by go_num, (I.drewN nq).put HG.out (rm := rm) (by omega) hrm2 hrm3 MV.out.1 _ _ MV.out.2.1 (by rw [MV.out.2.2]; omega)⟩
                    case measure => simp [intOf]; omega
                · go_wp2_with fail
                  all_goals
                    go_meet
                    exact ⟨⟨X, Y, Z, hxyz, hX, hY, hZ, rfl, rfl, rfl, rfl, rfl, rfl, I⟩, fun h => by simp [intOf]; omega⟩
        case rest =>
          as_aux_lemma =>
            clear I0
            obtain ⟨⟨X, Y, Z, hxyz, hX, hY, hZ, rfl, rfl, rfl, rfl, rfl, rfl, I⟩, hz0⟩ := hcut
            simp only [intOf] at hz0
            obtain ⟨c0, c1, c2, c3, c4, c5, z⟩ := I.L.c
            obtain ⟨r0, r1, r2, r3, r4, r5⟩ := I.L.r
            rw [an] at r0
            rw [bn] at r3
            clear c0 c2 c3 z r1 r2 r4 r5
            go_wp2_with fail
            go_quiet (fail)
            clear c1 c4 c5 r0 r3
            have I' := I.drewN nq
            clear I
            generalize wc.drewN nq = w5 at *
            go_upto_if 177 with fail
            go_cut [13, 16, 18, 19, 177] (fun pb sum y z _ wr => ∃ Y' Z' : Nat, X + Y' = Z' ∧ Y' ≤ lb' ∧ Z' ≤ lm ∧ pb = .int .i64 (psum D.pB (j0 + Y')) ∧ sum = .int .i64 (psum D.eP (m + Z')) ∧ y = .int .i64 Y' ∧ z = .int .i64 Z' ∧ Inn D w wr K lb rb RA RB m i0 j0 ta' tc' sa' sc' size gt' gs' X Y' Z' ∧ (j0 ≠ D.nb → 0 < Z'))
            case first =>
              as_aux_lemma =>
                by_cases hia : i0 = D.na
                · have hd : ((i0 : Int) == (D.na : Int)) = true := by simp; omega
                  have HIA : Hid (i0 = D.na) := hia
                  clear hia
                  go_wp2_with fail
                  go_loopw [13, 16, 18, 19] (fun pb sum y z wr => ∃ Y' Z' : Nat, X + Y' = Z' ∧ Y' ≤ lb' ∧ Z' ≤ lm ∧ pb = .int .i64 (psum D.pB (j0 + Y')) ∧ sum = .int .i64 (psum D.eP (m + Z')) ∧ y = .int .i64 Y' ∧ z = .int .i64 Z' ∧ Inn D w wr K lb rb RA RB m i0 j0 ta' tc' sa' sc' size gt' gs' X Y' Z') (fun _ _ _ z _ => lm - (intOf z).toNat)
                  case atStart => exact ⟨Y, Z, hxyz, hY, hZ, rfl, rfl, rfl, rfl, I'⟩
                  case round =>
                    as_aux_lemma =>
                      clear I' hxyz hY hZ
                      obtain ⟨Y', Z', hxyz, hY, hZ, rfl, rfl, rfl, rfl, I⟩ := hrel
                      by_cases hc : Z' < lm ∧ Y' < lb'
                      · obtain ⟨hc1, hc3⟩ := hc
                        obtain ⟨gb, ob, gb2, ob2, rfl, rfl, kb, kb2, lb1, lb2⟩ := tail_cells TB hc3 ((hw.trans I.bl).below HK0.out (Nat.le_refl _))
                        obtain ⟨⟨u1, d1⟩, ⟨u2, d2⟩, f1, f2, bb1, bb2, hne⟩ := I.dst HG.out (rm := rm) (by omega) hrm2 hrm3
                        have hn2 : gb2 ≠ g1 := fun e => bb1 (e ▸ HK0.out _ lb2)
                        have hr1 := Two.Ok.range OK.out (m + Z') (by rw [HSE.out]; omega)
                        have hr3 := Two.Ok.rangeB OK.out (j0 + Y') (by omega)
                        have hr5 := OK.out.bB (j0 + Y') (by omega)
                        have eb : psum D.pB (j0 + Y' + 1) = psum D.pB (j0 + Y') + D.pB (j0 + Y') := rfl
                        rw [eb] at kb2
                        clear eb
                        have MV := hideE (D.moveB I.fr (fun h => by have := h.1; have := HIA.out; omega))
                        go_wp2
                        go_roundw
                        case rel => exact ⟨Y' + 1, Z' + 1, by omega, by omega, by omega, rfl, congrArg (Value.int .i64) (by rw [show m + (Z' + 1) = m + Z' + 1 from rfl, MV.out.2.2]; omega), by go_num, by go_num, I.put HG.out (rm := rm) (by omega) hrm2 hrm3 MV.out.1 _ _ MV.out.2.1 (by rw [MV.out.2.2]; omega)⟩
                        case measure => simp [intOf]; omega
                      · go_wp2_with fail
                        all_goals
                          go_meet
                          exact ⟨Y', Z', hxyz, hY, hZ, rfl, rfl, rfl, rfl, I, fun h => by omega⟩
                · have hd : ((i0 : Int) == (D.na : Int)) = false := by simp; omega
                  go_wp2_with fail
                  go_meet
                  exact ⟨Y, Z, hxyz, hY, hZ, rfl, rfl, rfl, rfl, I', fun h => by have := hz0 ⟨hia, h⟩; omega⟩
            case rest =>
              as_aux_lemma =>
                clear I' hxyz hY hZ hz0
                obtain ⟨Y', Z', hxyz, hY, hZ, rfl, rfl, rfl, rfl, I, hz1⟩ := hcut
                obtain ⟨c0, c1, c2, c3, c4, c5, z⟩ := I.L.c
                obtain ⟨r0, r1, r2, r3, r4, r5⟩ := I.L.r
                rw [an] at r0
                rw [bn] at r3
                clear c0 c2 c3 z r1 r2 r4 r5
                go_wp2_with fail
                go_quiet (fail)
                clear c1 c4 c5 r0 r3
                have I' := I.drewN nq
                clear I
                rename_i wd _
                generalize wc.drewN nq = w6 at *
                go_upto_if 223 with fail
                go_cut [10, 16, 17, 19, 223] (fun pa sum x z _ wr => ∃ X' Z'' : Nat, X' + Y' = Z'' ∧ X' ≤ la ∧ Z'' ≤ lm ∧ pa = .int .i64 (psum D.pA (i0 + X')) ∧ sum = .int .i64 (psum D.eP (m + Z'')) ∧ x = .int .i64 X' ∧ z = .int .i64 Z'' ∧ Inn D w wr K lb rb RA RB m i0 j0 ta' tc' sa' sc' size gt' gs' X' Y' Z'' ∧ 0 < Z'')
                case first =>
                  as_aux_lemma =>
                    by_cases hjb : j0 = D.nb
                    · have hd : ((j0 : Int) == (D.nb : Int)) = true := by simp; omega
                      have HJB : Hid (j0 = D.nb) := hjb
                      have hina : i0 < D.na := by omega
                      clear hjb
                      go_wp2_with fail
                      go_loopw [10, 16, 17, 19] (fun pa sum x z wr => ∃ X' Z'' : Nat, X' + Y' = Z'' ∧ X' ≤ la ∧ Z'' ≤ lm ∧ pa = .int .i64 (psum D.pA (i0 + X')) ∧ sum = .int .i64 (psum D.eP (m + Z'')) ∧ x = .int .i64 X' ∧ z = .int .i64 Z'' ∧ Inn D w wr K lb rb RA RB m i0 j0 ta' tc' sa' sc' size gt' gs' X' Y' Z'') (fun _ _ _ z _ => lm - (intOf z).toNat)
                      case atStart => exact ⟨X, Z', hxyz, hX, hZ, rfl, rfl, rfl, rfl, I'⟩
                      case round =>
                        as_aux_lemma =>
                          clear I' hxyz hX hZ
                          obtain ⟨X', Z'', hxyz, hX, hZ, rfl, rfl, rfl, rfl, I⟩ := hrel
                          by_cases hc : Z'' < lm ∧ X' < la
                          · obtain ⟨hc1, hc3⟩ := hc
                            obtain ⟨ga, oa, ga2, oa2, rfl, rfl, ka, ka2, la1, la2⟩ := tail_cells TA hc3 ((hw.trans I.bl).below HK0.out (Nat.le_refl _))
                            obtain ⟨⟨u1, d1⟩, ⟨u2, d2⟩, f1, f2, bb1, bb2, hne⟩ := I.dst HG.out (rm := rm) (by omega) hrm2 hrm3
                            have hn2 : ga2 ≠ g1 := fun e => bb1 (e ▸ HK0.out _ la2)
                            have hr1 := Two.Ok.range OK.out (m + Z'') (by rw [HSE.out]; omega)
                            have hr3 := Two.Ok.rangeA OK.out (i0 + X') (by omega)
                            have hr5 := OK.out.bA (i0 + X') (by omega)
                            have eb : psum D.pA (i0 + X' + 1) = psum D.pA (i0 + X') + D.pA (i0 + X') := rfl
                            rw [eb] at ka2
                            clear eb
                            have MV := hideE (D.moveA I.fr ⟨by omega, .inl (by have := HJB.out; omega)⟩)
                            go_wp2
                            go_roundw
                            case rel => exact ⟨X' + 1, Z'' + 1, by omega, by omega, by omega, rfl, congrArg (Value.int .i64) (by rw [show m + (Z'' + 1) = m + Z'' + 1 from rfl, MV.out.2.2]; omega), by go_num, by go_num, I.put HG.out (rm := rm) (by omega) hrm2 hrm3 MV.out.1 _ _ MV.out.2.1 (by rw [MV.out.2.2]; omega)⟩
                            case measure => simp [intOf]; omega
                          · go_wp2_with fail
                            all_goals
                              go_meet
                              exact ⟨X', Z'', hxyz, hX, hZ, rfl, rfl, rfl, rfl, I, by omega⟩
                    · have hd : ((j0 : Int) == (D.nb : Int)) = false := by simp; omega
                      go_wp2_with fail
                      go_meet
                      exact ⟨X, Z', hxyz, hX, hZ, rfl, rfl, rfl, rfl, I', hz1 hjb⟩
                case rest =>
                  as_aux_lemma =>
                    clear I' hxyz hX hZ hz1
                    obtain ⟨X', Z'', hxyz, hX, hZ, rfl, rfl, rfl, rfl, I, hz⟩ := hcut
                    obtain ⟨c0, c1, c2, c3, c4, c5, z⟩ := I.L.c
                    have hlt4 := I.L.lt.1
                    obtain ⟨S1, S2⟩ := I.done hz (by omega) HSE.out
                    clear c0 c2 c3
                    go_wp2_with fail
                    go_region
                    go_wp2
                    go_roundw
                    case rel => exact ⟨m + Z'', by omega, by have := HT3.out; omega, congrArg (Value.int .i64) (by omega), S1.drewN 1, S2.drew⟩
                    case measure => simp [intOf]; omega
      · have HST : Hid (StepSt wr K lb rb RA RB D T) := by
          have e : m = T := by omega
          subst e
          refine ⟨ta, tc, sa, sc, gt, gs, ?_⟩
          rw [HSE.out, HF.out]
          exact H
        by_cases hm32 : (m : Int) < n + 32
        · have hms : m = size := by have := HT3.out; omega
          have hTs : decide (T = size) = true := decide_eq_true (by omega)
          have HTS : Hid (decide (T = size) = true) := hTs
          clear hTs
          subst hms
          go_wp2
          go_ret
          refine ⟨?_, HST.out, bl⟩
          rw [HTS.out]
          rfl
        · have e : decide (T = size) = ((m : Int) == (size : Int)) := by
            have : T = m := by omega
            subst this
            by_cases e2 : T = size
            · simp [e2]
            · have e3 : ¬ (T : Int) = (size : Int) := by omega
              simp [e2, e3]
          have HE : Hid (decide (T = size) = ((m : Int) == (size : Int))) := e
          clear e
          have hd : decide ((0 : Int) < 32 + (n : Int) - (m : Int)) = false := decide_eq_false (by omega)
          go_wp2
          go_ret
          refine ⟨?_, HST.out, bl⟩
          rw [HE.out]
          rfl
end Go.Proofs.Qxb6601843a.K
