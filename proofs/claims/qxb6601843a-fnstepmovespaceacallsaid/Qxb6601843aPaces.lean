import Derived.Test.Qxb6601843aPaceSt
namespace Go.Proofs.Qxb6601843a
open Go.RowKit
set_option maxRecDepth 100000 in
set_option maxHeartbeats 4000000 in
theorem paces_main (D : Two) (a1 a2 a3 a4 : Option Addr) (c1 c2 c3 c4 : Nat) (w : World) (h1 : FRd w a1 .i32 D.na D.tA) (h2 : FRd w a2 .i32 D.na D.pA) (h3 : FRd w a3 .i32 D.nb D.tB) (h4 : FRd w a4 .i32 D.nb D.pB)
    (n1 : a1 = none → D.na = 0 ∧ c1 = 0) (n2 : a2 = none → D.na = 0 ∧ c2 = 0) (n3 : a3 = none → D.nb = 0 ∧ c3 = 0) (n4 : a4 = none → D.nb = 0 ∧ c4 = 0)
    (la : D.na ≤ 65536) (lb : D.nb ≤ 65536) (bA : ∀ x, x < D.na → -2147483648 ≤ D.pA x ∧ D.pA x ≤ 2147483647) (bB : ∀ x, x < D.nb → -2147483648 ≤ D.pB x ∧ D.pB x ≤ 2147483647) :
    Calls Try.prog 4 #[.slice a1 D.na c1, .slice a2 D.na c2, .slice a3 D.nb c3, .slice a4 D.nb c4] w fun e w' => e = .returned (.bool true) ∧ Below w.heap.size w w' := by
  have BA : Hid (∀ x, x < D.na → -2147483648 ≤ D.pA x ∧ D.pA x ≤ 2147483647) := bA
  have BB : Hid (∀ x, x < D.nb → -2147483648 ≤ D.pB x ∧ D.pB x ≤ 2147483647) := bB
  clear bA bB
  have hsz : (D.na : Int) + (D.nb : Int) = (D.size : Int) := by unfold Two.size; omega
  have hs0 : D.size ≤ 131072 := by unfold Two.size; omega
  have HSZ : Hid (D.size = D.na + D.nb) := rfl
  have dd1 : decide ((65536 : Int) < (D.na : Int)) = false := decide_eq_false (by omega)
  have dd2 : decide ((65536 : Int) < (D.nb : Int)) = false := decide_eq_false (by omega)
  go_enter Try.func4, Try.ntmps4
  go_wp2_with fail
  refine (bytes21_any a1 a2 a3 a4 D.na D.na D.nb D.nb c1 c2 c3 c4 w).mono ?_
  rintro e w' ⟨⟨b, rfl⟩, hw'⟩
  subst hw'
  cases b
  · go_wp2
    go_ret
    exact ⟨rfl, Below.refl _ _⟩
  · go_wp2_with fail
    refine (sorted_any a1 D.na c1 D.tA _ h1 (by omega)).mono ?_
    rintro e w1 ⟨⟨b1, rfl, hs1⟩, m1, hw1⟩
    have B1 := below_draw hw1
    clear hw1
    replace h1 := h1.below B1
    replace h2 := h2.below B1
    replace h3 := h3.below B1
    replace h4 := h4.below B1
    cases b1
    · go_wp2_with fail
      go_ret
      exact ⟨rfl, B1⟩
    · go_wp2_with fail
      refine (sorted_any a3 D.nb c3 D.tB _ h3 (by omega)).mono ?_
      rintro e w2 ⟨⟨b2, rfl, hs2⟩, m2, hw2⟩
      have B2 := below_draw hw2
      clear hw2
      replace h1 := h1.below B2
      replace h2 := h2.below B2
      replace h3 := h3.below B2
      replace h4 := h4.below B2
      replace B2 := B1.trans (B2.mono B1.size)
      clear B1
      cases b2
      · go_wp2_with fail
        go_ret
        exact ⟨rfl, B2⟩
      · have OK : Hid D.Ok := ⟨mono_of_step _ _ (hs1 (by simp)), mono_of_step _ _ (hs2 (by simp)), la, lb, BA.out, BB.out⟩
        clear hs1 hs2
        go_wp2_with fail
        refine (clone32_any a1 D.na c1 D.tA n1 _ h1 (by omega)).mono ?_
        rintro e w3 ⟨a1', c1', rfl, k1, B3⟩
        replace h2 := h2.below B3
        replace h3 := h3.below B3
        replace h4 := h4.below B3
        replace B3 := B2.trans (B3.mono B2.size)
        clear h1 B2
        go_wp2_with fail
        refine (clone32_any a2 D.na c2 D.pA n2 _ h2 (by omega)).mono ?_
        rintro e w4 ⟨a2', c2', rfl, k2, B4⟩
        replace k1 := k1.below B4
        replace h3 := h3.below B4
        replace h4 := h4.below B4
        replace B4 := B3.trans (B4.mono B3.size)
        clear h2 B3
        go_wp2_with fail
        refine (clone32_any a3 D.nb c3 D.tB n3 _ h3 (by omega)).mono ?_
        rintro e w5 ⟨a3', c3', rfl, k3, B5⟩
        replace k1 := k1.below B5
        replace k2 := k2.below B5
        replace h4 := h4.below B5
        replace B5 := B4.trans (B5.mono B4.size)
        clear h3 B4
        go_wp2_with fail
        refine (clone32_any a4 D.nb c4 D.pB n4 _ h4 (by omega)).mono ?_
        rintro e w6 ⟨a4', c4', rfl, k4, B6⟩
        replace k1 := k1.below B6
        replace k2 := k2.below B6
        replace k3 := k3.below B6
        replace B6 := B5.trans (B6.mono B5.size)
        clear h4 B5
        go_wp2_with fail
        refine (pieces_any a1' a2' D.na c1' c2' D.tA D.pA _ k1 k2 la BA.out).mono ?_
        rintro e w7 ⟨ta, tl, tc, sa, sl, sc, rfl, P1, P2, B7⟩
        replace k1 := k1.below B7
        replace k2 := k2.below B7
        replace k3 := k3.below B7
        replace k4 := k4.below B7
        replace B7 := B6.trans (B7.mono B6.size)
        clear B6
        go_wp2_with fail
        refine (pieces_any a3' a4' D.nb c3' c4' D.tB D.pB _ k3 k4 lb BB.out).mono ?_
        rintro e w8 ⟨tb, tl', tc', sb, sl', sc', rfl, P3, P4, B8⟩
        replace k1 := k1.below B8
        replace k2 := k2.below B8
        replace k3 := k3.below B8
        replace k4 := k4.below B8
        have RA : Hid (K.RunOk w8 ⟨D.na, ta, tl, tc, sa, sl, sc⟩ D.na D.tA D.pA) := ⟨rfl, P1.below B8, P2.below B8⟩
        have RB : Hid (K.RunOk w8 ⟨D.nb, tb, tl', tc', sb, sl', sc'⟩ D.nb D.tB D.pB) := ⟨rfl, P3, P4⟩
        replace B8 := B7.trans (B8.mono B7.size)
        clear B7 P1 P2 P3 P4
        go_wp2_with fail
        refine (newLevel_any D.na D.nb ta tb sa sb tl tc sl sc tl' tc' sl' sc' w8 la lb (min 1024 D.size) D.eT (fun p => psum D.eP (p + 1))).mono ?_
        rintro e w9 ⟨lv, rfl, ⟨t, c, s, c', L⟩, B9⟩
        have HL9 := hideE L
        clear L
        have j1 := k1.below B9
        have j2 := k2.below B9
        have j3 := k3.below B9
        have j4 := k4.below B9
        have HK1 := hideE k1
        have HK2 := hideE k2
        have HK3 := hideE k3
        have HK4 := hideE k4
        clear k1 k2 k3 k4
        go_wp2_with fail
        refine (rank_any D OK.out a1' a2' a3' a4' c1' c2' c3' c4' _ j1 j2 j3 j4).mono ?_
        rintro e wA ⟨rfl, R1, R2, BA'⟩
        replace j1 := j1.below BA'
        replace j3 := j3.below BA'
        clear j2 j4
        have HR1 := hideE R1
        have HR2 := hideE R2
        have HBA := hideE BA'
        have HB9 := hideE B9
        clear R1 R2 BA' B9
        have hm := make42 D.na (by omega)
        have P0 : Hid (PRow (wA.alloc (Obj.cells (madeCells #[.int .i64 0] D.na) 3)) wA.heap.size 3 .i64 D.na (fun p => p < 0) (fun x => (D.pos x : Int))) := (PRow.new wA 3 .i64 D.na (.int .i64 0) (fun x => (D.pos x : Int))).mono (fun p hp => absurd hp (Nat.not_lt_zero _))
        generalize hN1 : w9.heap.size = N1
        have HN1 := hideE hN1
        clear hN1
        go_wp2_with fail
        go_loopw [18] (fun i wr => ∃ k : Nat, k ≤ D.na ∧ i = .int .i64 k ∧ PRow wr wA.heap.size 3 .i64 D.na (fun p => p < k) (fun x => (D.pos x : Int)) ∧ Below wA.heap.size wA wr) (fun i _ => D.na - (intOf i).toNat)
        case atStart => exact ⟨0, Nat.zero_le _, rfl, P0.out, (Below.refl _ _).alloc (Nat.le_refl _) _⟩
        case round =>
          clear P0
          obtain ⟨k, hk, rfl, PR, BP⟩ := hrel
          by_cases hlt : k < D.na
          · obtain ⟨b, off, rfl, hbw, hc⟩ := j1.at hlt
            have hcell : wr.cell? ⟨b, off + k, none⟩ = some (.int .i32 (D.tA k)) := (BP.cell (p := ⟨b, off + k, none⟩) hbw).trans (hc k hlt)
            have k3' := j3.below BP
            clear hc
            go_wp2_with fail
            refine (countLt a3' D.nb c3' D.tB (D.tA k) wr k3' (by omega) OK.out.sB).mono ?_
            rintro e w' ⟨⟨c, rfl, hc1, hc2, hc3⟩, hw'⟩
            subst hw'
            have ep : (D.pos k : Int) = (k : Int) + (c : Int) := by rw [Two.pos_of ⟨hc1, hc2, hc3⟩]; omega
            obtain ⟨⟨u, hu⟩, hz⟩ := PR.dst k hlt
            have S1 : Hid (PRow (w'.setCell ⟨wA.heap.size, k, none⟩ (.int .i64 ((k : Int) + (c : Int)))) wA.heap.size 3 .i64 D.na (fun p => p < k + 1) (fun x => (D.pos x : Int))) := by
              rw [← ep]
              exact (PR.put k hlt).mono (P' := fun p => p < k + 1) (fun p hp => by by_cases e : p = k; exact .inr e; exact .inl (by omega))
            have S2 := hideE (BP.setCell (p := ⟨wA.heap.size, k, none⟩) (Nat.le_refl _) (.int .i64 ((k : Int) + (c : Int))))
            clear hc2 hc3 PR k3' ep
            go_wp2_with fail
            go_roundw
            case rel => exact ⟨k + 1, by omega, by go_num, S1.out, S2.out⟩
            case measure => simp [intOf]; omega
          · have e : k = D.na := by omega
            subst e
            have PS0 : Hid (PaceSt D w8 wr (K.Kept w8.heap.size w9.heap.size wr.heap.size) N1 wA.heap.size lv ⟨D.na, ta, tl, tc, sa, sl, sc⟩ ⟨D.nb, tb, tl', tc', sb, sl', sc'⟩ 0) := by
              rw [← HN1.out]
              exact pace_start HB9.out HL9.out (HBA.out.trans (BP.mono HBA.out.size)) HBA.out.size (HR1.out.below BP HR1.out.lt) (HR2.out.below BP HR2.out.lt) PR
            clear HL9 HR1 HR2 HBA HB9 PR j1 j3 BP HN1 hm
            generalize K.Kept w8.heap.size w9.heap.size wr.heap.size = KP at PS0
            generalize wA.heap.size = N3 at *
            have HB8 := hideE B8
            clear B8
            go_wp2_with fail
            go_loopw [20, 21, 22, 23] (fun ai bf ws cl wx => ∃ C : Nat, (C = 0 ∨ 32 * C < D.size) ∧ cl = .int .i64 C ∧ bf = .int .i64 ((32 * C : Nat) : Int) ∧ ai = .int .i64 (((D.front (32 * C)).1 : Nat) : Int) ∧ ws = .int .i64 (psum D.eP (32 * C)) ∧ PaceSt D w8 wx KP N1 N3 lv ⟨D.na, ta, tl, tc, sa, sl, sc⟩ ⟨D.nb, tb, tl', tc', sb, sl', sc'⟩ (32 * C)) (fun _ _ _ cl _ => D.size / 32 + 3 - (intOf cl).toNat)
            case atStart => exact ⟨0, .inl rfl, rfl, rfl, rfl, rfl, PS0.out⟩
            case round =>
              clear PS0
              obtain ⟨C, hC, rfl, rfl, rfl, rfl, PS⟩ := hrel
              have hC1 : C < D.size / 32 + 2 := by omega
              have hC2 : ((C : Int) == (D.size : Int) / 32 + 2) = false := by simp; omega
              generalize hn32 : 32 * C = n at *
              have HN := hideE hn32
              clear hn32
              have hns : n ≤ D.size := by have := HN.out; omega
              clear hC
              have HZ := hideE (K.zzstep_any OK.out RA.out RB.out PS.k0 PS.kp hns PS.st)
              go_wp2_with fail
              refine HZ.out.mono ?_
              rintro e wn ⟨rfl, stn, Kn⟩
              have PS1 := PS.step Kn stn
              clear stn Kn PS HZ
              by_cases hcase : D.size ≤ n + 32
              · have hmin : min (n + 32) D.size = D.size := by omega
                have hdt : decide (min (n + 32) D.size = D.size) = true := decide_eq_true hmin
                rw [hdt]
                rw [hmin] at PS1
                clear hdt hmin
                have hle2 : D.size ≤ D.size := Nat.le_refl _
                by_cases hw : D.size < n + 32
                · as_aux_lemma =>
                  obtain ⟨mt, mc, ms, mc', gt, gs, L⟩ := PS1.st
                  go_wp2_with fail
                  refine (K.merged_any L).mono ?_
                  rintro e wB ⟨rfl, q1, hq1⟩
                  have PS2 := PS1.draw hq1
                  have L2 := LevM_draw L hq1
                  clear hq1 L PS1
                  go_wp2_with fail
                  refine (spanHolds_any mt _ mc ms _ mc' (fun _ => min 1024 D.size) (fun _ => min 1024 D.size) D.size D.eT D.eP _ D.size _ _ D.size _ wB (L2.T.pcs (fun p hp => by omega)) (L2.S.pcs (fun p hp => by omega)) (PS2.et.frd (fun p h => by omega)) (PS2.ep.frd (fun p h => by omega)) hle2 hle2 (by omega) n D.size (by omega) (Nat.le_refl _) (fun p hp => OK.out.bE p (by omega))).mono ?_
                  rintro e wC ⟨rfl, q2, hq2⟩
                  have PS3 := PS2.draw hq2
                  clear hq2 L2 PS2
                  have fle := (D.front_le D.size hle2).1
                  have fad := D.front_add D.size
                  have hj : (D.size : Int) - ((D.front D.size).1 : Int) = ((D.front D.size).2 : Int) := by omega
                  have fmo := D.front_mono n D.size (by omega)
                  go_wp2_with fail
                  go_loop [20] (fun ai => ∃ x : Nat, x ≤ (D.front D.size).1 ∧ ai = .int .i64 x) (fun ai => (D.front D.size).1 - (intOf ai).toNat)
                  case atStart => exact ⟨(D.front n).1, fmo, rfl⟩
                  case round =>
                    clear fmo
                    obtain ⟨x, hx, rfl⟩ := hrel
                    by_cases hxn : x < D.na
                    · have hcell : wC.cell? ⟨N3, x, none⟩ = some (.int .i64 (D.pos x : Int)) := PS3.pa.cell x hxn
                      have hpl := OK.out.pos_lt (n := D.size) hxn
                      by_cases hp : D.pos x < D.size
                      · have hx2 := hpl.1 hp
                        clear hpl
                        go_wp2_with fail
                        go_round
                        case rel => exact ⟨x + 1, by omega, by go_num⟩
                        case measure => simp [intOf]; omega
                      · as_aux_lemma =>
                        have ex : x = (D.front D.size).1 := by have := hpl.2; omega
                        subst ex
                        clear hpl
                        obtain ⟨_, _, _, _, _, _, L3⟩ := PS3.st
                        go_wp2_with fail
                        refine (K.ij_any L3).mono ?_
                        rintro e wD ⟨rfl, q3, hq3⟩
                        have PS4 := PS3.draw hq3
                        clear hq3 L3 PS3
                        go_wp2_with fail
                        refine (K.zzstep_any OK.out RA.out RB.out PS4.k0 PS4.kp (Nat.le_refl _) PS4.st).mono ?_
                        rintro e wS ⟨rfl, stS, KS⟩
                        have hmin2 : min (D.size + 32) D.size = D.size := by omega
                        have hdt2 : decide (min (D.size + 32) D.size = D.size) = true := decide_eq_true hmin2
                        rw [hdt2]
                        rw [hmin2] at stS
                        have PS5 := PS4.step KS stS
                        clear PS4 KS stS hmin2 hdt2
                        obtain ⟨mt, mc, ms, mc', gt, gs, L⟩ := PS5.st
                        have ed : (D.front D.size).1 = D.na ∧ (D.front D.size).2 = D.nb := by
                          have e1 := D.front_le D.size (Nat.le_refl _)
                          have e2 := D.front_add D.size
                          have e3 := HSZ.out
                          omega
                        rw [ed.1, ed.2] at L
                        clear ed
                        go_wp2_with fail
                        refine (K.merged_any L).mono ?_
                        rintro e w11 ⟨rfl, q1, hq1⟩
                        have PS6 := PS5.draw hq1
                        replace L := LevM_draw L hq1
                        clear hq1 PS5
                        go_wp2_with fail
                        refine (runHolds_any mt _ mc ms _ mc' (fun _ => min 1024 D.size) (fun _ => min 1024 D.size) D.size D.eT D.eP _ D.size _ D.size w11 (L.T.pcs (fun p hp => by omega)) (L.S.pcs (fun p hp => by omega)) (PS6.et.frd (fun p h => h)) (PS6.ep.frd (fun p h => h)) (by omega) OK.out.bE).mono ?_
                        rintro e w12 ⟨rfl, q2, hq2⟩
                        have PS7 := PS6.draw hq2
                        replace L := LevM_draw L hq2
                        clear hq2 PS6
                        go_wp2_with fail
                        refine (K.ij_any L).mono ?_
                        rintro e w13 ⟨rfl, q3, hq3⟩
                        have PS8 := PS7.draw hq3
                        replace L := LevM_draw L hq3
                        clear hq3 PS7
                        go_wp2_with fail
                        refine same_calls (K.levRunCount_any L) ?_
                        go_wp2_with fail
                        refine (K.levRun0_any L).mono ?_
                        rintro e w14 ⟨rfl, q4, hq4⟩
                        have PS9 := PS8.draw hq4
                        replace L := LevM_draw L hq4
                        clear hq4 PS8
                        have B9 := PS9.below
                        have RA9 := hideE (RA.out.below B9)
                        have k1 := HK1.out.below B9
                        have k2 := HK2.out.below B9
                        go_wp2_with fail
                        refine (runHolds_any ta tl tc sa sl sc _ _ D.na D.tA D.pA a1' c1' a2' c2' w14 RA9.out.t RA9.out.s k1 k2 (by omega) BA.out).mono ?_
                        rintro e w15 ⟨rfl, q5, hq5⟩
                        have PS10 := PS9.draw hq5
                        replace L := LevM_draw L hq5
                        clear hq5 PS9 B9 RA9 k1 k2
                        go_wp2_with fail
                        refine (K.levRun1_any L).mono ?_
                        rintro e w16 ⟨rfl, q6, hq6⟩
                        have PS11 := PS10.draw hq6
                        clear hq6 PS10 L
                        have B11 := PS11.below
                        have RB11 := hideE (RB.out.below B11)
                        have k3 := HK3.out.below B11
                        have k4 := HK4.out.below B11
                        go_wp2_with fail
                        refine (runHolds_any tb tl' tc' sb sl' sc' _ _ D.nb D.tB D.pB a3' c3' a4' c4' w16 RB11.out.t RB11.out.s k3 k4 (by omega) BB.out).mono ?_
                        rintro e w17 ⟨rfl, q7, hq7⟩
                        have PS12 := PS11.draw hq7
                        clear hq7 PS11
                        go_wp2_with fail
                        go_ret
                        exact ⟨rfl, HB8.out.trans (PS12.below.mono HB8.out.size)⟩
                    · as_aux_lemma =>
                      have ex : x = (D.front D.size).1 := by omega
                      subst ex
                      obtain ⟨_, _, _, _, _, _, L3⟩ := PS3.st
                      go_wp2_with fail
                      refine (K.ij_any L3).mono ?_
                      rintro e wD ⟨rfl, q3, hq3⟩
                      have PS4 := PS3.draw hq3
                      clear hq3 L3 PS3
                      go_wp2_with fail
                      refine (K.zzstep_any OK.out RA.out RB.out PS4.k0 PS4.kp (Nat.le_refl _) PS4.st).mono ?_
                      rintro e wS ⟨rfl, stS, KS⟩
                      have hmin2 : min (D.size + 32) D.size = D.size := by omega
                      have hdt2 : decide (min (D.size + 32) D.size = D.size) = true := decide_eq_true hmin2
                      rw [hdt2]
                      rw [hmin2] at stS
                      have PS5 := PS4.step KS stS
                      clear PS4 KS stS hmin2 hdt2
                      obtain ⟨mt, mc, ms, mc', gt, gs, L⟩ := PS5.st
                      have ed : (D.front D.size).1 = D.na ∧ (D.front D.size).2 = D.nb := by
                        have e1 := D.front_le D.size (Nat.le_refl _)
                        have e2 := D.front_add D.size
                        have e3 := HSZ.out
                        omega
                      rw [ed.1, ed.2] at L
                      clear ed
                      go_wp2_with fail
                      refine (K.merged_any L).mono ?_
                      rintro e w11 ⟨rfl, q1, hq1⟩
                      have PS6 := PS5.draw hq1
                      replace L := LevM_draw L hq1
                      clear hq1 PS5
                      go_wp2_with fail
                      refine (runHolds_any mt _ mc ms _ mc' (fun _ => min 1024 D.size) (fun _ => min 1024 D.size) D.size D.eT D.eP _ D.size _ D.size w11 (L.T.pcs (fun p hp => by omega)) (L.S.pcs (fun p hp => by omega)) (PS6.et.frd (fun p h => h)) (PS6.ep.frd (fun p h => h)) (by omega) OK.out.bE).mono ?_
                      rintro e w12 ⟨rfl, q2, hq2⟩
                      have PS7 := PS6.draw hq2
                      replace L := LevM_draw L hq2
                      clear hq2 PS6
                      go_wp2_with fail
                      refine (K.ij_any L).mono ?_
                      rintro e w13 ⟨rfl, q3, hq3⟩
                      have PS8 := PS7.draw hq3
                      replace L := LevM_draw L hq3
                      clear hq3 PS7
                      go_wp2_with fail
                      refine same_calls (K.levRunCount_any L) ?_
                      go_wp2_with fail
                      refine (K.levRun0_any L).mono ?_
                      rintro e w14 ⟨rfl, q4, hq4⟩
                      have PS9 := PS8.draw hq4
                      replace L := LevM_draw L hq4
                      clear hq4 PS8
                      have B9 := PS9.below
                      have RA9 := hideE (RA.out.below B9)
                      have k1 := HK1.out.below B9
                      have k2 := HK2.out.below B9
                      go_wp2_with fail
                      refine (runHolds_any ta tl tc sa sl sc _ _ D.na D.tA D.pA a1' c1' a2' c2' w14 RA9.out.t RA9.out.s k1 k2 (by omega) BA.out).mono ?_
                      rintro e w15 ⟨rfl, q5, hq5⟩
                      have PS10 := PS9.draw hq5
                      replace L := LevM_draw L hq5
                      clear hq5 PS9 B9 RA9 k1 k2
                      go_wp2_with fail
                      refine (K.levRun1_any L).mono ?_
                      rintro e w16 ⟨rfl, q6, hq6⟩
                      have PS11 := PS10.draw hq6
                      clear hq6 PS10 L
                      have B11 := PS11.below
                      have RB11 := hideE (RB.out.below B11)
                      have k3 := HK3.out.below B11
                      have k4 := HK4.out.below B11
                      go_wp2_with fail
                      refine (runHolds_any tb tl' tc' sb sl' sc' _ _ D.nb D.tB D.pB a3' c3' a4' c4' w16 RB11.out.t RB11.out.s k3 k4 (by omega) BB.out).mono ?_
                      rintro e w17 ⟨rfl, q7, hq7⟩
                      have PS12 := PS11.draw hq7
                      clear hq7 PS11
                      go_wp2_with fail
                      go_ret
                      exact ⟨rfl, HB8.out.trans (PS12.below.mono HB8.out.size)⟩
                · as_aux_lemma =>
                  have e2 : (n : Int) + 32 = (D.size : Int) := by omega
                  obtain ⟨mt, mc, ms, mc', gt, gs, L⟩ := PS1.st
                  go_wp2_with fail
                  refine (K.merged_any L).mono ?_
                  rintro e wB ⟨rfl, q1, hq1⟩
                  have PS2 := PS1.draw hq1
                  have L2 := LevM_draw L hq1
                  clear hq1 L PS1
                  go_wp2_with fail
                  refine (spanHolds_any mt _ mc ms _ mc' (fun _ => min 1024 D.size) (fun _ => min 1024 D.size) D.size D.eT D.eP _ D.size _ _ D.size _ wB (L2.T.pcs (fun p hp => by omega)) (L2.S.pcs (fun p hp => by omega)) (PS2.et.frd (fun p h => by omega)) (PS2.ep.frd (fun p h => by omega)) hle2 hle2 (by omega) n D.size (by omega) (Nat.le_refl _) (fun p hp => OK.out.bE p (by omega))).mono ?_
                  rintro e wC ⟨rfl, q2, hq2⟩
                  have PS3 := PS2.draw hq2
                  clear hq2 L2 PS2
                  have fle := (D.front_le D.size hle2).1
                  have fad := D.front_add D.size
                  have hj : (D.size : Int) - ((D.front D.size).1 : Int) = ((D.front D.size).2 : Int) := by omega
                  have fmo := D.front_mono n D.size (by omega)
                  go_wp2_with fail
                  go_loop [20] (fun ai => ∃ x : Nat, x ≤ (D.front D.size).1 ∧ ai = .int .i64 x) (fun ai => (D.front D.size).1 - (intOf ai).toNat)
                  case atStart => exact ⟨(D.front n).1, fmo, rfl⟩
                  case round =>
                    clear fmo
                    obtain ⟨x, hx, rfl⟩ := hrel
                    by_cases hxn : x < D.na
                    · have hcell : wC.cell? ⟨N3, x, none⟩ = some (.int .i64 (D.pos x : Int)) := PS3.pa.cell x hxn
                      have hpl := OK.out.pos_lt (n := D.size) hxn
                      by_cases hp : D.pos x < D.size
                      · have hx2 := hpl.1 hp
                        clear hpl
                        go_wp2_with fail
                        go_round
                        case rel => exact ⟨x + 1, by omega, by go_num⟩
                        case measure => simp [intOf]; omega
                      · as_aux_lemma =>
                        have ex : x = (D.front D.size).1 := by have := hpl.2; omega
                        subst ex
                        clear hpl
                        obtain ⟨_, _, _, _, _, _, L3⟩ := PS3.st
                        go_wp2_with fail
                        refine (K.ij_any L3).mono ?_
                        rintro e wD ⟨rfl, q3, hq3⟩
                        have PS4 := PS3.draw hq3
                        clear hq3 L3 PS3
                        go_wp2_with fail
                        refine (K.zzstep_any OK.out RA.out RB.out PS4.k0 PS4.kp (Nat.le_refl _) PS4.st).mono ?_
                        rintro e wS ⟨rfl, stS, KS⟩
                        have hmin2 : min (D.size + 32) D.size = D.size := by omega
                        have hdt2 : decide (min (D.size + 32) D.size = D.size) = true := decide_eq_true hmin2
                        rw [hdt2]
                        rw [hmin2] at stS
                        have PS5 := PS4.step KS stS
                        clear PS4 KS stS hmin2 hdt2
                        obtain ⟨mt, mc, ms, mc', gt, gs, L⟩ := PS5.st
                        have ed : (D.front D.size).1 = D.na ∧ (D.front D.size).2 = D.nb := by
                          have e1 := D.front_le D.size (Nat.le_refl _)
                          have e2 := D.front_add D.size
                          have e3 := HSZ.out
                          omega
                        rw [ed.1, ed.2] at L
                        clear ed
                        go_wp2_with fail
                        refine (K.merged_any L).mono ?_
                        rintro e w11 ⟨rfl, q1, hq1⟩
                        have PS6 := PS5.draw hq1
                        replace L := LevM_draw L hq1
                        clear hq1 PS5
                        go_wp2_with fail
                        refine (runHolds_any mt _ mc ms _ mc' (fun _ => min 1024 D.size) (fun _ => min 1024 D.size) D.size D.eT D.eP _ D.size _ D.size w11 (L.T.pcs (fun p hp => by omega)) (L.S.pcs (fun p hp => by omega)) (PS6.et.frd (fun p h => h)) (PS6.ep.frd (fun p h => h)) (by omega) OK.out.bE).mono ?_
                        rintro e w12 ⟨rfl, q2, hq2⟩
                        have PS7 := PS6.draw hq2
                        replace L := LevM_draw L hq2
                        clear hq2 PS6
                        go_wp2_with fail
                        refine (K.ij_any L).mono ?_
                        rintro e w13 ⟨rfl, q3, hq3⟩
                        have PS8 := PS7.draw hq3
                        replace L := LevM_draw L hq3
                        clear hq3 PS7
                        go_wp2_with fail
                        refine same_calls (K.levRunCount_any L) ?_
                        go_wp2_with fail
                        refine (K.levRun0_any L).mono ?_
                        rintro e w14 ⟨rfl, q4, hq4⟩
                        have PS9 := PS8.draw hq4
                        replace L := LevM_draw L hq4
                        clear hq4 PS8
                        have B9 := PS9.below
                        have RA9 := hideE (RA.out.below B9)
                        have k1 := HK1.out.below B9
                        have k2 := HK2.out.below B9
                        go_wp2_with fail
                        refine (runHolds_any ta tl tc sa sl sc _ _ D.na D.tA D.pA a1' c1' a2' c2' w14 RA9.out.t RA9.out.s k1 k2 (by omega) BA.out).mono ?_
                        rintro e w15 ⟨rfl, q5, hq5⟩
                        have PS10 := PS9.draw hq5
                        replace L := LevM_draw L hq5
                        clear hq5 PS9 B9 RA9 k1 k2
                        go_wp2_with fail
                        refine (K.levRun1_any L).mono ?_
                        rintro e w16 ⟨rfl, q6, hq6⟩
                        have PS11 := PS10.draw hq6
                        clear hq6 PS10 L
                        have B11 := PS11.below
                        have RB11 := hideE (RB.out.below B11)
                        have k3 := HK3.out.below B11
                        have k4 := HK4.out.below B11
                        go_wp2_with fail
                        refine (runHolds_any tb tl' tc' sb sl' sc' _ _ D.nb D.tB D.pB a3' c3' a4' c4' w16 RB11.out.t RB11.out.s k3 k4 (by omega) BB.out).mono ?_
                        rintro e w17 ⟨rfl, q7, hq7⟩
                        have PS12 := PS11.draw hq7
                        clear hq7 PS11
                        go_wp2_with fail
                        go_ret
                        exact ⟨rfl, HB8.out.trans (PS12.below.mono HB8.out.size)⟩
                    · as_aux_lemma =>
                      have ex : x = (D.front D.size).1 := by omega
                      subst ex
                      obtain ⟨_, _, _, _, _, _, L3⟩ := PS3.st
                      go_wp2_with fail
                      refine (K.ij_any L3).mono ?_
                      rintro e wD ⟨rfl, q3, hq3⟩
                      have PS4 := PS3.draw hq3
                      clear hq3 L3 PS3
                      go_wp2_with fail
                      refine (K.zzstep_any OK.out RA.out RB.out PS4.k0 PS4.kp (Nat.le_refl _) PS4.st).mono ?_
                      rintro e wS ⟨rfl, stS, KS⟩
                      have hmin2 : min (D.size + 32) D.size = D.size := by omega
                      have hdt2 : decide (min (D.size + 32) D.size = D.size) = true := decide_eq_true hmin2
                      rw [hdt2]
                      rw [hmin2] at stS
                      have PS5 := PS4.step KS stS
                      clear PS4 KS stS hmin2 hdt2
                      obtain ⟨mt, mc, ms, mc', gt, gs, L⟩ := PS5.st
                      have ed : (D.front D.size).1 = D.na ∧ (D.front D.size).2 = D.nb := by
                        have e1 := D.front_le D.size (Nat.le_refl _)
                        have e2 := D.front_add D.size
                        have e3 := HSZ.out
                        omega
                      rw [ed.1, ed.2] at L
                      clear ed
                      go_wp2_with fail
                      refine (K.merged_any L).mono ?_
                      rintro e w11 ⟨rfl, q1, hq1⟩
                      have PS6 := PS5.draw hq1
                      replace L := LevM_draw L hq1
                      clear hq1 PS5
                      go_wp2_with fail
                      refine (runHolds_any mt _ mc ms _ mc' (fun _ => min 1024 D.size) (fun _ => min 1024 D.size) D.size D.eT D.eP _ D.size _ D.size w11 (L.T.pcs (fun p hp => by omega)) (L.S.pcs (fun p hp => by omega)) (PS6.et.frd (fun p h => h)) (PS6.ep.frd (fun p h => h)) (by omega) OK.out.bE).mono ?_
                      rintro e w12 ⟨rfl, q2, hq2⟩
                      have PS7 := PS6.draw hq2
                      replace L := LevM_draw L hq2
                      clear hq2 PS6
                      go_wp2_with fail
                      refine (K.ij_any L).mono ?_
                      rintro e w13 ⟨rfl, q3, hq3⟩
                      have PS8 := PS7.draw hq3
                      replace L := LevM_draw L hq3
                      clear hq3 PS7
                      go_wp2_with fail
                      refine same_calls (K.levRunCount_any L) ?_
                      go_wp2_with fail
                      refine (K.levRun0_any L).mono ?_
                      rintro e w14 ⟨rfl, q4, hq4⟩
                      have PS9 := PS8.draw hq4
                      replace L := LevM_draw L hq4
                      clear hq4 PS8
                      have B9 := PS9.below
                      have RA9 := hideE (RA.out.below B9)
                      have k1 := HK1.out.below B9
                      have k2 := HK2.out.below B9
                      go_wp2_with fail
                      refine (runHolds_any ta tl tc sa sl sc _ _ D.na D.tA D.pA a1' c1' a2' c2' w14 RA9.out.t RA9.out.s k1 k2 (by omega) BA.out).mono ?_
                      rintro e w15 ⟨rfl, q5, hq5⟩
                      have PS10 := PS9.draw hq5
                      replace L := LevM_draw L hq5
                      clear hq5 PS9 B9 RA9 k1 k2
                      go_wp2_with fail
                      refine (K.levRun1_any L).mono ?_
                      rintro e w16 ⟨rfl, q6, hq6⟩
                      have PS11 := PS10.draw hq6
                      clear hq6 PS10 L
                      have B11 := PS11.below
                      have RB11 := hideE (RB.out.below B11)
                      have k3 := HK3.out.below B11
                      have k4 := HK4.out.below B11
                      go_wp2_with fail
                      refine (runHolds_any tb tl' tc' sb sl' sc' _ _ D.nb D.tB D.pB a3' c3' a4' c4' w16 RB11.out.t RB11.out.s k3 k4 (by omega) BB.out).mono ?_
                      rintro e w17 ⟨rfl, q7, hq7⟩
                      have PS12 := PS11.draw hq7
                      clear hq7 PS11
                      go_wp2_with fail
                      go_ret
                      exact ⟨rfl, HB8.out.trans (PS12.below.mono HB8.out.size)⟩
              · have hmin : min (n + 32) D.size = n + 32 := by omega
                have hdt : decide (min (n + 32) D.size = D.size) = false := decide_eq_false (by omega)
                rw [hdt]
                rw [hmin] at PS1
                clear hdt hmin
                generalize hNe : n + 32 = N2 at *
                have e2 : (n : Int) + 32 = (N2 : Int) := by omega
                have hle2 : N2 ≤ D.size := by omega
                have hdf : ((N2 : Int) == (D.size : Int)) = false := by rw [beq_eq_false_iff_ne]; omega
                as_aux_lemma =>
                  obtain ⟨mt, mc, ms, mc', gt, gs, L⟩ := PS1.st
                  go_wp2_with fail
                  refine (K.merged_any L).mono ?_
                  rintro e wB ⟨rfl, q1, hq1⟩
                  have PS2 := PS1.draw hq1
                  have L2 := LevM_draw L hq1
                  clear hq1 L PS1
                  go_wp2_with fail
                  refine (spanHolds_any mt _ mc ms _ mc' (fun _ => min 1024 D.size) (fun _ => min 1024 D.size) N2 D.eT D.eP _ D.size _ _ D.size _ wB (L2.T.pcs (fun p hp => by omega)) (L2.S.pcs (fun p hp => by omega)) (PS2.et.frd (fun p h => by omega)) (PS2.ep.frd (fun p h => by omega)) hle2 hle2 (by omega) n N2 (by omega) (Nat.le_refl _) (fun p hp => OK.out.bE p (by omega))).mono ?_
                  rintro e wC ⟨rfl, q2, hq2⟩
                  have PS3 := PS2.draw hq2
                  clear hq2 L2 PS2
                  have fle := (D.front_le N2 hle2).1
                  have fad := D.front_add N2
                  have hj : (N2 : Int) - ((D.front N2).1 : Int) = ((D.front N2).2 : Int) := by omega
                  have fmo := D.front_mono n N2 (by omega)
                  go_wp2_with fail
                  go_loop [20] (fun ai => ∃ x : Nat, x ≤ (D.front N2).1 ∧ ai = .int .i64 x) (fun ai => (D.front N2).1 - (intOf ai).toNat)
                  case atStart => exact ⟨(D.front n).1, fmo, rfl⟩
                  case round =>
                    clear fmo
                    obtain ⟨x, hx, rfl⟩ := hrel
                    by_cases hxn : x < D.na
                    · have hcell : wC.cell? ⟨N3, x, none⟩ = some (.int .i64 (D.pos x : Int)) := PS3.pa.cell x hxn
                      have hpl := OK.out.pos_lt (n := N2) hxn
                      by_cases hp : D.pos x < N2
                      · have hx2 := hpl.1 hp
                        clear hpl
                        go_wp2_with fail
                        go_round
                        case rel => exact ⟨x + 1, by omega, by go_num⟩
                        case measure => simp [intOf]; omega
                      · as_aux_lemma =>
                        have ex : x = (D.front N2).1 := by have := hpl.2; omega
                        subst ex
                        clear hpl
                        obtain ⟨_, _, _, _, _, _, L3⟩ := PS3.st
                        go_wp2_with fail
                        refine (K.ij_any L3).mono ?_
                        rintro e wD ⟨rfl, q3, hq3⟩
                        have PS4 := PS3.draw hq3
                        clear hq3 L3 PS3
                        have PS5 := hideE PS4
                        clear PS4
                        have e3 : 32 * (C + 1) = N2 := by have := HN.out; omega
                        go_wp2_with fail
                        go_roundw
                        case rel => exact ⟨C + 1, .inr (by omega), by go_num, by rw [e3], by rw [e3], by rw [e3], by rw [e3]; exact PS5.out⟩
                        case measure => simp [intOf]; omega
                    · as_aux_lemma =>
                      have ex : x = (D.front N2).1 := by omega
                      subst ex
                      obtain ⟨_, _, _, _, _, _, L3⟩ := PS3.st
                      go_wp2_with fail
                      refine (K.ij_any L3).mono ?_
                      rintro e wD ⟨rfl, q3, hq3⟩
                      have PS4 := PS3.draw hq3
                      clear hq3 L3 PS3
                      have PS5 := hideE PS4
                      clear PS4
                      have e3 : 32 * (C + 1) = N2 := by have := HN.out; omega
                      go_wp2_with fail
                      go_roundw
                      case rel => exact ⟨C + 1, .inr (by omega), by go_num, by rw [e3], by rw [e3], by rw [e3], by rw [e3]; exact PS5.out⟩
                      case measure => simp [intOf]; omega

set_option maxRecDepth 20000 in
set_option maxHeartbeats 2000000 in
theorem paces_triv (a1 a2 a3 a4 : Option Addr) (n1 n2 n3 n4 c1 c2 c3 c4 : Nat) (w : World) (h : ¬ ((n1 ≤ 65536 ∧ n2 ≤ 65536 ∧ n3 ≤ 65536 ∧ n4 ≤ 65536) ∧ n1 = n2 ∧ n3 = n4)) :
    Calls Try.prog 4 #[.slice a1 n1 c1, .slice a2 n2 c2, .slice a3 n3 c3, .slice a4 n4 c4] w fun e w' => e = .returned (.bool true) ∧ Below w.heap.size w w' := by
  have HH := hideE h
  clear h
  go_enter Try.func4, Try.ntmps4
  go_wp2_with fail
  refine (bytes21_any a1 a2 a3 a4 n1 n2 n3 n4 c1 c2 c3 c4 w).mono ?_
  rintro e w' ⟨⟨b, rfl⟩, hw'⟩
  subst hw'
  cases b
  · go_wp2
    go_ret
    exact ⟨rfl, Below.refl _ _⟩
  · by_cases l1 : n1 ≤ 65536
    · by_cases l2 : n2 ≤ 65536
      · by_cases l3 : n3 ≤ 65536
        · by_cases l4 : n4 ≤ 65536
          · by_cases e1 : n1 = n2
            · have hd : ((n3 : Int) != (n4 : Int)) = true := by
                have : ¬ n3 = n4 := fun e2 => HH.out ⟨⟨l1, l2, l3, l4⟩, e1, e2⟩
                simp; omega
              have hd1 : ((n1 : Int) != (n2 : Int)) = false := by simp; omega
              clear e1
              go_wp2_with fail
              go_ret
              exact ⟨rfl, Below.refl _ _⟩
            · have hd1 : ((n1 : Int) != (n2 : Int)) = true := by simp; omega
              go_wp2_with fail
              go_ret
              exact ⟨rfl, Below.refl _ _⟩
          · go_wp2_with fail
            go_ret
            exact ⟨rfl, Below.refl _ _⟩
        · go_wp2_with fail
          go_ret
          exact ⟨rfl, Below.refl _ _⟩
      · go_wp2_with fail
        go_ret
        exact ⟨rfl, Below.refl _ _⟩
    · go_wp2_with fail
      go_ret
      exact ⟨rfl, Below.refl _ _⟩
end Go.Proofs.Qxb6601843a
