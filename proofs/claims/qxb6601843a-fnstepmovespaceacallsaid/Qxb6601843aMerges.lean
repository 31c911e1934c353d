import Derived.Test.Qxb6601843aRank
import Derived.Test.Qxb6601843aLay
import Derived.Test.Qxb6601843aLevel
namespace Go.Proofs.Qxb6601843a
open Go.RowKit
theorem mono_of_step (f : Nat → Int) (n : Nat) (h : ∀ q, q + 1 < n → f q ≤ f (q + 1)) : ∀ x y, x ≤ y → y < n → f x ≤ f y := by
  intro x y hxy
  induction y with
  | zero => intro _; have : x = 0 := by omega
            subst this; exact Int.le_refl _
  | succ y ih =>
    intro hy
    by_cases e : x = y + 1
    · subst e; exact Int.le_refl _
    · exact Int.le_trans (ih (by omega) (by omega)) (h y hy)
theorem below_draw {w w' : World} {m : Nat} (h : w' = w.drewN m) : Below w.heap.size w w' := by rw [h]; exact below_drewN (Below.refl _ _) _
def StepDone (K size : Nat) (b : Bool) : Prop := b = true ↔ 0 < K ∧ size ≤ 32 * K
theorem StepDone.zero (size : Nat) : StepDone 0 size false := ⟨(fun h => nomatch h), fun h => absurd h.1 (Nat.not_lt_zero _)⟩
theorem StepDone.next (K size : Nat) : StepDone (K + 1) size (decide (min (min (32 * K) size + 32) size = size)) := by
  unfold StepDone
  rw [decide_eq_true_iff]
  omega
theorem next_min (K size : Nat) : min (min (32 * K) size + 32) size = min (32 * (K + 1)) size := by omega
set_option maxRecDepth 100000 in
set_option maxHeartbeats 4000000 in
theorem merges_main (D : Two) (a1 a2 a3 a4 : Option Addr) (c1 c2 c3 c4 : Nat) (w : World) (h1 : FRd w a1 .i32 D.na D.tA) (h2 : FRd w a2 .i32 D.na D.pA) (h3 : FRd w a3 .i32 D.nb D.tB) (h4 : FRd w a4 .i32 D.nb D.pB)
    (n1 : a1 = none → D.na = 0 ∧ c1 = 0) (n2 : a2 = none → D.na = 0 ∧ c2 = 0) (n3 : a3 = none → D.nb = 0 ∧ c3 = 0) (n4 : a4 = none → D.nb = 0 ∧ c4 = 0)
    (la : D.na ≤ 65536) (lb : D.nb ≤ 65536) (bA : ∀ x, x < D.na → -2147483648 ≤ D.pA x ∧ D.pA x ≤ 2147483647) (bB : ∀ x, x < D.nb → -2147483648 ≤ D.pB x ∧ D.pB x ≤ 2147483647) :
    Calls Try.prog 3 #[.slice a1 D.na c1, .slice a2 D.na c2, .slice a3 D.nb c3, .slice a4 D.nb c4] w fun e w' => e = .returned (.bool true) ∧ Below w.heap.size w w' := by
  have BA : Hid (∀ x, x < D.na → -2147483648 ≤ D.pA x ∧ D.pA x ≤ 2147483647) := bA
  have BB : Hid (∀ x, x < D.nb → -2147483648 ≤ D.pB x ∧ D.pB x ≤ 2147483647) := bB
  clear bA bB
  have hsz : (D.na : Int) + (D.nb : Int) = (D.size : Int) := by unfold Two.size; omega
  have hs0 : D.size ≤ 131072 := by unfold Two.size; omega
  have HSZ : Hid (D.size = D.na + D.nb) := rfl
  have dd1 : decide ((65536 : Int) < (D.na : Int)) = false := decide_eq_false (by omega)
  have dd2 : decide ((65536 : Int) < (D.nb : Int)) = false := decide_eq_false (by omega)
  go_enter Try.func3, Try.ntmps3
  go_wp2_with fail
  refine (bytes9_any a1 a2 a3 a4 D.na D.na D.nb D.nb c1 c2 c3 c4 w).mono ?_
  rintro e w' ⟨⟨b, rfl⟩, hw'⟩
  subst hw'
  cases b
  · go_wp2
    go_ret
    exact ⟨rfl, Below.refl _ _⟩
  · go_wp2_with fail
    refine (sorted_any a1 D.na c1 D.tA _ h1 (by omega)).mono ?_
    rintro e w1 ⟨⟨b1, rfl, hs1⟩, m1, hw1⟩
    have B1 := below_draw hw1
    clear hw1
    replace h1 := h1.below B1
    replace h2 := h2.below B1
    replace h3 := h3.below B1
    replace h4 := h4.below B1
    cases b1
    · go_wp2_with fail
      go_ret
      exact ⟨rfl, B1⟩
    · go_wp2_with fail
      refine (sorted_any a3 D.nb c3 D.tB _ h3 (by omega)).mono ?_
      rintro e w2 ⟨⟨b2, rfl, hs2⟩, m2, hw2⟩
      have B2 := below_draw hw2
      clear hw2
      replace h1 := h1.below B2
      replace h2 := h2.below B2
      replace h3 := h3.below B2
      replace h4 := h4.below B2
      replace B2 := B1.trans (B2.mono B1.size)
      clear B1
      cases b2
      · go_wp2_with fail
        go_ret
        exact ⟨rfl, B2⟩
      · have OK : Hid D.Ok := ⟨mono_of_step _ _ (hs1 (by simp)), mono_of_step _ _ (hs2 (by simp)), la, lb, BA.out, BB.out⟩
        clear hs1 hs2
        go_wp2_with fail
        refine (clone32_any a1 D.na c1 D.tA n1 _ h1 (by omega)).mono ?_
        rintro e w3 ⟨a1', c1', rfl, k1, B3⟩
        replace h2 := h2.below B3
        replace h3 := h3.below B3
        replace h4 := h4.below B3
        replace B3 := B2.trans (B3.mono B2.size)
        clear h1 B2
        go_wp2_with fail
        refine (clone32_any a2 D.na c2 D.pA n2 _ h2 (by omega)).mono ?_
        rintro e w4 ⟨a2', c2', rfl, k2, B4⟩
        replace k1 := k1.below B4
        replace h3 := h3.below B4
        replace h4 := h4.below B4
        replace B4 := B3.trans (B4.mono B3.size)
        clear h2 B3
        go_wp2_with fail
        refine (clone32_any a3 D.nb c3 D.tB n3 _ h3 (by omega)).mono ?_
        rintro e w5 ⟨a3', c3', rfl, k3, B5⟩
        replace k1 := k1.below B5
        replace k2 := k2.below B5
        replace h4 := h4.below B5
        replace B5 := B4.trans (B5.mono B4.size)
        clear h3 B4
        go_wp2_with fail
        refine (clone32_any a4 D.nb c4 D.pB n4 _ h4 (by omega)).mono ?_
        rintro e w6 ⟨a4', c4', rfl, k4, B6⟩
        replace k1 := k1.below B6
        replace k2 := k2.below B6
        replace k3 := k3.below B6
        replace B6 := B5.trans (B6.mono B5.size)
        clear h4 B5
        go_wp2_with fail
        refine (pieces_any a1' a2' D.na c1' c2' D.tA D.pA _ k1 k2 la BA.out).mono ?_
        rintro e w7 ⟨ta, tl, tc, sa, sl, sc, rfl, P1, P2, B7⟩
        replace k1 := k1.below B7
        replace k2 := k2.below B7
        replace k3 := k3.below B7
        replace k4 := k4.below B7
        replace B7 := B6.trans (B7.mono B6.size)
        clear B6
        go_wp2_with fail
        refine (pieces_any a3' a4' D.nb c3' c4' D.tB D.pB _ k3 k4 lb BB.out).mono ?_
        rintro e w8 ⟨tb, tl', tc', sb, sl', sc', rfl, P3, P4, B8⟩
        replace k1 := k1.below B8
        replace k2 := k2.below B8
        replace k3 := k3.below B8
        replace k4 := k4.below B8
        have RA : Hid (RunOk w8 ⟨D.na, ta, tl, tc, sa, sl, sc⟩ D.na D.tA D.pA) := ⟨rfl, P1.below B8, P2.below B8⟩
        have RB : Hid (RunOk w8 ⟨D.nb, tb, tl', tc', sb, sl', sc'⟩ D.nb D.tB D.pB) := ⟨rfl, P3, P4⟩
        replace B8 := B7.trans (B8.mono B7.size)
        clear B7 P1 P2 P3 P4
        go_wp2_with fail
        refine (newLevel_any D.na D.nb ta tb sa sb tl tc sl sc tl' tc' sl' sc' w8 la lb (min 1024 D.size) D.eT (fun p => psum D.eP (p + 1))).mono ?_
        rintro e w9 ⟨lv, rfl, ⟨t, c, s, c', L⟩, B9⟩
        have st0 : StepSt w9 w8.heap.size lv w8.heap.size ⟨D.na, ta, tl, tc, sa, sl, sc⟩ ⟨D.nb, tb, tl', tc', sb, sl', sc'⟩ D 0 := ⟨t, c, s, c', [], [], L⟩
        clear L
        have HST0 := hideE st0
        clear st0
        go_wp2_with fail
        go_loopw [16, 17] (fun d k wr => ∃ (K : Nat) (b : Bool), k = .int .i64 K ∧ d = .bool b ∧ StepDone K D.size b ∧ StepSt wr w8.heap.size lv w8.heap.size ⟨D.na, ta, tl, tc, sa, sl, sc⟩ ⟨D.nb, tb, tl', tc', sb, sl', sc'⟩ D (min (32 * K) D.size) ∧ Below w8.heap.size w8 wr) (fun _ k _ => D.size / 32 + 3 - (intOf k).toNat)
        case atStart => exact ⟨0, false, rfl, rfl, StepDone.zero _, by rw [show min (32 * 0) D.size = 0 by omega]; exact HST0.out, B9⟩
        case round =>
          clear HST0 B9
          obtain ⟨K, b, rfl, rfl, hd, stK, BK⟩ := hrel
          cases b
          · have hK : ¬ (0 < K ∧ D.size ≤ 32 * K) := fun h => by have := hd.2 h; simp at this
            have hK1 : K < D.size / 32 + 2 := by omega
            have hK2 : ((K : Int) == (D.size : Int) / 32 + 2) = false := by simp; omega
            clear hd
            have HZ := hideE (zzstep_any OK.out RA.out RB.out BK (by omega) stK)
            clear stK
            go_wp2_with fail
            refine HZ.out.mono ?_
            rintro e wn ⟨rfl, stn, Bn⟩
            have HD := hideE (StepDone.next K D.size)
            generalize decide (min (min (32 * K) D.size + 32) D.size = D.size) = bb at *
            rw [next_min] at stn
            go_wp2
            go_roundw
            case rel => exact ⟨K + 1, bb, by go_num, rfl, HD.out, stn, BK.trans Bn⟩
            case measure => simp [intOf]; omega
          · have hK := hd.1 rfl
            rw [show min (32 * K) D.size = D.size by omega] at stK
            obtain ⟨mt, mc, ms, mc', gt, gs, L⟩ := stK
            have ed : (D.front D.size).1 = D.na ∧ (D.front D.size).2 = D.nb := by
              have e1 := D.front_le D.size (Nat.le_refl _)
              have e2 := D.front_add D.size
              have e3 := HSZ.out
              omega
            rw [ed.1, ed.2] at L
            clear ed hd hK
            replace k1 := k1.below BK
            replace k2 := k2.below BK
            replace k3 := k3.below BK
            replace k4 := k4.below BK
            have RA1 := hideE (RA.out.below BK)
            have RB1 := hideE (RB.out.below BK)
            have BW := B8.trans (BK.mono B8.size)
            clear BK B8
            go_wp2_with fail
            refine (rank_any D OK.out a1' a2' a3' a4' c1' c2' c3' c4' _ k1 k2 k3 k4).mono ?_
            rintro e wA ⟨rfl, R1, R2, BA'⟩
            replace L := L.below BA'
            replace k1 := k1.below BA'
            replace k2 := k2.below BA'
            replace k3 := k3.below BA'
            replace k4 := k4.below BA'
            have RA2 := hideE (RA1.out.below BA')
            have RB2 := hideE (RB1.out.below BA')
            replace BW := BW.trans (BA'.mono BW.size)
            clear BA' RA1 RB1
            go_wp2_with fail
            refine (merged_any L).mono ?_
            rintro e wB ⟨rfl, q1, hq1⟩
            have B1 := below_draw hq1
            clear hq1
            replace L := L.below B1
            replace k1 := k1.below B1
            replace k2 := k2.below B1
            replace k3 := k3.below B1
            replace k4 := k4.below B1
            replace R1 := R1.below B1 R1.lt
            replace R2 := R2.below B1 R2.lt
            have RA3 := hideE (RA2.out.below B1)
            have RB3 := hideE (RB2.out.below B1)
            replace BW := BW.trans (B1.mono BW.size)
            clear B1 RA2 RB2
            go_wp2_with fail
            refine (runHolds_any mt _ mc ms _ mc' (fun _ => min 1024 D.size) (fun _ => min 1024 D.size) D.size D.eT D.eP _ D.size _ D.size wB (L.T.pcs (fun p hp => by omega)) (L.S.pcs (fun p hp => by omega)) (R1.frd (fun p h => h)) (R2.frd (fun p h => h)) (by omega) OK.out.bE).mono ?_
            rintro e wC ⟨rfl, q2, hq2⟩
            have B2 := below_draw hq2
            clear hq2 R1 R2
            replace L := L.below B2
            replace k1 := k1.below B2
            replace k2 := k2.below B2
            replace k3 := k3.below B2
            replace k4 := k4.below B2
            have RA4 := hideE (RA3.out.below B2)
            have RB4 := hideE (RB3.out.below B2)
            replace BW := BW.trans (B2.mono BW.size)
            clear B2 RA3 RB3
            go_wp2_with fail
            refine (ij_any L).mono ?_
            rintro e wD ⟨rfl, q3, hq3⟩
            have B3 := below_draw hq3
            clear hq3
            replace L := L.below B3
            replace k1 := k1.below B3
            replace k2 := k2.below B3
            replace k3 := k3.below B3
            replace k4 := k4.below B3
            have RA5 := hideE (RA4.out.below B3)
            have RB5 := hideE (RB4.out.below B3)
            replace BW := BW.trans (B3.mono BW.size)
            clear B3 RA4 RB4
            go_wp2_with fail
            refine same_calls (levRunCount_any L) ?_
            go_wp2_with fail
            refine (levRun0_any L).mono ?_
            rintro e wE ⟨rfl, q4, hq4⟩
            have B4 := below_draw hq4
            clear hq4
            replace L := L.below B4
            replace k1 := k1.below B4
            replace k2 := k2.below B4
            replace k3 := k3.below B4
            replace k4 := k4.below B4
            have RA6 := hideE (RA5.out.below B4)
            have RB6 := hideE (RB5.out.below B4)
            replace BW := BW.trans (B4.mono BW.size)
            clear B4 RA5 RB5
            go_wp2_with fail
            refine (runHolds_any ta tl tc sa sl sc _ _ D.na D.tA D.pA a1' c1' a2' c2' wE RA6.out.t RA6.out.s k1 k2 (by omega) BA.out).mono ?_
            rintro e wF ⟨rfl, q5, hq5⟩
            have B5 := below_draw hq5
            clear hq5
            replace L := L.below B5
            replace k1 := k1.below B5
            replace k2 := k2.below B5
            replace k3 := k3.below B5
            replace k4 := k4.below B5
            have RA7 := hideE (RA6.out.below B5)
            have RB7 := hideE (RB6.out.below B5)
            replace BW := BW.trans (B5.mono BW.size)
            clear B5 RA6 RB6
            go_wp2_with fail
            refine (levRun1_any L).mono ?_
            rintro e wG ⟨rfl, q6, hq6⟩
            have B6 := below_draw hq6
            clear hq6
            replace L := L.below B6
            replace k1 := k1.below B6
            replace k2 := k2.below B6
            replace k3 := k3.below B6
            replace k4 := k4.below B6
            have RA8 := hideE (RA7.out.below B6)
            have RB8 := hideE (RB7.out.below B6)
            replace BW := BW.trans (B6.mono BW.size)
            clear B6 RA7 RB7
            go_wp2_with fail
            refine (runHolds_any tb tl' tc' sb sl' sc' _ _ D.nb D.tB D.pB a3' c3' a4' c4' wG RB8.out.t RB8.out.s k3 k4 (by omega) BB.out).mono ?_
            rintro e wH ⟨rfl, q7, hq7⟩
            have B7 := below_draw hq7
            clear hq7
            go_wp2_with fail
            go_ret
            exact ⟨rfl, BW.trans (B7.mono BW.size)⟩
set_option maxRecDepth 20000 in
set_option maxHeartbeats 2000000 in
theorem merges_triv (a1 a2 a3 a4 : Option Addr) (n1 n2 n3 n4 c1 c2 c3 c4 : Nat) (w : World) (h : ¬ ((n1 ≤ 65536 ∧ n2 ≤ 65536 ∧ n3 ≤ 65536 ∧ n4 ≤ 65536) ∧ n1 = n2 ∧ n3 = n4)) :
    Calls Try.prog 3 #[.slice a1 n1 c1, .slice a2 n2 c2, .slice a3 n3 c3, .slice a4 n4 c4] w fun e w' => e = .returned (.bool true) ∧ Below w.heap.size w w' := by
  have HH := hideE h
  clear h
  go_enter Try.func3, Try.ntmps3
  go_wp2_with fail
  refine (bytes9_any a1 a2 a3 a4 n1 n2 n3 n4 c1 c2 c3 c4 w).mono ?_
  rintro e w' ⟨⟨b, rfl⟩, hw'⟩
  subst hw'
  cases b
  · go_wp2
    go_ret
    exact ⟨rfl, Below.refl _ _⟩
  · by_cases l1 : n1 ≤ 65536
    · by_cases l2 : n2 ≤ 65536
      · by_cases l3 : n3 ≤ 65536
        · by_cases l4 : n4 ≤ 65536
          · by_cases e1 : n1 = n2
            · have hd : ((n3 : Int) != (n4 : Int)) = true := by
                have : ¬ n3 = n4 := fun e2 => HH.out ⟨⟨l1, l2, l3, l4⟩, e1, e2⟩
                simp; omega
              have hd1 : ((n1 : Int) != (n2 : Int)) = false := by simp; omega
              clear e1
              go_wp2_with fail
              go_ret
              exact ⟨rfl, Below.refl _ _⟩
            · have hd1 : ((n1 : Int) != (n2 : Int)) = true := by simp; omega
              go_wp2_with fail
              go_ret
              exact ⟨rfl, Below.refl _ _⟩
          · go_wp2_with fail
            go_ret
            exact ⟨rfl, Below.refl _ _⟩
        · go_wp2_with fail
          go_ret
          exact ⟨rfl, Below.refl _ _⟩
      · go_wp2_with fail
        go_ret
        exact ⟨rfl, Below.refl _ _⟩
    · go_wp2_with fail
      go_ret
      exact ⟨rfl, Below.refl _ _⟩
end Go.Proofs.Qxb6601843a
