import Derived.Test.Qxb6601843aDrains
namespace Go.Proofs.Qxb6601843a
open Go.RowKit
theorem rd_take {w : World} {a : Option Addr} {zs : List Int} (h : Rd w a (zs.map (Value.int .i64))) (j : Nat) : Rd w a ((zs.take j).map (Value.int .i64)) := by
  intro i v hv
  refine h i v ?_
  rw [List.map_take] at hv
  have hi : i < j := by
    have := (List.getElem?_eq_some_iff.1 hv).1
    simp at this; omega
  rw [List.getElem?_take_of_lt hi] at hv
  exact hv
theorem sp_one (rows : List RowI) (k q : Nat) : (if q = k then (rowAt rows k).zs.take ((rowAt rows k).zs.length - 1) else (rowAt rows q).zs) = (sp rows k (0 + 1) q).map RunV.n := by
  unfold sp
  by_cases e : q = k
  · rw [if_pos e, if_pos e, List.map_take, tags_n]
  · rw [if_neg e, if_neg e, tags_n]
set_option maxRecDepth 100000 in
set_option maxHeartbeats 4000000 in
theorem takeWhole_main (a : Option Addr) (n c : Nat) (rows : List RowI) (hx : rows.length = n) (hnil : a = none → n = 0 ∧ c = 0) (k : Int) (w : World) (hr : RRd w a rows) (hn : n ≤ 32768) :
    Calls Try.prog 5 #[.slice a n c, .int .i64 k] w fun e w' => e = .returned (.bool true) ∧ Below w.heap.size w w' := by
  have HX : Hid (rows.length = n) := hx
  clear hx
  go_enter Try.func5, Try.ntmps5
  go_wp2_with (go_at_call 24; refine (bytesOk24 a n c rows HX.out k _ hr).mono ?_; rintro e w' ⟨⟨b, rfl, hbt⟩, hw⟩; have hw' := hw.symm; clear hw; subst hw'; cases b)
  · go_ret
    exact ⟨rfl, Below.refl _ _⟩
  · have HBT : Hid (∀ r ∈ rows, r.zs.length ≤ 1048576) := hbt (by simp)
    clear hbt
    go_loop [5, 6] (fun t i => ∃ (j : Nat) (s : Int), j ≤ n ∧ i = .int .i64 j ∧ 0 ≤ s ∧ s ≤ 131072 ∧ t = .int .i64 s ∧ Mid rows j) (fun _ i => n - (intOf i).toNat)
    case atStart => exact ⟨0, 3 * n, Nat.zero_le _, rfl, by omega, by omega, rfl, fun p _ hp => absurd hp (Nat.not_lt_zero _)⟩
    case round =>
      obtain ⟨j, s, hj, rfl, hs0, hs1, rfl, hmid⟩ := hrel
      by_cases hlt : j < n
      · have hlt' : j < rows.length := by rw [HX.out]; exact hlt
        obtain ⟨b, off, ea, hbw, hc⟩ := hr.at hlt'
        subst ea
        have hcell := hc j hlt'
        have HSH : Hid (rows[j].zs.length ≤ 131072 → Mid rows (j + 1)) := fun h p hp hpj => by
          by_cases e : p = j
          · subst e; exact h
          · exact hmid p hp (by omega)
        have hle := HBT.out _ (List.getElem_mem hlt')
        clear hc
        generalize rows[j] = r at hcell HSH hle
        go_wp2
        · go_ret; exact ⟨rfl, Below.refl _ _⟩
        · go_round
          case rel => exact ⟨j + 1, _, by omega, by go_num, by omega, by omega, rfl, HSH.out (by omega)⟩
          case measure => simp [intOf]; omega
      · have HM : Hid (∀ r ∈ rows, r.zs.length ≤ 131072) := fun r hr' => by
          obtain ⟨p, hp, rfl⟩ := List.getElem_of_mem hr'
          exact hmid p hp (by have := HX.out; omega)
        clear hmid
        by_cases hk : 0 ≤ k ∧ k ≤ 20 ∧ k ≤ n
        · obtain ⟨kn, rfl⟩ := Int.eq_ofNat_of_zero_le hk.1
          obtain ⟨_, hk20, hkn⟩ := hk
          by_cases hkeq : kn = n
          · have hd : ((kn : Int) == (n : Int)) = true := by simp; omega
            have HKN : Hid (kn = n) := hkeq
            clear hkeq
            go_wp2_with (first
              | (go_at_call 25; refine (cloneRows_any a n c rows HX.out hnil _ hr (by omega) (fun r h => by have := HM.out r h; omega)).mono ?_; rintro e w1 ⟨a1, c1, rows1, rfl, hz1, hr1, hb1⟩; have HL1 : Hid (rows1.length = n) := (zs_len hz1).trans HX.out; have HM1 := zs_all hz1 HM.out; clear hz1)
              | (go_at_call 26; refine (newHist_all none a1 0 0 n c1 [] rows1 rfl HL1.out (by omega) (by omega) n (by omega) 0 _ ⟨Rd.nil _ _, (fun r h => by simp at h)⟩ hr1 (fun r h => by simp at h) HM1).mono ?_; rintro e w2 ⟨rfl, la, lc, ls, H, hbl, hsh2⟩; generalize hB : w1.heap.size = B at *; have HB : Hid (w1.heap.size = B) := hB; clear hB)
              | fail)
            have hsh : ShapeL ls (if 0 = 0 then n else (n + 1)) (fun _ => []) (sp rows1 kn 0) := by
              rw [if_pos rfl]; exact hsh2.congr (fun q _ => by simp [rowAt, rowNil, tags]) (fun q _ => sp_zero rows1 kn q)
            have hown := hr1.rowAt kn
            have hom := rowAt_len HM1 kn
            have ZR : Hid (∀ w' : World, Below B w1 w' → Calls Try.prog 30 #[.slice a1 n c1, .int .i64 kn] w' fun e w'' => e = .returned (.slice (rowAt rows1 kn).a (rowAt rows1 kn).zs.length (rowAt rows1 kn).c) ∧ w'' = w') := fun w' hb => zzRow_any a1 n c1 rows1 HL1.out _ (hr1.below (by rw [HB.out]; exact hb)) _ kn rfl
            obtain ⟨hkl, hshn, htr⟩ := drain_step HL1.out (by omega) (by rw [HKN.out, if_pos rfl]) hsh
            have HROW : Hid (∀ q, (if q = kn then (rowAt rows1 kn).zs.take ((rowAt rows1 kn).zs.length - 1) else (rowAt rows1 q).zs) = (sp rows1 kn (0 + 1) q).map RunV.n) := fun q => sp_one rows1 kn q
            generalize hro : rowAt rows1 kn = own at hown hom htr ZR HROW
            have HRO : Hid (rowAt rows1 kn = own) := hro
            clear hro hsh2 hsh
            obtain ⟨oa, oc, ozs⟩ := own
            simp only [] at ZR htr hom HROW
            have HTR : Hid (∀ r, takeR ls kn r → (0 < ozs.length → r = tagRun (ozs.getD (ozs.length - 1 - 0) 0)) ∧ (¬ 0 < ozs.length → freshRun r (pieces kn))) := htr
            generalize hmm : ozs.length = m at hom ZR
            have HMM : Hid (ozs.length = m) := hmm
            have HSH : Hid (ShapeL (takeL ls kn) (n + 1) (fun _ => []) (sp rows1 kn (0 + 1))) := hshn
            have HNL : Hid ((takeL ls kn).length = (n + 1)) := hshn.len
            clear hmm htr hshn
            by_cases hm0 : m = 0
            · have HF0 : Hid (∀ r, takeR ls kn r → freshRun r (pieces kn)) := fun r hr => (HTR.out r hr).2 (by rw [HMM.out]; omega)
              subst hm0
              go_wp2_with (first
                | (go_at_call 27; refine (zztake_any _ B B la lc ls 0 H _ kn rfl hkl (by omega)).mono ?_; rintro e w3 ⟨r, la3, lc3, rfl, H3, F3, R3⟩; have HF : Hid (freshRun r (pieces kn)) := HF0.out r R3; have b3 : Below B w1 w3 := hbl.trans (F3.below H); have H4 := H3.below ((Below.refl _ _).alloc (Nat.le_refl _) (.cells #[.int .i64 r.n, .slice r.ta r.tl r.tc, .slice r.sa r.sl r.sc] 53)))
                | (go_at_call 28; have T := levelCount_any H4; rw [HNL.out] at T; refine same_calls T ?_)
                | (go_at_call 29; refine (runShape_any r _).mono ?_; rintro e w5 ⟨rfl, hb5⟩; obtain ⟨f1, f2, f3, f4, f5⟩ := HF.out; have H5 := H4.below hb5; have b5 : Below B w1 w5 := (b3.alloc H3.base_le _).trans (hb5.mono (by have := H3.base_le; simp; omega)))
                | (go_at_call 30; refine same_calls (ZR.out _ b5) ?_)
                | (go_at_call 31; refine same_calls (freshPieces_any _ kn rfl (by omega) _) ?_))
              clear H H3 H4 F3 b3 hb5
              go_loopw [17] (fun i wr => ∃ q : Nat, q ≤ (n + 1) ∧ i = .int .i64 q ∧ Hist wr B B la3 lc3 (takeL ls kn) 0 ∧ Below B w1 wr) (fun i _ => (n + 1) - (intOf i).toNat)
              case atStart => exact ⟨0, Nat.zero_le _, rfl, H5, b5⟩
              case round =>
                clear H5 b5 hbl
                obtain ⟨q, hq, rfl, H, hbl⟩ := hrel
                by_cases hqlt : q < (n + 1)
                · have hql : q < (takeL ls kn).length := by rw [HNL.out]; exact hqlt
                  have hlq : (takeL ls kn)[q]? = some (takeL ls kn)[q] := List.getElem?_eq_getElem hql
                  obtain ⟨hrq, hsq, hmq⟩ := HSH.out.lv q _ hlq
                  generalize (takeL ls kn)[q] = lq at hlq hrq hsq hmq
                  have HLQ : Hid ((takeL ls kn)[q]? = some lq) := hlq
                  have HMQ : Hid (lq.m = run0) := hmq
                  have hrl : ((lq.runs.length : Nat) : Int) = 0 := by rw [hrq]; rfl
                  have hzq := HROW.out q
                  rw [← hsq] at hzq
                  have hsl : lq.spare.length ≤ 131072 := by
                    have := congrArg List.length hzq
                    rw [List.length_map] at this
                    rw [← this]
                    split
                    · rw [List.length_take]; have := HMM.out; omega
                    · exact rowAt_len HM1 q
                  have hrr : RRd wr a1 rows1 := hr1.below (by rw [HB.out]; exact hbl)
                  have T := spareTags_any H _ q rfl lq hlq (by omega)
                  rw [← List.length_map (f := RunV.n), ← hzq] at T
                  clear hlq hrq hsq hmq hql
                  by_cases hqk : q = kn
                  · rw [if_pos hqk, List.length_take, HMM.out] at T
                    have e1 : min (0 - 1) 0 = 0 - 1 := by omega
                    rw [e1] at T
                    have HT : Hid (Calls Try.prog 33 #[.pointer (some ⟨B, 0, none⟩), .int .i64 q] wr fun e w' => ∃ a' c', e = .returned (.slice a' (0 - 1) c') ∧ Rd w' a' ((ozs.take (0 - 1)).map (Value.int .i64)) ∧ Below wr.heap.size wr w') := T
                    have hd2 : ((q : Int) == (kn : Int)) = true := by simp; omega
                    have ZQ : Calls Try.prog 30 #[.slice a1 n c1, .int .i64 q] wr fun e w'' => e = .returned (.slice oa 0 oc) ∧ w'' = wr := by rw [hqk]; exact ZR.out wr hbl
                    have HZQ : Hid (Calls Try.prog 30 #[.slice a1 n c1, .int .i64 q] wr fun e w'' => e = .returned (.slice oa 0 oc) ∧ w'' = wr) := ZQ
                    have hro : RRow wr ⟨oa, oc, ozs⟩ := by rw [← HRO.out]; exact hrr.rowAt kn
                    have hoc : 0 ≤ oc := by have := hro.2.2; simp only [] at this; rw [HMM.out] at this; exact this
                    have HRD : Hid (∀ w', Below wr.heap.size wr w' → Rd w' oa ((ozs.take (0 - 1)).map (Value.int .i64))) := fun w' hb => (rd_take hro.1 (0 - 1)).below' hb
                    clear T ZQ hqk hzq e1 hrr hro
                    go_wp2_with (first
                      | (go_at_call 30; refine same_calls HZQ.out ?_)
                      | (go_at_call 33; refine HT.out.mono ?_; rintro e w3 ⟨a3, c3, rfl, hr3, hb3⟩; have hrd3 := HRD.out w3 hb3; have H3 := H.below hb3)
                      | (go_at_call 32; refine (intsEqual_any a3 _ _ c3 _ (ozs.take (0 - 1)) (by simp) (by omega) _ hr3 hrd3).mono ?_; rintro e w5 ⟨rfl, hb5⟩; have H5 := H3.below hb5)
                      | (go_at_call 34; refine same_calls (runCount_any H5 _ q rfl lq HLQ.out) ?_)
                      | (go_at_call 35; have T := mergedShape_any H5 _ q rfl lq HLQ.out; rw [HMQ.out] at T; refine T.mono ?_; rintro e w7 ⟨rfl, hb7⟩; simp only [run0]))
                    go_roundw
                    case rel => exact ⟨q + 1, by omega, by go_num, H5.below hb7, ((hbl.trans (hb3.mono H.base_le)).trans (hb5.mono H3.base_le)).trans (hb7.mono H5.base_le)⟩
                    case measure => simp [intOf]; omega

                  · rw [if_neg hqk] at T
                    have HT : Hid (Calls Try.prog 33 #[.pointer (some ⟨B, 0, none⟩), .int .i64 q] wr fun e w' => ∃ a' c', e = .returned (.slice a' (rowAt rows1 q).zs.length c') ∧ Rd w' a' ((rowAt rows1 q).zs.map (Value.int .i64)) ∧ Below wr.heap.size wr w') := T
                    have hd2 : ((q : Int) == (kn : Int)) = false := by simp; omega
                    have hlen2 := rowAt_len HM1 q
                    clear T hqk hzq
                    go_wp2_with (first
                      | (go_at_call 30; refine same_calls (zzRow_any a1 n c1 rows1 HL1.out _ hrr _ q rfl) ?_)
                      | (go_at_call 33; refine HT.out.mono ?_; rintro e w3 ⟨a3, c3, rfl, hr3, hb3⟩; have hrr3 := hrr.below hb3; have H3 := H.below hb3)
                      | (go_at_call 32; refine (intsEqual_any a3 _ _ c3 _ (rowAt rows1 q).zs rfl (by omega) _ hr3 (hrr3.rowAt q).1).mono ?_; rintro e w5 ⟨rfl, hb5⟩; have H5 := H3.below hb5)
                      | (go_at_call 34; refine same_calls (runCount_any H5 _ q rfl lq HLQ.out) ?_)
                      | (go_at_call 35; have T := mergedShape_any H5 _ q rfl lq HLQ.out; rw [HMQ.out] at T; refine T.mono ?_; rintro e w7 ⟨rfl, hb7⟩; simp only [run0]))
                    go_roundw
                    case rel => exact ⟨q + 1, by omega, by go_num, H5.below hb7, ((hbl.trans (hb3.mono H.base_le)).trans (hb5.mono H3.base_le)).trans (hb7.mono H5.base_le)⟩
                    case measure => simp [intOf]; omega
                · go_wp2
                  go_ret
                  exact ⟨rfl, hb1.trans (hbl.mono (by rw [← HB.out]; exact hb1.size))⟩
            · have HF0 : Hid (∀ r, takeR ls kn r → r = tagRun (ozs.getD (ozs.length - 1 - 0) 0)) := fun r hr => (HTR.out r hr).1 (by rw [HMM.out]; omega)
              have hmb : ((m : Int) == 0) = false := by simp; omega
              obtain ⟨b', off', ea', hbB, d0'⟩ := own_cell HB.out hown (j := ozs.length - 1) (by show ozs.length - 1 < ozs.length; rw [HMM.out]; omega)
              simp only [] at ea'
              subst ea'
              have HDZ : Hid (∀ w' : World, Below B w1 w' → w'.cell? ⟨b', off' + (m - 1), none⟩ = some (.int .i64 (ozs.getD (ozs.length - 1) 0))) := by
                show ∀ w' : World, Below B w1 w' → _
                rw [← HMM.out]; exact d0'
              simp only [Nat.sub_zero] at HF0
              generalize ozs.getD (ozs.length - 1) 0 = z at HDZ HF0
              clear d0'
              go_wp2_with (first
                | (go_at_call 27; refine (zztake_any _ B B la lc ls 0 H _ kn rfl hkl (by omega)).mono ?_; rintro e w3 ⟨r, la3, lc3, rfl, H3, F3, R3⟩; obtain rfl := HF0.out r R3; have b3 : Below B w1 w3 := hbl.trans (F3.below H); simp only [tagRun]; have H4 := H3.below ((Below.refl _ _).alloc (Nat.le_refl _) (.cells #[.int .i64 z, .slice none 0 0, .slice none 0 0] 53)))
                | (go_at_call 28; have T := levelCount_any H4; rw [HNL.out] at T; refine same_calls T ?_)
                | (go_at_call 29; refine (runShape_any ⟨z, none, 0, 0, none, 0, 0⟩ _).mono ?_; rintro e w5 ⟨rfl, hb5⟩; have H5 := H4.below hb5; have b5 : Below B w1 w5 := (b3.alloc H3.base_le _).trans (hb5.mono (by have := H3.base_le; simp; omega)); have d5 := HDZ.out w5 b5)
                | (go_at_call 30; refine same_calls (ZR.out _ b5) ?_))
              clear H H3 H4 F3 b3 hb5
              go_loopw [17] (fun i wr => ∃ q : Nat, q ≤ (n + 1) ∧ i = .int .i64 q ∧ Hist wr B B la3 lc3 (takeL ls kn) 0 ∧ Below B w1 wr) (fun i _ => (n + 1) - (intOf i).toNat)
              case atStart => exact ⟨0, Nat.zero_le _, rfl, H5, b5⟩
              case round =>
                clear H5 b5 hbl
                obtain ⟨q, hq, rfl, H, hbl⟩ := hrel
                by_cases hqlt : q < (n + 1)
                · have hql : q < (takeL ls kn).length := by rw [HNL.out]; exact hqlt
                  have hlq : (takeL ls kn)[q]? = some (takeL ls kn)[q] := List.getElem?_eq_getElem hql
                  obtain ⟨hrq, hsq, hmq⟩ := HSH.out.lv q _ hlq
                  generalize (takeL ls kn)[q] = lq at hlq hrq hsq hmq
                  have HLQ : Hid ((takeL ls kn)[q]? = some lq) := hlq
                  have HMQ : Hid (lq.m = run0) := hmq
                  have hrl : ((lq.runs.length : Nat) : Int) = 0 := by rw [hrq]; rfl
                  have hzq := HROW.out q
                  rw [← hsq] at hzq
                  have hsl : lq.spare.length ≤ 131072 := by
                    have := congrArg List.length hzq
                    rw [List.length_map] at this
                    rw [← this]
                    split
                    · rw [List.length_take]; have := HMM.out; omega
                    · exact rowAt_len HM1 q
                  have hrr : RRd wr a1 rows1 := hr1.below (by rw [HB.out]; exact hbl)
                  have T := spareTags_any H _ q rfl lq hlq (by omega)
                  rw [← List.length_map (f := RunV.n), ← hzq] at T
                  clear hlq hrq hsq hmq hql
                  by_cases hqk : q = kn
                  · rw [if_pos hqk, List.length_take, HMM.out] at T
                    have e1 : min (m - 1) m = m - 1 := by omega
                    rw [e1] at T
                    have HT : Hid (Calls Try.prog 33 #[.pointer (some ⟨B, 0, none⟩), .int .i64 q] wr fun e w' => ∃ a' c', e = .returned (.slice a' (m - 1) c') ∧ Rd w' a' ((ozs.take (m - 1)).map (Value.int .i64)) ∧ Below wr.heap.size wr w') := T
                    have hd2 : ((q : Int) == (kn : Int)) = true := by simp; omega
                    have ZQ : Calls Try.prog 30 #[.slice a1 n c1, .int .i64 q] wr fun e w'' => e = .returned (.slice (some ⟨b', off', none⟩) m oc) ∧ w'' = wr := by rw [hqk]; exact ZR.out wr hbl
                    have HZQ : Hid (Calls Try.prog 30 #[.slice a1 n c1, .int .i64 q] wr fun e w'' => e = .returned (.slice (some ⟨b', off', none⟩) m oc) ∧ w'' = wr) := ZQ
                    have hro : RRow wr ⟨(some ⟨b', off', none⟩), oc, ozs⟩ := by rw [← HRO.out]; exact hrr.rowAt kn
                    have hoc : m ≤ oc := by have := hro.2.2; simp only [] at this; rw [HMM.out] at this; exact this
                    have HRD : Hid (∀ w', Below wr.heap.size wr w' → Rd w' (some ⟨b', off', none⟩) ((ozs.take (m - 1)).map (Value.int .i64))) := fun w' hb => (rd_take hro.1 (m - 1)).below' hb
                    clear T ZQ hqk hzq e1 hrr hro
                    go_wp2_with (first
                      | (go_at_call 30; refine same_calls HZQ.out ?_)
                      | (go_at_call 33; refine HT.out.mono ?_; rintro e w3 ⟨a3, c3, rfl, hr3, hb3⟩; have hrd3 := HRD.out w3 hb3; have H3 := H.below hb3)
                      | (go_at_call 32; refine (intsEqual_any a3 _ _ c3 _ (ozs.take (m - 1)) (by rw [List.length_take, HMM.out]; omega) (by omega) _ hr3 hrd3).mono ?_; rintro e w5 ⟨rfl, hb5⟩; have H5 := H3.below hb5)
                      | (go_at_call 34; refine same_calls (runCount_any H5 _ q rfl lq HLQ.out) ?_)
                      | (go_at_call 35; have T := mergedShape_any H5 _ q rfl lq HLQ.out; rw [HMQ.out] at T; refine T.mono ?_; rintro e w7 ⟨rfl, hb7⟩; simp only [run0]))
                    go_roundw
                    case rel => exact ⟨q + 1, by omega, by go_num, H5.below hb7, ((hbl.trans (hb3.mono H.base_le)).trans (hb5.mono H3.base_le)).trans (hb7.mono H5.base_le)⟩
                    case measure => simp [intOf]; omega

                  · rw [if_neg hqk] at T
                    have HT : Hid (Calls Try.prog 33 #[.pointer (some ⟨B, 0, none⟩), .int .i64 q] wr fun e w' => ∃ a' c', e = .returned (.slice a' (rowAt rows1 q).zs.length c') ∧ Rd w' a' ((rowAt rows1 q).zs.map (Value.int .i64)) ∧ Below wr.heap.size wr w') := T
                    have hd2 : ((q : Int) == (kn : Int)) = false := by simp; omega
                    have hlen2 := rowAt_len HM1 q
                    clear T hqk hzq
                    go_wp2_with (first
                      | (go_at_call 30; refine same_calls (zzRow_any a1 n c1 rows1 HL1.out _ hrr _ q rfl) ?_)
                      | (go_at_call 33; refine HT.out.mono ?_; rintro e w3 ⟨a3, c3, rfl, hr3, hb3⟩; have hrr3 := hrr.below hb3; have H3 := H.below hb3)
                      | (go_at_call 32; refine (intsEqual_any a3 _ _ c3 _ (rowAt rows1 q).zs rfl (by omega) _ hr3 (hrr3.rowAt q).1).mono ?_; rintro e w5 ⟨rfl, hb5⟩; have H5 := H3.below hb5)
                      | (go_at_call 34; refine same_calls (runCount_any H5 _ q rfl lq HLQ.out) ?_)
                      | (go_at_call 35; have T := mergedShape_any H5 _ q rfl lq HLQ.out; rw [HMQ.out] at T; refine T.mono ?_; rintro e w7 ⟨rfl, hb7⟩; simp only [run0]))
                    go_roundw
                    case rel => exact ⟨q + 1, by omega, by go_num, H5.below hb7, ((hbl.trans (hb3.mono H.base_le)).trans (hb5.mono H3.base_le)).trans (hb7.mono H5.base_le)⟩
                    case measure => simp [intOf]; omega
                · go_wp2
                  go_ret
                  exact ⟨rfl, hb1.trans (hbl.mono (by rw [← HB.out]; exact hb1.size))⟩
          · have hd : ((kn : Int) == (n : Int)) = false := by simp; omega
            have hkn2 : kn < n := by omega
            clear hkeq
            go_wp2_with (first
              | (go_at_call 25; refine (cloneRows_any a n c rows HX.out hnil _ hr (by omega) (fun r h => by have := HM.out r h; omega)).mono ?_; rintro e w1 ⟨a1, c1, rows1, rfl, hz1, hr1, hb1⟩; have HL1 : Hid (rows1.length = n) := (zs_len hz1).trans HX.out; have HM1 := zs_all hz1 HM.out; clear hz1)
              | (go_at_call 26; refine (newHist_all none a1 0 0 n c1 [] rows1 rfl HL1.out (by omega) (by omega) n (by omega) 0 _ ⟨Rd.nil _ _, (fun r h => by simp at h)⟩ hr1 (fun r h => by simp at h) HM1).mono ?_; rintro e w2 ⟨rfl, la, lc, ls, H, hbl, hsh2⟩; generalize hB : w1.heap.size = B at *; have HB : Hid (w1.heap.size = B) := hB; clear hB)
              | fail)
            have hsh : ShapeL ls (if 0 = 0 then n else n) (fun _ => []) (sp rows1 kn 0) := by
              rw [if_pos rfl]; exact hsh2.congr (fun q _ => by simp [rowAt, rowNil, tags]) (fun q _ => sp_zero rows1 kn q)
            have hown := hr1.rowAt kn
            have hom := rowAt_len HM1 kn
            have ZR : Hid (∀ w' : World, Below B w1 w' → Calls Try.prog 30 #[.slice a1 n c1, .int .i64 kn] w' fun e w'' => e = .returned (.slice (rowAt rows1 kn).a (rowAt rows1 kn).zs.length (rowAt rows1 kn).c) ∧ w'' = w') := fun w' hb => zzRow_any a1 n c1 rows1 HL1.out _ (hr1.below (by rw [HB.out]; exact hb)) _ kn rfl
            obtain ⟨hkl, hshn, htr⟩ := drain_step HL1.out (by omega) (by rw [if_neg (by omega)]) hsh
            have HROW : Hid (∀ q, (if q = kn then (rowAt rows1 kn).zs.take ((rowAt rows1 kn).zs.length - 1) else (rowAt rows1 q).zs) = (sp rows1 kn (0 + 1) q).map RunV.n) := fun q => sp_one rows1 kn q
            generalize hro : rowAt rows1 kn = own at hown hom htr ZR HROW
            have HRO : Hid (rowAt rows1 kn = own) := hro
            clear hro hsh2 hsh
            obtain ⟨oa, oc, ozs⟩ := own
            simp only [] at ZR htr hom HROW
            have HTR : Hid (∀ r, takeR ls kn r → (0 < ozs.length → r = tagRun (ozs.getD (ozs.length - 1 - 0) 0)) ∧ (¬ 0 < ozs.length → freshRun r (pieces kn))) := htr
            generalize hmm : ozs.length = m at hom ZR
            have HMM : Hid (ozs.length = m) := hmm
            have HSH : Hid (ShapeL (takeL ls kn) n (fun _ => []) (sp rows1 kn (0 + 1))) := hshn
            have HNL : Hid ((takeL ls kn).length = n) := hshn.len
            clear hmm htr hshn
            by_cases hm0 : m = 0
            · have HF0 : Hid (∀ r, takeR ls kn r → freshRun r (pieces kn)) := fun r hr => (HTR.out r hr).2 (by rw [HMM.out]; omega)
              subst hm0
              go_wp2_with (first
                | (go_at_call 27; refine (zztake_any _ B B la lc ls 0 H _ kn rfl hkl (by omega)).mono ?_; rintro e w3 ⟨r, la3, lc3, rfl, H3, F3, R3⟩; have HF : Hid (freshRun r (pieces kn)) := HF0.out r R3; have b3 : Below B w1 w3 := hbl.trans (F3.below H); have H4 := H3.below ((Below.refl _ _).alloc (Nat.le_refl _) (.cells #[.int .i64 r.n, .slice r.ta r.tl r.tc, .slice r.sa r.sl r.sc] 53)))
                | (go_at_call 28; have T := levelCount_any H4; rw [HNL.out] at T; refine same_calls T ?_)
                | (go_at_call 29; refine (runShape_any r _).mono ?_; rintro e w5 ⟨rfl, hb5⟩; obtain ⟨f1, f2, f3, f4, f5⟩ := HF.out; have H5 := H4.below hb5; have b5 : Below B w1 w5 := (b3.alloc H3.base_le _).trans (hb5.mono (by have := H3.base_le; simp; omega)))
                | (go_at_call 30; refine same_calls (ZR.out _ b5) ?_)
                | (go_at_call 31; refine same_calls (freshPieces_any _ kn rfl (by omega) _) ?_))
              clear H H3 H4 F3 b3 hb5
              go_loopw [17] (fun i wr => ∃ q : Nat, q ≤ n ∧ i = .int .i64 q ∧ Hist wr B B la3 lc3 (takeL ls kn) 0 ∧ Below B w1 wr) (fun i _ => n - (intOf i).toNat)
              case atStart => exact ⟨0, Nat.zero_le _, rfl, H5, b5⟩
              case round =>
                clear H5 b5 hbl
                obtain ⟨q, hq, rfl, H, hbl⟩ := hrel
                by_cases hqlt : q < n
                · have hql : q < (takeL ls kn).length := by rw [HNL.out]; exact hqlt
                  have hlq : (takeL ls kn)[q]? = some (takeL ls kn)[q] := List.getElem?_eq_getElem hql
                  obtain ⟨hrq, hsq, hmq⟩ := HSH.out.lv q _ hlq
                  generalize (takeL ls kn)[q] = lq at hlq hrq hsq hmq
                  have HLQ : Hid ((takeL ls kn)[q]? = some lq) := hlq
                  have HMQ : Hid (lq.m = run0) := hmq
                  have hrl : ((lq.runs.length : Nat) : Int) = 0 := by rw [hrq]; rfl
                  have hzq := HROW.out q
                  rw [← hsq] at hzq
                  have hsl : lq.spare.length ≤ 131072 := by
                    have := congrArg List.length hzq
                    rw [List.length_map] at this
                    rw [← this]
                    split
                    · rw [List.length_take]; have := HMM.out; omega
                    · exact rowAt_len HM1 q
                  have hrr : RRd wr a1 rows1 := hr1.below (by rw [HB.out]; exact hbl)
                  have T := spareTags_any H _ q rfl lq hlq (by omega)
                  rw [← List.length_map (f := RunV.n), ← hzq] at T
                  clear hlq hrq hsq hmq hql
                  by_cases hqk : q = kn
                  · rw [if_pos hqk, List.length_take, HMM.out] at T
                    have e1 : min (0 - 1) 0 = 0 - 1 := by omega
                    rw [e1] at T
                    have HT : Hid (Calls Try.prog 33 #[.pointer (some ⟨B, 0, none⟩), .int .i64 q] wr fun e w' => ∃ a' c', e = .returned (.slice a' (0 - 1) c') ∧ Rd w' a' ((ozs.take (0 - 1)).map (Value.int .i64)) ∧ Below wr.heap.size wr w') := T
                    have hd2 : ((q : Int) == (kn : Int)) = true := by simp; omega
                    have ZQ : Calls Try.prog 30 #[.slice a1 n c1, .int .i64 q] wr fun e w'' => e = .returned (.slice oa 0 oc) ∧ w'' = wr := by rw [hqk]; exact ZR.out wr hbl
                    have HZQ : Hid (Calls Try.prog 30 #[.slice a1 n c1, .int .i64 q] wr fun e w'' => e = .returned (.slice oa 0 oc) ∧ w'' = wr) := ZQ
                    have hro : RRow wr ⟨oa, oc, ozs⟩ := by rw [← HRO.out]; exact hrr.rowAt kn
                    have hoc : 0 ≤ oc := by have := hro.2.2; simp only [] at this; rw [HMM.out] at this; exact this
                    have HRD : Hid (∀ w', Below wr.heap.size wr w' → Rd w' oa ((ozs.take (0 - 1)).map (Value.int .i64))) := fun w' hb => (rd_take hro.1 (0 - 1)).below' hb
                    clear T ZQ hqk hzq e1 hrr hro
                    go_wp2_with (first
                      | (go_at_call 30; refine same_calls HZQ.out ?_)
                      | (go_at_call 33; refine HT.out.mono ?_; rintro e w3 ⟨a3, c3, rfl, hr3, hb3⟩; have hrd3 := HRD.out w3 hb3; have H3 := H.below hb3)
                      | (go_at_call 32; refine (intsEqual_any a3 _ _ c3 _ (ozs.take (0 - 1)) (by simp) (by omega) _ hr3 hrd3).mono ?_; rintro e w5 ⟨rfl, hb5⟩; have H5 := H3.below hb5)
                      | (go_at_call 34; refine same_calls (runCount_any H5 _ q rfl lq HLQ.out) ?_)
                      | (go_at_call 35; have T := mergedShape_any H5 _ q rfl lq HLQ.out; rw [HMQ.out] at T; refine T.mono ?_; rintro e w7 ⟨rfl, hb7⟩; simp only [run0]))
                    go_roundw
                    case rel => exact ⟨q + 1, by omega, by go_num, H5.below hb7, ((hbl.trans (hb3.mono H.base_le)).trans (hb5.mono H3.base_le)).trans (hb7.mono H5.base_le)⟩
                    case measure => simp [intOf]; omega

                  · rw [if_neg hqk] at T
                    have HT : Hid (Calls Try.prog 33 #[.pointer (some ⟨B, 0, none⟩), .int .i64 q] wr fun e w' => ∃ a' c', e = .returned (.slice a' (rowAt rows1 q).zs.length c') ∧ Rd w' a' ((rowAt rows1 q).zs.map (Value.int .i64)) ∧ Below wr.heap.size wr w') := T
                    have hd2 : ((q : Int) == (kn : Int)) = false := by simp; omega
                    have hlen2 := rowAt_len HM1 q
                    clear T hqk hzq
                    go_wp2_with (first
                      | (go_at_call 30; refine same_calls (zzRow_any a1 n c1 rows1 HL1.out _ hrr _ q rfl) ?_)
                      | (go_at_call 33; refine HT.out.mono ?_; rintro e w3 ⟨a3, c3, rfl, hr3, hb3⟩; have hrr3 := hrr.below hb3; have H3 := H.below hb3)
                      | (go_at_call 32; refine (intsEqual_any a3 _ _ c3 _ (rowAt rows1 q).zs rfl (by omega) _ hr3 (hrr3.rowAt q).1).mono ?_; rintro e w5 ⟨rfl, hb5⟩; have H5 := H3.below hb5)
                      | (go_at_call 34; refine same_calls (runCount_any H5 _ q rfl lq HLQ.out) ?_)
                      | (go_at_call 35; have T := mergedShape_any H5 _ q rfl lq HLQ.out; rw [HMQ.out] at T; refine T.mono ?_; rintro e w7 ⟨rfl, hb7⟩; simp only [run0]))
                    go_roundw
                    case rel => exact ⟨q + 1, by omega, by go_num, H5.below hb7, ((hbl.trans (hb3.mono H.base_le)).trans (hb5.mono H3.base_le)).trans (hb7.mono H5.base_le)⟩
                    case measure => simp [intOf]; omega
                · go_wp2
                  go_ret
                  exact ⟨rfl, hb1.trans (hbl.mono (by rw [← HB.out]; exact hb1.size))⟩
            · have HF0 : Hid (∀ r, takeR ls kn r → r = tagRun (ozs.getD (ozs.length - 1 - 0) 0)) := fun r hr => (HTR.out r hr).1 (by rw [HMM.out]; omega)
              have hmb : ((m : Int) == 0) = false := by simp; omega
              obtain ⟨b', off', ea', hbB, d0'⟩ := own_cell HB.out hown (j := ozs.length - 1) (by show ozs.length - 1 < ozs.length; rw [HMM.out]; omega)
              simp only [] at ea'
              subst ea'
              have HDZ : Hid (∀ w' : World, Below B w1 w' → w'.cell? ⟨b', off' + (m - 1), none⟩ = some (.int .i64 (ozs.getD (ozs.length - 1) 0))) := by
                show ∀ w' : World, Below B w1 w' → _
                rw [← HMM.out]; exact d0'
              simp only [Nat.sub_zero] at HF0
              generalize ozs.getD (ozs.length - 1) 0 = z at HDZ HF0
              clear d0'
              go_wp2_with (first
                | (go_at_call 27; refine (zztake_any _ B B la lc ls 0 H _ kn rfl hkl (by omega)).mono ?_; rintro e w3 ⟨r, la3, lc3, rfl, H3, F3, R3⟩; obtain rfl := HF0.out r R3; have b3 : Below B w1 w3 := hbl.trans (F3.below H); simp only [tagRun]; have H4 := H3.below ((Below.refl _ _).alloc (Nat.le_refl _) (.cells #[.int .i64 z, .slice none 0 0, .slice none 0 0] 53)))
                | (go_at_call 28; have T := levelCount_any H4; rw [HNL.out] at T; refine same_calls T ?_)
                | (go_at_call 29; refine (runShape_any ⟨z, none, 0, 0, none, 0, 0⟩ _).mono ?_; rintro e w5 ⟨rfl, hb5⟩; have H5 := H4.below hb5; have b5 : Below B w1 w5 := (b3.alloc H3.base_le _).trans (hb5.mono (by have := H3.base_le; simp; omega)); have d5 := HDZ.out w5 b5)
                | (go_at_call 30; refine same_calls (ZR.out _ b5) ?_))
              clear H H3 H4 F3 b3 hb5
              go_loopw [17] (fun i wr => ∃ q : Nat, q ≤ n ∧ i = .int .i64 q ∧ Hist wr B B la3 lc3 (takeL ls kn) 0 ∧ Below B w1 wr) (fun i _ => n - (intOf i).toNat)
              case atStart => exact ⟨0, Nat.zero_le _, rfl, H5, b5⟩
              case round =>
                clear H5 b5 hbl
                obtain ⟨q, hq, rfl, H, hbl⟩ := hrel
                by_cases hqlt : q < n
                · have hql : q < (takeL ls kn).length := by rw [HNL.out]; exact hqlt
                  have hlq : (takeL ls kn)[q]? = some (takeL ls kn)[q] := List.getElem?_eq_getElem hql
                  obtain ⟨hrq, hsq, hmq⟩ := HSH.out.lv q _ hlq
                  generalize (takeL ls kn)[q] = lq at hlq hrq hsq hmq
                  have HLQ : Hid ((takeL ls kn)[q]? = some lq) := hlq
                  have HMQ : Hid (lq.m = run0) := hmq
                  have hrl : ((lq.runs.length : Nat) : Int) = 0 := by rw [hrq]; rfl
                  have hzq := HROW.out q
                  rw [← hsq] at hzq
                  have hsl : lq.spare.length ≤ 131072 := by
                    have := congrArg List.length hzq
                    rw [List.length_map] at this
                    rw [← this]
                    split
                    · rw [List.length_take]; have := HMM.out; omega
                    · exact rowAt_len HM1 q
                  have hrr : RRd wr a1 rows1 := hr1.below (by rw [HB.out]; exact hbl)
                  have T := spareTags_any H _ q rfl lq hlq (by omega)
                  rw [← List.length_map (f := RunV.n), ← hzq] at T
                  clear hlq hrq hsq hmq hql
                  by_cases hqk : q = kn
                  · rw [if_pos hqk, List.length_take, HMM.out] at T
                    have e1 : min (m - 1) m = m - 1 := by omega
                    rw [e1] at T
                    have HT : Hid (Calls Try.prog 33 #[.pointer (some ⟨B, 0, none⟩), .int .i64 q] wr fun e w' => ∃ a' c', e = .returned (.slice a' (m - 1) c') ∧ Rd w' a' ((ozs.take (m - 1)).map (Value.int .i64)) ∧ Below wr.heap.size wr w') := T
                    have hd2 : ((q : Int) == (kn : Int)) = true := by simp; omega
                    have ZQ : Calls Try.prog 30 #[.slice a1 n c1, .int .i64 q] wr fun e w'' => e = .returned (.slice (some ⟨b', off', none⟩) m oc) ∧ w'' = wr := by rw [hqk]; exact ZR.out wr hbl
                    have HZQ : Hid (Calls Try.prog 30 #[.slice a1 n c1, .int .i64 q] wr fun e w'' => e = .returned (.slice (some ⟨b', off', none⟩) m oc) ∧ w'' = wr) := ZQ
                    have hro : RRow wr ⟨(some ⟨b', off', none⟩), oc, ozs⟩ := by rw [← HRO.out]; exact hrr.rowAt kn
                    have hoc : m ≤ oc := by have := hro.2.2; simp only [] at this; rw [HMM.out] at this; exact this
                    have HRD : Hid (∀ w', Below wr.heap.size wr w' → Rd w' (some ⟨b', off', none⟩) ((ozs.take (m - 1)).map (Value.int .i64))) := fun w' hb => (rd_take hro.1 (m - 1)).below' hb
                    clear T ZQ hqk hzq e1 hrr hro
                    go_wp2_with (first
                      | (go_at_call 30; refine same_calls HZQ.out ?_)
                      | (go_at_call 33; refine HT.out.mono ?_; rintro e w3 ⟨a3, c3, rfl, hr3, hb3⟩; have hrd3 := HRD.out w3 hb3; have H3 := H.below hb3)
                      | (go_at_call 32; refine (intsEqual_any a3 _ _ c3 _ (ozs.take (m - 1)) (by rw [List.length_take, HMM.out]; omega) (by omega) _ hr3 hrd3).mono ?_; rintro e w5 ⟨rfl, hb5⟩; have H5 := H3.below hb5)
                      | (go_at_call 34; refine same_calls (runCount_any H5 _ q rfl lq HLQ.out) ?_)
                      | (go_at_call 35; have T := mergedShape_any H5 _ q rfl lq HLQ.out; rw [HMQ.out] at T; refine T.mono ?_; rintro e w7 ⟨rfl, hb7⟩; simp only [run0]))
                    go_roundw
                    case rel => exact ⟨q + 1, by omega, by go_num, H5.below hb7, ((hbl.trans (hb3.mono H.base_le)).trans (hb5.mono H3.base_le)).trans (hb7.mono H5.base_le)⟩
                    case measure => simp [intOf]; omega

                  · rw [if_neg hqk] at T
                    have HT : Hid (Calls Try.prog 33 #[.pointer (some ⟨B, 0, none⟩), .int .i64 q] wr fun e w' => ∃ a' c', e = .returned (.slice a' (rowAt rows1 q).zs.length c') ∧ Rd w' a' ((rowAt rows1 q).zs.map (Value.int .i64)) ∧ Below wr.heap.size wr w') := T
                    have hd2 : ((q : Int) == (kn : Int)) = false := by simp; omega
                    have hlen2 := rowAt_len HM1 q
                    clear T hqk hzq
                    go_wp2_with (first
                      | (go_at_call 30; refine same_calls (zzRow_any a1 n c1 rows1 HL1.out _ hrr _ q rfl) ?_)
                      | (go_at_call 33; refine HT.out.mono ?_; rintro e w3 ⟨a3, c3, rfl, hr3, hb3⟩; have hrr3 := hrr.below hb3; have H3 := H.below hb3)
                      | (go_at_call 32; refine (intsEqual_any a3 _ _ c3 _ (rowAt rows1 q).zs rfl (by omega) _ hr3 (hrr3.rowAt q).1).mono ?_; rintro e w5 ⟨rfl, hb5⟩; have H5 := H3.below hb5)
                      | (go_at_call 34; refine same_calls (runCount_any H5 _ q rfl lq HLQ.out) ?_)
                      | (go_at_call 35; have T := mergedShape_any H5 _ q rfl lq HLQ.out; rw [HMQ.out] at T; refine T.mono ?_; rintro e w7 ⟨rfl, hb7⟩; simp only [run0]))
                    go_roundw
                    case rel => exact ⟨q + 1, by omega, by go_num, H5.below hb7, ((hbl.trans (hb3.mono H.base_le)).trans (hb5.mono H3.base_le)).trans (hb7.mono H5.base_le)⟩
                    case measure => simp [intOf]; omega
                · go_wp2
                  go_ret
                  exact ⟨rfl, hb1.trans (hbl.mono (by rw [← HB.out]; exact hb1.size))⟩
        · by_cases hk0 : k < 0
          · clear hk
            go_wp2_with fail
            go_ret
            exact ⟨rfl, Below.refl _ _⟩
          · by_cases hk1 : 20 < k
            · clear hk
              go_wp2_with fail
              go_ret
              exact ⟨rfl, Below.refl _ _⟩
            · have hk2 : (n : Int) < k := by omega
              clear hk
              go_wp2_with fail
              go_ret
              exact ⟨rfl, Below.refl _ _⟩
end Go.Proofs.Qxb6601843a
