import Derived.Test.Qxb6601843aHide
namespace Go.Proofs.Qxb6601843a
open Go.RowKit
set_option maxRecDepth 100000 in
set_option maxHeartbeats 16000000 in
theorem pushWhole_main2 (a1 a2 : Option Addr) (n1 c1 n2 c2 : Nat) (runs spares : List RowI) (hx1 : runs.length = n1) (hx2 : spares.length = n2) (hnil1 : a1 = none → n1 = 0 ∧ c1 = 0) (hnil2 : a2 = none → n2 = 0 ∧ c2 = 0) (mg k tag : Int) (w : World) (hr : RRd w a1 runs) (hs : RRd w a2 spares)
    (h1 : n1 ≤ 32768) (h2 : n2 ≤ 32768) (h3 : 3 * n1 + 3 * n2 ≤ 131072) (hL : n1 < n2) :
    Calls Try.prog 7 #[.slice a1 n1 c1, .slice a2 n2 c2, .int .u64 mg, .int .i64 k, .int .i64 tag] w fun e w' => e = .returned (.bool true) ∧ Below w.heap.size w w' := by
  have HX1 : Hid (runs.length = n1) := hx1
  have HX2 : Hid (spares.length = n2) := hx2
  clear hx1 hx2
  go_enter Try.func7, Try.ntmps7
  go_wp2_with (go_at_call 38; refine (bytesOk38 a1 a2 n1 c1 n2 c2 runs spares HX1.out HX2.out mg k tag _ hr hs).mono ?_; rintro e w' ⟨⟨b, rfl, hbt⟩, hw⟩; have hw' := hw.symm; clear hw; subst hw'; cases b)
  · go_ret
    exact ⟨rfl, Below.refl _ _⟩
  · have HBT : Hid ((∀ r ∈ runs, r.zs.length ≤ 1048576) ∧ ∀ r ∈ spares, r.zs.length ≤ 1048576) := hbt (by simp)
    clear hbt
    go_loop [11, 12] (fun t i => ∃ (j : Nat) (s : Int), j ≤ n1 ∧ i = .int .i64 j ∧ 0 ≤ s ∧ s ≤ 131072 ∧ t = .int .i64 s ∧ Mid runs j) (fun _ i => n1 - (intOf i).toNat)
    case atStart => exact ⟨0, 3 * n1 + 3 * n2, Nat.zero_le _, rfl, by omega, by omega, rfl, fun p _ hp => absurd hp (Nat.not_lt_zero _)⟩
    case round =>
      obtain ⟨j, s, hj, rfl, hs0, hs1, rfl, hmid⟩ := hrel
      by_cases hlt : j < n1
      · have hlt' : j < runs.length := by rw [HX1.out]; exact hlt
        obtain ⟨b, off, ea, hbw, hc⟩ := hr.at hlt'
        subst ea
        have hcell := hc j hlt'
        have HSH : Hid (runs[j].zs.length ≤ 131072 → Mid runs (j + 1)) := fun h p hp hpj => by
          by_cases e : p = j
          · subst e; exact h
          · exact hmid p hp (by omega)
        have hle := HBT.out.1 _ (List.getElem_mem hlt')
        clear hc
        generalize runs[j] = r at hcell HSH hle
        go_wp2
        · go_ret; exact ⟨rfl, Below.refl _ _⟩
        · go_round
          case rel => exact ⟨j + 1, _, by omega, by go_num, by omega, by omega, rfl, HSH.out (by omega)⟩
          case measure => simp [intOf]; omega
      · have HMr : Hid (∀ r ∈ runs, r.zs.length ≤ 131072) := fun r hr' => by
          obtain ⟨p, hp, rfl⟩ := List.getElem_of_mem hr'
          exact hmid p hp (by have := HX1.out; omega)
        clear hmid
        go_wp2
        go_loop [11, 13] (fun t i => ∃ (j : Nat) (s : Int), j ≤ n2 ∧ i = .int .i64 j ∧ 0 ≤ s ∧ s ≤ 131072 ∧ t = .int .i64 s ∧ Mid spares j) (fun _ i => n2 - (intOf i).toNat)
        case atStart => exact ⟨0, s, Nat.zero_le _, rfl, by omega, by omega, rfl, fun p _ hp => absurd hp (Nat.not_lt_zero _)⟩
        case round =>
          obtain ⟨j2, s2, hj2, rfl, hs20, hs21, rfl, hmid2⟩ := hrel
          by_cases hlt2 : j2 < n2
          · have hlt' : j2 < spares.length := by rw [HX2.out]; exact hlt2
            obtain ⟨b, off, ea, hbw, hc⟩ := hs.at hlt'
            subst ea
            have hcell := hc j2 hlt'
            have HSH : Hid (spares[j2].zs.length ≤ 131072 → Mid spares (j2 + 1)) := fun h p hp hpj => by
              by_cases e : p = j2
              · subst e; exact h
              · exact hmid2 p hp (by omega)
            have hle := HBT.out.2 _ (List.getElem_mem hlt')
            clear hc
            generalize spares[j2] = r at hcell HSH hle
            go_wp2
            · go_ret; exact ⟨rfl, Below.refl _ _⟩
            · go_round
              case rel => exact ⟨j2 + 1, _, by omega, by go_num, by omega, by omega, rfl, HSH.out (by omega)⟩
              case measure => simp [intOf]; omega
          · have HMs : Hid (∀ r ∈ spares, r.zs.length ≤ 131072) := fun r hr' => by
              obtain ⟨p, hp, rfl⟩ := List.getElem_of_mem hr'
              exact hmid2 p hp (by have := HX2.out; omega)
            clear hmid2 HBT
            by_cases hk : 0 ≤ k ∧ k < n2 ∧ k ≤ 19
            · obtain ⟨kn, rfl⟩ := Int.eq_ofNat_of_zero_le hk.1
              obtain ⟨hk0, hkN, hk19⟩ := hk
              go_wp2_with fail
              refine (cloneRows_any a1 n1 c1 runs HX1.out hnil1 _ hr (by omega) (fun r h => by have := HMr.out r h; omega)).mono ?_
              rintro e w1 ⟨a1', c1', runs1, rfl, hz1, hr1, hb1⟩
              have HL1 : Hid (runs1.length = n1) := (zs_len hz1).trans HX1.out
              have HM1 := zs_all hz1 HMr.out
              clear hz1
              go_wp2_with fail
              refine (cloneRows_any a2 n2 c2 spares HX2.out hnil2 _ (hs.below hb1) (by omega) (fun r h => by have := HMs.out r h; omega)).mono ?_
              rintro e w2 ⟨a2', c2', spares1, rfl, hz2, hr2, hb2⟩
              have HL2 : Hid (spares1.length = n2) := (zs_len hz2).trans HX2.out
              have HM2 := zs_all hz2 HMs.out
              clear hz2
              generalize hro : rowAt runs1 kn = own
              have HRO : Hid (rowAt runs1 kn = own) := hro
              have hom : own.zs.length ≤ 131072 := by rw [← hro]; exact rowAt_len HM1 kn
              clear hro
              obtain ⟨ra, rc, rzs⟩ := own
              generalize hmm : rzs.length = m
              have HMM : Hid (rzs.length = m) := hmm
              simp only [hmm] at hom
              clear hmm
              generalize hnx : rowAt spares1 (kn + 1) = nx
              have HNX : Hid (rowAt spares1 (kn + 1) = nx) := hnx
              have hox : nx.zs.length ≤ 131072 := by rw [← hnx]; exact rowAt_len HM2 (kn + 1)
              have hnown : RRow w2 nx := by rw [← hnx]; exact hr2.rowAt (kn + 1)
              clear hnx
              obtain ⟨xa, xc, xzs⟩ := nx
              generalize hmx : xzs.length = mx
              have HMX : Hid (xzs.length = mx) := hmx
              simp only [hmx] at hox
              clear hmx
              by_cases htr : m = 1
              · have htr1 : m ≤ 1 := by omega
                have htr2 : 1 ≤ m := by omega
                clear htr
                by_cases hkN1 : kn + 1 = n2
                · have hkN2 : kn + 1 ≤ n2 := by omega
                  have hkN3 : n2 ≤ kn + 1 := by omega
                  clear hkN1
                  have hmx0 : mx = 0 := by
                    rw [← HMX.out]
                    have := HNX.out
                    rw [rowAt_ge (by rw [HL2.out]; omega)] at this
                    have e := congrArg RowI.zs this
                    simp only [rowNil] at e
                    rw [← e]; rfl
                  subst hmx0
                  as_aux_lemma =>
                    have ht : ((m : Int) + 1 == 2) = true := by simp; omega
                    have hk1 : ((kn : Int) + 1 == (n2 : Int)) = true := by simp; omega
                    go_wp2_with fail
                    refine (newHist_all a1' a2' n1 c1' n2 c2' runs1 spares1 HL1.out HL2.out (by omega) (by omega) n2 (by omega) mg _ (hr1.below hb2) hr2 HM1 HM2).mono ?_
                    rintro e w3 ⟨rfl, la, lc, ls, H3, hb3, hsh3⟩
                    generalize hB : w2.heap.size = B at *
                    have HB : Hid (w2.heap.size = B) := hB
                    clear hB
                    have hkl : kn < ls.length := by rw [hsh3.len]; omega
                    have hlk : ls[kn]? = some ls[kn] := List.getElem?_eq_getElem hkl
                    have hPS := fun ls5 mg5 (hp : PushRel ls mg kn ls[kn] (tagRun tag) ls5 mg5) => push_shape (by rw [HL1.out, HL2.out]; omega) (by omega) hsh3 hlk hp
                    have hln : ls[kn].runs.length ≤ 1000000 := by rw [(hsh3.lv kn _ hlk).1, tags_len]; have := rowAt_len HM1 kn; omega
                    generalize ls[kn] = l at hlk hPS hln
                    simp only [HRO.out, HNX.out, HMM.out, HMX.out] at hPS
                    have HLK : Hid (ls[kn]? = some l) := hlk
                    have HPS := hide hPS
                    clear hlk hPS hsh3 hkl
                    go_wp2_with fail
                    refine (tagRun_any tag _).mono ?_
                    rintro e w4 ⟨rfl, hb4⟩
                    have H4 := H3.below hb4
                    have bl4 : Below B w2 w4 := hb3.trans (hb4.mono H3.base_le)
                    go_wp2_with fail
                    refine (zzpush_any _ B B la lc ls mg H4 _ kn rfl (by omega) l HLK.out hln ⟨tag, none, 0, 0, none, 0, 0⟩).mono ?_
                    rintro e w5 ⟨rfl, la5, lc5, ls5, mg5, H5, F5, R5⟩
                    have b5 : Below B w2 w5 := bl4.trans (F5.below H4)
                    obtain ⟨rfl, rr, hsh5, hfr0, hfr1⟩ := ((unhide HPS) ls5 mg5 R5).2 (by omega)
                    rw [if_pos (by omega)] at hsh5
                    have HFR : Hid (freshRun rr (pieces (kn + 1))) := hfr0 (by simp)
                    have HSH := hide hsh5
                    have HNL := hide hsh5.len
                    clear hsh5 R5 hfr0 hfr1
                    have Z0 : Calls Try.prog 30 #[.slice a1' n1 c1', .int .i64 kn] w5 fun e w'' => e = .returned (.slice ra m rc) ∧ w'' = w5 := by
                      have := zzRow_any a1' n1 c1' runs1 HL1.out w5 (hr1.below' hb2 b5 HB.out) _ kn rfl
                      rw [HRO.out] at this
                      simp only [HMM.out] at this
                      exact this
                    have HZ0 := hide Z0
                    have Z28 := levelCount_any H5
                    rw [unhide HNL] at Z28
                    have HZ28 := hide Z28
                    clear Z0 Z28
                    go_wp2_with fail
                    refine same_calls (unhide HZ0) ?_
                    go_wp2_with fail
                    refine same_calls (unhide HZ28) ?_
                    go_wp2_with fail
                    refine same_calls (merging_any H5) ?_
                    simp only [orBit]
                    go_wp2_with fail
                    clear H3 H4 F5 hb4
                    go_loopw [19] (fun i wr => ∃ q : Nat, q ≤ (n2 + 1) ∧ i = .int .i64 q ∧ Hist wr B B la5 lc5 ls5 (orBit mg kn) ∧ Below B w2 wr) (fun i _ => (n2 + 1) - (intOf i).toNat)
                    case atStart => exact ⟨0, Nat.zero_le _, rfl, H5, b5⟩
                    case round =>
                      clear H5 b5 hb3
                      obtain ⟨q, hq, rfl, H, hbl⟩ := hrel
                      by_cases hqlt : q < (n2 + 1)
                      · have hql : q < ls5.length := by rw [(unhide HNL)]; exact hqlt
                        have hlq : ls5[q]? = some ls5[q] := List.getElem?_eq_getElem hql
                        obtain ⟨hrq, hsq, hmq⟩ := (unhide HSH).lv q _ hlq
                        generalize ls5[q] = lq at hlq hrq hsq hmq
                        clear hql
                        by_cases hqk : q = kn
                        · rw [if_pos hqk] at hmq
                          as_aux_lemma =>
                            have zR : lq.runs.map RunV.n = rzs ++ [tag] := by rw [hrq, pushR_n, if_pos hqk, HRO.out]
                            have lR : lq.runs.length = m + 1 := by rw [← List.length_map (f := RunV.n), zR, List.length_append, HMM.out]; rfl
                            have zS : lq.spare.map RunV.n = (rowAt spares1 q).zs := by rw [hsq, pushS_n, if_neg (by omega)]
                            have lS : lq.spare.length = (rowAt spares1 q).zs.length := by rw [← List.length_map (f := RunV.n), zS]
                            have ql := rowAt_len HM1 q
                            have qs := rowAt_len HM2 q
                            have T42 := runTags_at H _ q rfl lq hlq (by omega)
                            rw [zR, lR] at T42
                            have HT42 := hide T42
                            have HLQ : Hid (ls5[q]? = some lq) := hlq
                            have HZS : Hid (_ = _) := zS
                            have HLS : Hid (_ = _) := lS
                            have HMQ : Hid (_ = _) := hmq
                            have hra : RRd wr a1' runs1 := hr1.below' hb2 hbl HB.out
                            have hrs : RRd wr a2' spares1 := hr2.below (by rw [HB.out]; exact hbl)
                            clear T42 zR zS lS hrq hsq hmq hlq
                            have hd2 : ((q : Int) == (kn : Int)) = true := by simp; omega
                            have hd3 : ((q : Int) == (kn : Int) + 1) = false := by simp; omega
                            have HQK : Hid (q = kn) := hqk
                            clear hqk lR
                            go_wp2_with fail
                            refine (unhide HT42).mono ?_
                            rintro e wa ⟨rfl, hra3, hba⟩
                            have Ha := H.below hba
                            have hrra := hra.below hba
                            have hrrs := hrs.below hba
                            have Z30 : Calls Try.prog 30 #[.slice a1' n1 c1', .int .i64 q] wa fun e w'' => e = .returned (.slice ra m rc) ∧ w'' = wa := by
                              have := zzRow_any a1' n1 c1' runs1 HL1.out wa hrra _ q rfl
                              rw [HQK.out, HRO.out] at this
                              rw [HQK.out]
                              simp only [HMM.out] at this
                              exact this
                            have HZ30 := hide Z30
                            have hrown : RRow wa ⟨ra, rc, rzs⟩ := by rw [← HRO.out]; exact hrra.rowAt kn
                            have HRN : Hid (Rd wa ra (rzs.map (Value.int .i64))) := hrown.1
                            clear Z30 hrown
                            go_wp2_with fail
                            refine same_calls (unhide HZ30) ?_
                            go_wp2_with fail
                            refine (intsEqual_any (some ⟨wr.heap.size, 0, none⟩) ra m (m + 1) rc rzs HMM.out (by omega) _ (by have := rd_take hra3 m; rw [List.take_append_of_le_length (by rw [HMM.out]; exact Nat.le_refl _), List.take_of_length_le (by rw [HMM.out]; exact Nat.le_refl _)] at this; exact this) HRN.out).mono ?_
                            rintro e wb ⟨rfl, hbb⟩
                            have Hb := Ha.below hbb
                            have hrrb := hrrs.below hbb
                            have dtag : wb.cell? ⟨wr.heap.size, m, none⟩ = some (.int .i64 tag) := by
                              obtain ⟨b0, off0, e0, hc0⟩ := (hra3.below' hbb) m (.int .i64 tag) (by rw [← HMM.out]; simp)
                              cases e0
                              simpa using hc0
                            go_wp2_with fail
                            refine same_calls (zzRow_any a2' n2 c2' spares1 HL2.out wb hrrb _ q rfl) ?_
                            have T33 := spareTags_any Hb _ q rfl lq HLQ.out (by rw [HLS.out]; omega)
                            rw [HZS.out, HLS.out] at T33
                            have HT33 := hide T33
                            clear T33
                            go_wp2_with fail
                            refine (unhide HT33).mono ?_
                            rintro e wc ⟨a3, c3, rfl, hrc, hbc⟩
                            have Hc := Hb.below hbc
                            have hrrc := hrrb.below hbc
                            go_wp2_with fail
                            refine (intsEqual_any a3 _ _ c3 _ (rowAt spares1 q).zs rfl (by omega) _ hrc (hrrc.rowAt q).1).mono ?_
                            rintro e wd ⟨rfl, hbd⟩
                            have Hd := Hc.below hbd
                            have hrrd := hrrc.below hbd
                            have T35 := mergedShape_any Hd _ q rfl lq HLQ.out
                            rw [HMQ.out] at T35
                            have HT35 := hide T35
                            clear T35
                            go_wp2_with fail
                            refine (unhide HT35).mono ?_
                            rintro e we ⟨rfl, hbe⟩
                            have He := Hd.below hbe
                            have hbE : Below B w2 we := ((((hbl.trans (hba.mono H.base_le)).trans (hbb.mono Ha.base_le)).trans (hbc.mono Hb.base_le)).trans (hbd.mono Hc.base_le)).trans (hbe.mono Hd.base_le)
                            have Z32 : Calls Try.prog 30 #[.slice a2' n2 c2', .int .i64 ((kn : Int) + 1)] we fun e w'' => e = .returned (.slice xa 0 xc) ∧ w'' = we := by
                              have := zzRow_any a2' n2 c2' spares1 HL2.out we (hrrd.below hbe) ((kn : Int) + 1) (kn + 1) (by omega)
                              rw [HNX.out] at this
                              simp only [HMX.out] at this
                              exact this
                            have HZ32 := hide Z32
                            obtain ⟨f1, f2, f3, f4, f5⟩ := HFR.out
                            clear Z32
                            go_wp2_with fail
                            refine same_calls (unhide HZ32) ?_
                            go_wp2_with fail
                            refine same_calls (freshPieces_any _ (kn + 1) (by omega) (by omega) _) ?_
                            go_wp2_with fail
                            go_roundw
                            case rel => exact ⟨q + 1, by omega, by go_num, He, hbE⟩
                            case measure => simp [intOf]; omega
                        · rw [if_neg hqk] at hmq
                          by_cases hqk1 : q = kn + 1
                          · as_aux_lemma =>
                              have zR : lq.runs.map RunV.n = (rowAt runs1 q).zs := by rw [hrq, pushR_n, if_neg (by omega)]
                              have lR : lq.runs.length = (rowAt runs1 q).zs.length := by rw [← List.length_map (f := RunV.n), zR]
                              have zS : lq.spare.map RunV.n = xzs.take (0 - 1) := by
                                rw [hsq, pushS_n, if_pos hqk1, HNX.out]
                                show xzs.take (xzs.length - 1) = _
                                rw [HMX.out]
                              have lS : lq.spare.length = 0 - 1 := by rw [← List.length_map (f := RunV.n), zS, List.length_take]; have := HMX.out; omega
                              have ql := rowAt_len HM1 q
                              have qs := rowAt_len HM2 q
                              have T42 := runTags_at H _ q rfl lq hlq (by omega)
                              rw [zR, lR] at T42
                              have HT42 := hide T42
                              have HLQ : Hid (ls5[q]? = some lq) := hlq
                              have HZS : Hid (_ = _) := zS
                              have HLS : Hid (_ = _) := lS
                              have HMQ : Hid (_ = _) := hmq
                              have hra : RRd wr a1' runs1 := hr1.below' hb2 hbl HB.out
                              have hrs : RRd wr a2' spares1 := hr2.below (by rw [HB.out]; exact hbl)
                              clear T42 zR zS lS hrq hsq hmq hlq
                              have hd2 : ((q : Int) == (kn : Int)) = false := by simp; omega
                              have hd3 : ((q : Int) == (kn : Int) + 1) = true := by simp; omega
                              have HQK1 : Hid (q = kn + 1) := hqk1
                              clear hqk hqk1 lR
                              go_wp2_with fail
                              refine (unhide HT42).mono ?_
                              rintro e wa ⟨rfl, hra3, hba⟩
                              have Ha := H.below hba
                              have hrra := hra.below hba
                              have hrrs := hrs.below hba
                              go_wp2_with fail
                              refine same_calls (zzRow_any a1' n1 c1' runs1 HL1.out wa hrra _ q rfl) ?_
                              go_wp2_with fail
                              refine (intsEqual_any (some ⟨wr.heap.size, 0, none⟩) _ _ _ _ (rowAt runs1 q).zs rfl (by omega) _ hra3 (hrra.rowAt q).1).mono ?_
                              rintro e wb ⟨rfl, hbb⟩
                              have Hb := Ha.below hbb
                              have hrrb := hrrs.below hbb
                              have Z31 : Calls Try.prog 30 #[.slice a2' n2 c2', .int .i64 q] wb fun e w'' => e = .returned (.slice xa 0 xc) ∧ w'' = wb := by
                                have := zzRow_any a2' n2 c2' spares1 HL2.out wb hrrb _ q rfl
                                rw [HQK1.out, HNX.out] at this
                                rw [HQK1.out]
                                simp only [HMX.out] at this
                                exact this
                              have HZ31 := hide Z31
                              have hxown : RRow wb ⟨xa, xc, xzs⟩ := by rw [← HNX.out]; exact hrrb.rowAt (kn + 1)
                              have hxc : 0 ≤ xc := by have := hxown.2.2; simp only [HMX.out] at this; exact this
                              have HXR : Hid (Rd wb xa ((xzs.take (0 - 1)).map (Value.int .i64))) := rd_take hxown.1 (0 - 1)
                              clear Z31 hxown
                              go_wp2_with fail
                              refine same_calls (unhide HZ31) ?_
                              have T33 := spareTags_any Hb _ q rfl lq HLQ.out (by rw [HLS.out]; omega)
                              rw [HZS.out, HLS.out] at T33
                              have HT33 := hide T33
                              clear T33
                              go_wp2_with fail
                              refine (unhide HT33).mono ?_
                              rintro e wc ⟨a3, c3, rfl, hrc, hbc⟩
                              have Hc := Hb.below hbc
                              have hrrc := hrrb.below hbc
                              go_wp2_with fail
                              refine (intsEqual_any a3 xa (0 - 1) c3 xc (xzs.take (0 - 1)) (by rw [List.length_take, HMX.out]; omega) (by omega) _ hrc (HXR.out.below' hbc)).mono ?_
                              rintro e wd ⟨rfl, hbd⟩
                              have Hd := Hc.below hbd
                              have hrrd := hrrc.below hbd
                              have T35 := mergedShape_any Hd _ q rfl lq HLQ.out
                              rw [HMQ.out] at T35
                              have HT35 := hide T35
                              clear T35
                              go_wp2_with fail
                              refine (unhide HT35).mono ?_
                              rintro e we ⟨rfl, hbe⟩
                              have He := Hd.below hbe
                              have hbE : Below B w2 we := ((((hbl.trans (hba.mono H.base_le)).trans (hbb.mono Ha.base_le)).trans (hbc.mono Hb.base_le)).trans (hbd.mono Hc.base_le)).trans (hbe.mono Hd.base_le)
                              simp only [run0]
                              go_wp2_with fail
                              go_roundw
                              case rel => exact ⟨q + 1, by omega, by go_num, He, hbE⟩
                              case measure => simp [intOf]; omega
                          · as_aux_lemma =>
                              have zR : lq.runs.map RunV.n = (rowAt runs1 q).zs := by rw [hrq, pushR_n, if_neg (by omega)]
                              have lR : lq.runs.length = (rowAt runs1 q).zs.length := by rw [← List.length_map (f := RunV.n), zR]
                              have zS : lq.spare.map RunV.n = (rowAt spares1 q).zs := by rw [hsq, pushS_n, if_neg (by omega)]
                              have lS : lq.spare.length = (rowAt spares1 q).zs.length := by rw [← List.length_map (f := RunV.n), zS]
                              have ql := rowAt_len HM1 q
                              have qs := rowAt_len HM2 q
                              have T42 := runTags_at H _ q rfl lq hlq (by omega)
                              rw [zR, lR] at T42
                              have HT42 := hide T42
                              have HLQ : Hid (ls5[q]? = some lq) := hlq
                              have HZS : Hid (_ = _) := zS
                              have HLS : Hid (_ = _) := lS
                              have HMQ : Hid (_ = _) := hmq
                              have hra : RRd wr a1' runs1 := hr1.below' hb2 hbl HB.out
                              have hrs : RRd wr a2' spares1 := hr2.below (by rw [HB.out]; exact hbl)
                              clear T42 zR zS lS hrq hsq hmq hlq
                              have hd2 : ((q : Int) == (kn : Int)) = false := by simp; omega
                              have hd3 : ((q : Int) == (kn : Int) + 1) = false := by simp; omega
                              clear hqk lR
                              clear hqk1
                              go_wp2_with fail
                              refine (unhide HT42).mono ?_
                              rintro e wa ⟨rfl, hra3, hba⟩
                              have Ha := H.below hba
                              have hrra := hra.below hba
                              have hrrs := hrs.below hba
                              go_wp2_with fail
                              refine same_calls (zzRow_any a1' n1 c1' runs1 HL1.out wa hrra _ q rfl) ?_
                              go_wp2_with fail
                              refine (intsEqual_any (some ⟨wr.heap.size, 0, none⟩) _ _ _ _ (rowAt runs1 q).zs rfl (by omega) _ hra3 (hrra.rowAt q).1).mono ?_
                              rintro e wb ⟨rfl, hbb⟩
                              have Hb := Ha.below hbb
                              have hrrb := hrrs.below hbb
                              go_wp2_with fail
                              refine same_calls (zzRow_any a2' n2 c2' spares1 HL2.out wb hrrb _ q rfl) ?_
                              have T33 := spareTags_any Hb _ q rfl lq HLQ.out (by rw [HLS.out]; omega)
                              rw [HZS.out, HLS.out] at T33
                              have HT33 := hide T33
                              clear T33
                              go_wp2_with fail
                              refine (unhide HT33).mono ?_
                              rintro e wc ⟨a3, c3, rfl, hrc, hbc⟩
                              have Hc := Hb.below hbc
                              have hrrc := hrrb.below hbc
                              go_wp2_with fail
                              refine (intsEqual_any a3 _ _ c3 _ (rowAt spares1 q).zs rfl (by omega) _ hrc (hrrc.rowAt q).1).mono ?_
                              rintro e wd ⟨rfl, hbd⟩
                              have Hd := Hc.below hbd
                              have hrrd := hrrc.below hbd
                              have T35 := mergedShape_any Hd _ q rfl lq HLQ.out
                              rw [HMQ.out] at T35
                              have HT35 := hide T35
                              clear T35
                              go_wp2_with fail
                              refine (unhide HT35).mono ?_
                              rintro e we ⟨rfl, hbe⟩
                              have He := Hd.below hbe
                              have hbE : Below B w2 we := ((((hbl.trans (hba.mono H.base_le)).trans (hbb.mono Ha.base_le)).trans (hbc.mono Hb.base_le)).trans (hbd.mono Hc.base_le)).trans (hbe.mono Hd.base_le)
                              simp only [run0]
                              go_wp2_with fail
                              go_roundw
                              case rel => exact ⟨q + 1, by omega, by go_num, He, hbE⟩
                              case measure => simp [intOf]; omega
                      · go_wp2
                        go_ret
                        exact ⟨rfl, (hb1.trans (hb2.mono hb1.size)).trans (hbl.mono (by rw [← HB.out]; have := hb1.size; have := hb2.size; omega))⟩
                · have hkN2 : kn + 1 < n2 := by omega
                  clear hkN1
                  by_cases hmx0 : mx = 0
                  · subst hmx0
                    as_aux_lemma =>
                      have ht : ((m : Int) + 1 == 2) = true := by simp; omega
                      have hk1 : ((kn : Int) + 1 == (n2 : Int)) = false := by simp; omega
                      go_wp2_with fail
                      refine (newHist_all a1' a2' n1 c1' n2 c2' runs1 spares1 HL1.out HL2.out (by omega) (by omega) n2 (by omega) mg _ (hr1.below hb2) hr2 HM1 HM2).mono ?_
                      rintro e w3 ⟨rfl, la, lc, ls, H3, hb3, hsh3⟩
                      generalize hB : w2.heap.size = B at *
                      have HB : Hid (w2.heap.size = B) := hB
                      clear hB
                      have hkl : kn < ls.length := by rw [hsh3.len]; omega
                      have hlk : ls[kn]? = some ls[kn] := List.getElem?_eq_getElem hkl
                      have hPS := fun ls5 mg5 (hp : PushRel ls mg kn ls[kn] (tagRun tag) ls5 mg5) => push_shape (by rw [HL1.out, HL2.out]; omega) (by omega) hsh3 hlk hp
                      have hln : ls[kn].runs.length ≤ 1000000 := by rw [(hsh3.lv kn _ hlk).1, tags_len]; have := rowAt_len HM1 kn; omega
                      generalize ls[kn] = l at hlk hPS hln
                      simp only [HRO.out, HNX.out, HMM.out, HMX.out] at hPS
                      have HLK : Hid (ls[kn]? = some l) := hlk
                      have HPS := hide hPS
                      clear hlk hPS hsh3 hkl
                      go_wp2_with fail
                      refine (tagRun_any tag _).mono ?_
                      rintro e w4 ⟨rfl, hb4⟩
                      have H4 := H3.below hb4
                      have bl4 : Below B w2 w4 := hb3.trans (hb4.mono H3.base_le)
                      go_wp2_with fail
                      refine (zzpush_any _ B B la lc ls mg H4 _ kn rfl (by omega) l HLK.out hln ⟨tag, none, 0, 0, none, 0, 0⟩).mono ?_
                      rintro e w5 ⟨rfl, la5, lc5, ls5, mg5, H5, F5, R5⟩
                      have b5 : Below B w2 w5 := bl4.trans (F5.below H4)
                      obtain ⟨rfl, rr, hsh5, hfr0, hfr1⟩ := ((unhide HPS) ls5 mg5 R5).2 (by omega)
                      rw [if_neg (by omega)] at hsh5
                      have HFR : Hid (freshRun rr (pieces (kn + 1))) := hfr0 (by simp)
                      have HSH := hide hsh5
                      have HNL := hide hsh5.len
                      clear hsh5 R5 hfr0 hfr1
                      have Z0 : Calls Try.prog 30 #[.slice a1' n1 c1', .int .i64 kn] w5 fun e w'' => e = .returned (.slice ra m rc) ∧ w'' = w5 := by
                        have := zzRow_any a1' n1 c1' runs1 HL1.out w5 (hr1.below' hb2 b5 HB.out) _ kn rfl
                        rw [HRO.out] at this
                        simp only [HMM.out] at this
                        exact this
                      have HZ0 := hide Z0
                      have Z28 := levelCount_any H5
                      rw [unhide HNL] at Z28
                      have HZ28 := hide Z28
                      clear Z0 Z28
                      go_wp2_with fail
                      refine same_calls (unhide HZ0) ?_
                      go_wp2_with fail
                      refine same_calls (unhide HZ28) ?_
                      go_wp2_with fail
                      refine same_calls (merging_any H5) ?_
                      simp only [orBit]
                      go_wp2_with fail
                      clear H3 H4 F5 hb4
                      go_loopw [19] (fun i wr => ∃ q : Nat, q ≤ n2 ∧ i = .int .i64 q ∧ Hist wr B B la5 lc5 ls5 (orBit mg kn) ∧ Below B w2 wr) (fun i _ => n2 - (intOf i).toNat)
                      case atStart => exact ⟨0, Nat.zero_le _, rfl, H5, b5⟩
                      case round =>
                        clear H5 b5 hb3
                        obtain ⟨q, hq, rfl, H, hbl⟩ := hrel
                        by_cases hqlt : q < n2
                        · have hql : q < ls5.length := by rw [(unhide HNL)]; exact hqlt
                          have hlq : ls5[q]? = some ls5[q] := List.getElem?_eq_getElem hql
                          obtain ⟨hrq, hsq, hmq⟩ := (unhide HSH).lv q _ hlq
                          generalize ls5[q] = lq at hlq hrq hsq hmq
                          clear hql
                          by_cases hqk : q = kn
                          · rw [if_pos hqk] at hmq
                            as_aux_lemma =>
                              have zR : lq.runs.map RunV.n = rzs ++ [tag] := by rw [hrq, pushR_n, if_pos hqk, HRO.out]
                              have lR : lq.runs.length = m + 1 := by rw [← List.length_map (f := RunV.n), zR, List.length_append, HMM.out]; rfl
                              have zS : lq.spare.map RunV.n = (rowAt spares1 q).zs := by rw [hsq, pushS_n, if_neg (by omega)]
                              have lS : lq.spare.length = (rowAt spares1 q).zs.length := by rw [← List.length_map (f := RunV.n), zS]
                              have ql := rowAt_len HM1 q
                              have qs := rowAt_len HM2 q
                              have T42 := runTags_at H _ q rfl lq hlq (by omega)
                              rw [zR, lR] at T42
                              have HT42 := hide T42
                              have HLQ : Hid (ls5[q]? = some lq) := hlq
                              have HZS : Hid (_ = _) := zS
                              have HLS : Hid (_ = _) := lS
                              have HMQ : Hid (_ = _) := hmq
                              have hra : RRd wr a1' runs1 := hr1.below' hb2 hbl HB.out
                              have hrs : RRd wr a2' spares1 := hr2.below (by rw [HB.out]; exact hbl)
                              clear T42 zR zS lS hrq hsq hmq hlq
                              have hd2 : ((q : Int) == (kn : Int)) = true := by simp; omega
                              have hd3 : ((q : Int) == (kn : Int) + 1) = false := by simp; omega
                              have HQK : Hid (q = kn) := hqk
                              clear hqk lR
                              go_wp2_with fail
                              refine (unhide HT42).mono ?_
                              rintro e wa ⟨rfl, hra3, hba⟩
                              have Ha := H.below hba
                              have hrra := hra.below hba
                              have hrrs := hrs.below hba
                              have Z30 : Calls Try.prog 30 #[.slice a1' n1 c1', .int .i64 q] wa fun e w'' => e = .returned (.slice ra m rc) ∧ w'' = wa := by
                                have := zzRow_any a1' n1 c1' runs1 HL1.out wa hrra _ q rfl
                                rw [HQK.out, HRO.out] at this
                                rw [HQK.out]
                                simp only [HMM.out] at this
                                exact this
                              have HZ30 := hide Z30
                              have hrown : RRow wa ⟨ra, rc, rzs⟩ := by rw [← HRO.out]; exact hrra.rowAt kn
                              have HRN : Hid (Rd wa ra (rzs.map (Value.int .i64))) := hrown.1
                              clear Z30 hrown
                              go_wp2_with fail
                              refine same_calls (unhide HZ30) ?_
                              go_wp2_with fail
                              refine (intsEqual_any (some ⟨wr.heap.size, 0, none⟩) ra m (m + 1) rc rzs HMM.out (by omega) _ (by have := rd_take hra3 m; rw [List.take_append_of_le_length (by rw [HMM.out]; exact Nat.le_refl _), List.take_of_length_le (by rw [HMM.out]; exact Nat.le_refl _)] at this; exact this) HRN.out).mono ?_
                              rintro e wb ⟨rfl, hbb⟩
                              have Hb := Ha.below hbb
                              have hrrb := hrrs.below hbb
                              have dtag : wb.cell? ⟨wr.heap.size, m, none⟩ = some (.int .i64 tag) := by
                                obtain ⟨b0, off0, e0, hc0⟩ := (hra3.below' hbb) m (.int .i64 tag) (by rw [← HMM.out]; simp)
                                cases e0
                                simpa using hc0
                              go_wp2_with fail
                              refine same_calls (zzRow_any a2' n2 c2' spares1 HL2.out wb hrrb _ q rfl) ?_
                              have T33 := spareTags_any Hb _ q rfl lq HLQ.out (by rw [HLS.out]; omega)
                              rw [HZS.out, HLS.out] at T33
                              have HT33 := hide T33
                              clear T33
                              go_wp2_with fail
                              refine (unhide HT33).mono ?_
                              rintro e wc ⟨a3, c3, rfl, hrc, hbc⟩
                              have Hc := Hb.below hbc
                              have hrrc := hrrb.below hbc
                              go_wp2_with fail
                              refine (intsEqual_any a3 _ _ c3 _ (rowAt spares1 q).zs rfl (by omega) _ hrc (hrrc.rowAt q).1).mono ?_
                              rintro e wd ⟨rfl, hbd⟩
                              have Hd := Hc.below hbd
                              have hrrd := hrrc.below hbd
                              have T35 := mergedShape_any Hd _ q rfl lq HLQ.out
                              rw [HMQ.out] at T35
                              have HT35 := hide T35
                              clear T35
                              go_wp2_with fail
                              refine (unhide HT35).mono ?_
                              rintro e we ⟨rfl, hbe⟩
                              have He := Hd.below hbe
                              have hbE : Below B w2 we := ((((hbl.trans (hba.mono H.base_le)).trans (hbb.mono Ha.base_le)).trans (hbc.mono Hb.base_le)).trans (hbd.mono Hc.base_le)).trans (hbe.mono Hd.base_le)
                              have Z32 : Calls Try.prog 30 #[.slice a2' n2 c2', .int .i64 ((kn : Int) + 1)] we fun e w'' => e = .returned (.slice xa 0 xc) ∧ w'' = we := by
                                have := zzRow_any a2' n2 c2' spares1 HL2.out we (hrrd.below hbe) ((kn : Int) + 1) (kn + 1) (by omega)
                                rw [HNX.out] at this
                                simp only [HMX.out] at this
                                exact this
                              have HZ32 := hide Z32
                              obtain ⟨f1, f2, f3, f4, f5⟩ := HFR.out
                              clear Z32
                              go_wp2_with fail
                              refine same_calls (unhide HZ32) ?_
                              go_wp2_with fail
                              refine same_calls (freshPieces_any _ (kn + 1) (by omega) (by omega) _) ?_
                              go_wp2_with fail
                              go_roundw
                              case rel => exact ⟨q + 1, by omega, by go_num, He, hbE⟩
                              case measure => simp [intOf]; omega
                          · rw [if_neg hqk] at hmq
                            by_cases hqk1 : q = kn + 1
                            · as_aux_lemma =>
                                have zR : lq.runs.map RunV.n = (rowAt runs1 q).zs := by rw [hrq, pushR_n, if_neg (by omega)]
                                have lR : lq.runs.length = (rowAt runs1 q).zs.length := by rw [← List.length_map (f := RunV.n), zR]
                                have zS : lq.spare.map RunV.n = xzs.take (0 - 1) := by
                                  rw [hsq, pushS_n, if_pos hqk1, HNX.out]
                                  show xzs.take (xzs.length - 1) = _
                                  rw [HMX.out]
                                have lS : lq.spare.length = 0 - 1 := by rw [← List.length_map (f := RunV.n), zS, List.length_take]; have := HMX.out; omega
                                have ql := rowAt_len HM1 q
                                have qs := rowAt_len HM2 q
                                have T42 := runTags_at H _ q rfl lq hlq (by omega)
                                rw [zR, lR] at T42
                                have HT42 := hide T42
                                have HLQ : Hid (ls5[q]? = some lq) := hlq
                                have HZS : Hid (_ = _) := zS
                                have HLS : Hid (_ = _) := lS
                                have HMQ : Hid (_ = _) := hmq
                                have hra : RRd wr a1' runs1 := hr1.below' hb2 hbl HB.out
                                have hrs : RRd wr a2' spares1 := hr2.below (by rw [HB.out]; exact hbl)
                                clear T42 zR zS lS hrq hsq hmq hlq
                                have hd2 : ((q : Int) == (kn : Int)) = false := by simp; omega
                                have hd3 : ((q : Int) == (kn : Int) + 1) = true := by simp; omega
                                have HQK1 : Hid (q = kn + 1) := hqk1
                                clear hqk hqk1 lR
                                go_wp2_with fail
                                refine (unhide HT42).mono ?_
                                rintro e wa ⟨rfl, hra3, hba⟩
                                have Ha := H.below hba
                                have hrra := hra.below hba
                                have hrrs := hrs.below hba
                                go_wp2_with fail
                                refine same_calls (zzRow_any a1' n1 c1' runs1 HL1.out wa hrra _ q rfl) ?_
                                go_wp2_with fail
                                refine (intsEqual_any (some ⟨wr.heap.size, 0, none⟩) _ _ _ _ (rowAt runs1 q).zs rfl (by omega) _ hra3 (hrra.rowAt q).1).mono ?_
                                rintro e wb ⟨rfl, hbb⟩
                                have Hb := Ha.below hbb
                                have hrrb := hrrs.below hbb
                                have Z31 : Calls Try.prog 30 #[.slice a2' n2 c2', .int .i64 q] wb fun e w'' => e = .returned (.slice xa 0 xc) ∧ w'' = wb := by
                                  have := zzRow_any a2' n2 c2' spares1 HL2.out wb hrrb _ q rfl
                                  rw [HQK1.out, HNX.out] at this
                                  rw [HQK1.out]
                                  simp only [HMX.out] at this
                                  exact this
                                have HZ31 := hide Z31
                                have hxown : RRow wb ⟨xa, xc, xzs⟩ := by rw [← HNX.out]; exact hrrb.rowAt (kn + 1)
                                have hxc : 0 ≤ xc := by have := hxown.2.2; simp only [HMX.out] at this; exact this
                                have HXR : Hid (Rd wb xa ((xzs.take (0 - 1)).map (Value.int .i64))) := rd_take hxown.1 (0 - 1)
                                clear Z31 hxown
                                go_wp2_with fail
                                refine same_calls (unhide HZ31) ?_
                                have T33 := spareTags_any Hb _ q rfl lq HLQ.out (by rw [HLS.out]; omega)
                                rw [HZS.out, HLS.out] at T33
                                have HT33 := hide T33
                                clear T33
                                go_wp2_with fail
                                refine (unhide HT33).mono ?_
                                rintro e wc ⟨a3, c3, rfl, hrc, hbc⟩
                                have Hc := Hb.below hbc
                                have hrrc := hrrb.below hbc
                                go_wp2_with fail
                                refine (intsEqual_any a3 xa (0 - 1) c3 xc (xzs.take (0 - 1)) (by rw [List.length_take, HMX.out]; omega) (by omega) _ hrc (HXR.out.below' hbc)).mono ?_
                                rintro e wd ⟨rfl, hbd⟩
                                have Hd := Hc.below hbd
                                have hrrd := hrrc.below hbd
                                have T35 := mergedShape_any Hd _ q rfl lq HLQ.out
                                rw [HMQ.out] at T35
                                have HT35 := hide T35
                                clear T35
                                go_wp2_with fail
                                refine (unhide HT35).mono ?_
                                rintro e we ⟨rfl, hbe⟩
                                have He := Hd.below hbe
                                have hbE : Below B w2 we := ((((hbl.trans (hba.mono H.base_le)).trans (hbb.mono Ha.base_le)).trans (hbc.mono Hb.base_le)).trans (hbd.mono Hc.base_le)).trans (hbe.mono Hd.base_le)
                                simp only [run0]
                                go_wp2_with fail
                                go_roundw
                                case rel => exact ⟨q + 1, by omega, by go_num, He, hbE⟩
                                case measure => simp [intOf]; omega
                            · as_aux_lemma =>
                                have zR : lq.runs.map RunV.n = (rowAt runs1 q).zs := by rw [hrq, pushR_n, if_neg (by omega)]
                                have lR : lq.runs.length = (rowAt runs1 q).zs.length := by rw [← List.length_map (f := RunV.n), zR]
                                have zS : lq.spare.map RunV.n = (rowAt spares1 q).zs := by rw [hsq, pushS_n, if_neg (by omega)]
                                have lS : lq.spare.length = (rowAt spares1 q).zs.length := by rw [← List.length_map (f := RunV.n), zS]
                                have ql := rowAt_len HM1 q
                                have qs := rowAt_len HM2 q
                                have T42 := runTags_at H _ q rfl lq hlq (by omega)
                                rw [zR, lR] at T42
                                have HT42 := hide T42
                                have HLQ : Hid (ls5[q]? = some lq) := hlq
                                have HZS : Hid (_ = _) := zS
                                have HLS : Hid (_ = _) := lS
                                have HMQ : Hid (_ = _) := hmq
                                have hra : RRd wr a1' runs1 := hr1.below' hb2 hbl HB.out
                                have hrs : RRd wr a2' spares1 := hr2.below (by rw [HB.out]; exact hbl)
                                clear T42 zR zS lS hrq hsq hmq hlq
                                have hd2 : ((q : Int) == (kn : Int)) = false := by simp; omega
                                have hd3 : ((q : Int) == (kn : Int) + 1) = false := by simp; omega
                                clear hqk lR
                                clear hqk1
                                go_wp2_with fail
                                refine (unhide HT42).mono ?_
                                rintro e wa ⟨rfl, hra3, hba⟩
                                have Ha := H.below hba
                                have hrra := hra.below hba
                                have hrrs := hrs.below hba
                                go_wp2_with fail
                                refine same_calls (zzRow_any a1' n1 c1' runs1 HL1.out wa hrra _ q rfl) ?_
                                go_wp2_with fail
                                refine (intsEqual_any (some ⟨wr.heap.size, 0, none⟩) _ _ _ _ (rowAt runs1 q).zs rfl (by omega) _ hra3 (hrra.rowAt q).1).mono ?_
                                rintro e wb ⟨rfl, hbb⟩
                                have Hb := Ha.below hbb
                                have hrrb := hrrs.below hbb
                                go_wp2_with fail
                                refine same_calls (zzRow_any a2' n2 c2' spares1 HL2.out wb hrrb _ q rfl) ?_
                                have T33 := spareTags_any Hb _ q rfl lq HLQ.out (by rw [HLS.out]; omega)
                                rw [HZS.out, HLS.out] at T33
                                have HT33 := hide T33
                                clear T33
                                go_wp2_with fail
                                refine (unhide HT33).mono ?_
                                rintro e wc ⟨a3, c3, rfl, hrc, hbc⟩
                                have Hc := Hb.below hbc
                                have hrrc := hrrb.below hbc
                                go_wp2_with fail
                                refine (intsEqual_any a3 _ _ c3 _ (rowAt spares1 q).zs rfl (by omega) _ hrc (hrrc.rowAt q).1).mono ?_
                                rintro e wd ⟨rfl, hbd⟩
                                have Hd := Hc.below hbd
                                have hrrd := hrrc.below hbd
                                have T35 := mergedShape_any Hd _ q rfl lq HLQ.out
                                rw [HMQ.out] at T35
                                have HT35 := hide T35
                                clear T35
                                go_wp2_with fail
                                refine (unhide HT35).mono ?_
                                rintro e we ⟨rfl, hbe⟩
                                have He := Hd.below hbe
                                have hbE : Below B w2 we := ((((hbl.trans (hba.mono H.base_le)).trans (hbb.mono Ha.base_le)).trans (hbc.mono Hb.base_le)).trans (hbd.mono Hc.base_le)).trans (hbe.mono Hd.base_le)
                                simp only [run0]
                                go_wp2_with fail
                                go_roundw
                                case rel => exact ⟨q + 1, by omega, by go_num, He, hbE⟩
                                case measure => simp [intOf]; omega
                        · go_wp2
                          go_ret
                          exact ⟨rfl, (hb1.trans (hb2.mono hb1.size)).trans (hbl.mono (by rw [← HB.out]; have := hb1.size; have := hb2.size; omega))⟩
                  · obtain ⟨b', off', ea', hbB, d0'⟩ := own_cell rfl hnown (j := xzs.length - 1) (by show xzs.length - 1 < xzs.length; rw [HMX.out]; omega)
                    simp only [] at ea'
                    subst ea'
                    simp only [HMX.out] at d0'
                    generalize hz : xzs.getD (mx - 1) 0 = z at d0'
                    have HDZ0 := hide d0'
                    have HZE := hide hz
                    clear d0' hz
                    as_aux_lemma =>
                      have ht : ((m : Int) + 1 == 2) = true := by simp; omega
                      have hk1 : ((kn : Int) + 1 == (n2 : Int)) = false := by simp; omega
                      go_wp2_with fail
                      refine (newHist_all a1' a2' n1 c1' n2 c2' runs1 spares1 HL1.out HL2.out (by omega) (by omega) n2 (by omega) mg _ (hr1.below hb2) hr2 HM1 HM2).mono ?_
                      rintro e w3 ⟨rfl, la, lc, ls, H3, hb3, hsh3⟩
                      generalize hB : w2.heap.size = B at *
                      have HB : Hid (w2.heap.size = B) := hB
                      clear hB
                      have hkl : kn < ls.length := by rw [hsh3.len]; omega
                      have hlk : ls[kn]? = some ls[kn] := List.getElem?_eq_getElem hkl
                      have hPS := fun ls5 mg5 (hp : PushRel ls mg kn ls[kn] (tagRun tag) ls5 mg5) => push_shape (by rw [HL1.out, HL2.out]; omega) (by omega) hsh3 hlk hp
                      have hln : ls[kn].runs.length ≤ 1000000 := by rw [(hsh3.lv kn _ hlk).1, tags_len]; have := rowAt_len HM1 kn; omega
                      generalize ls[kn] = l at hlk hPS hln
                      simp only [HRO.out, HNX.out, HMM.out, HMX.out] at hPS
                      have HLK : Hid (ls[kn]? = some l) := hlk
                      have HPS := hide hPS
                      clear hlk hPS hsh3 hkl
                      go_wp2_with fail
                      refine (tagRun_any tag _).mono ?_
                      rintro e w4 ⟨rfl, hb4⟩
                      have H4 := H3.below hb4
                      have bl4 : Below B w2 w4 := hb3.trans (hb4.mono H3.base_le)
                      go_wp2_with fail
                      refine (zzpush_any _ B B la lc ls mg H4 _ kn rfl (by omega) l HLK.out hln ⟨tag, none, 0, 0, none, 0, 0⟩).mono ?_
                      rintro e w5 ⟨rfl, la5, lc5, ls5, mg5, H5, F5, R5⟩
                      have b5 : Below B w2 w5 := bl4.trans (F5.below H4)
                      obtain ⟨rfl, rr, hsh5, hfr0, hfr1⟩ := ((unhide HPS) ls5 mg5 R5).2 (by omega)
                      rw [if_neg (by omega)] at hsh5
                      have err := hfr1 (by omega)
                      rw [unhide HZE] at err
                      subst err
                      have HDZ : Hid (∀ w' : World, Below B w2 w' → w'.cell? ⟨b', off' + (mx - 1), none⟩ = some (.int .i64 z)) := unhide HDZ0
                      have HSH := hide hsh5
                      have HNL := hide hsh5.len
                      clear hsh5 R5 hfr0 hfr1
                      have Z0 : Calls Try.prog 30 #[.slice a1' n1 c1', .int .i64 kn] w5 fun e w'' => e = .returned (.slice ra m rc) ∧ w'' = w5 := by
                        have := zzRow_any a1' n1 c1' runs1 HL1.out w5 (hr1.below' hb2 b5 HB.out) _ kn rfl
                        rw [HRO.out] at this
                        simp only [HMM.out] at this
                        exact this
                      have HZ0 := hide Z0
                      have Z28 := levelCount_any H5
                      rw [unhide HNL] at Z28
                      have HZ28 := hide Z28
                      clear Z0 Z28
                      go_wp2_with fail
                      refine same_calls (unhide HZ0) ?_
                      go_wp2_with fail
                      refine same_calls (unhide HZ28) ?_
                      go_wp2_with fail
                      refine same_calls (merging_any H5) ?_
                      simp only [orBit]
                      go_wp2_with fail
                      clear H3 H4 F5 hb4
                      go_loopw [19] (fun i wr => ∃ q : Nat, q ≤ n2 ∧ i = .int .i64 q ∧ Hist wr B B la5 lc5 ls5 (orBit mg kn) ∧ Below B w2 wr) (fun i _ => n2 - (intOf i).toNat)
                      case atStart => exact ⟨0, Nat.zero_le _, rfl, H5, b5⟩
                      case round =>
                        clear H5 b5 hb3
                        obtain ⟨q, hq, rfl, H, hbl⟩ := hrel
                        by_cases hqlt : q < n2
                        · have hql : q < ls5.length := by rw [(unhide HNL)]; exact hqlt
                          have hlq : ls5[q]? = some ls5[q] := List.getElem?_eq_getElem hql
                          obtain ⟨hrq, hsq, hmq⟩ := (unhide HSH).lv q _ hlq
                          generalize ls5[q] = lq at hlq hrq hsq hmq
                          clear hql
                          by_cases hqk : q = kn
                          · rw [if_pos hqk] at hmq
                            as_aux_lemma =>
                              have zR : lq.runs.map RunV.n = rzs ++ [tag] := by rw [hrq, pushR_n, if_pos hqk, HRO.out]
                              have lR : lq.runs.length = m + 1 := by rw [← List.length_map (f := RunV.n), zR, List.length_append, HMM.out]; rfl
                              have zS : lq.spare.map RunV.n = (rowAt spares1 q).zs := by rw [hsq, pushS_n, if_neg (by omega)]
                              have lS : lq.spare.length = (rowAt spares1 q).zs.length := by rw [← List.length_map (f := RunV.n), zS]
                              have ql := rowAt_len HM1 q
                              have qs := rowAt_len HM2 q
                              have T42 := runTags_at H _ q rfl lq hlq (by omega)
                              rw [zR, lR] at T42
                              have HT42 := hide T42
                              have HLQ : Hid (ls5[q]? = some lq) := hlq
                              have HZS : Hid (_ = _) := zS
                              have HLS : Hid (_ = _) := lS
                              have HMQ : Hid (_ = _) := hmq
                              have hra : RRd wr a1' runs1 := hr1.below' hb2 hbl HB.out
                              have hrs : RRd wr a2' spares1 := hr2.below (by rw [HB.out]; exact hbl)
                              clear T42 zR zS lS hrq hsq hmq hlq
                              have hd2 : ((q : Int) == (kn : Int)) = true := by simp; omega
                              have hd3 : ((q : Int) == (kn : Int) + 1) = false := by simp; omega
                              have HQK : Hid (q = kn) := hqk
                              clear hqk lR
                              go_wp2_with fail
                              refine (unhide HT42).mono ?_
                              rintro e wa ⟨rfl, hra3, hba⟩
                              have Ha := H.below hba
                              have hrra := hra.below hba
                              have hrrs := hrs.below hba
                              have Z30 : Calls Try.prog 30 #[.slice a1' n1 c1', .int .i64 q] wa fun e w'' => e = .returned (.slice ra m rc) ∧ w'' = wa := by
                                have := zzRow_any a1' n1 c1' runs1 HL1.out wa hrra _ q rfl
                                rw [HQK.out, HRO.out] at this
                                rw [HQK.out]
                                simp only [HMM.out] at this
                                exact this
                              have HZ30 := hide Z30
                              have hrown : RRow wa ⟨ra, rc, rzs⟩ := by rw [← HRO.out]; exact hrra.rowAt kn
                              have HRN : Hid (Rd wa ra (rzs.map (Value.int .i64))) := hrown.1
                              clear Z30 hrown
                              go_wp2_with fail
                              refine same_calls (unhide HZ30) ?_
                              go_wp2_with fail
                              refine (intsEqual_any (some ⟨wr.heap.size, 0, none⟩) ra m (m + 1) rc rzs HMM.out (by omega) _ (by have := rd_take hra3 m; rw [List.take_append_of_le_length (by rw [HMM.out]; exact Nat.le_refl _), List.take_of_length_le (by rw [HMM.out]; exact Nat.le_refl _)] at this; exact this) HRN.out).mono ?_
                              rintro e wb ⟨rfl, hbb⟩
                              have Hb := Ha.below hbb
                              have hrrb := hrrs.below hbb
                              have dtag : wb.cell? ⟨wr.heap.size, m, none⟩ = some (.int .i64 tag) := by
                                obtain ⟨b0, off0, e0, hc0⟩ := (hra3.below' hbb) m (.int .i64 tag) (by rw [← HMM.out]; simp)
                                cases e0
                                simpa using hc0
                              go_wp2_with fail
                              refine same_calls (zzRow_any a2' n2 c2' spares1 HL2.out wb hrrb _ q rfl) ?_
                              have T33 := spareTags_any Hb _ q rfl lq HLQ.out (by rw [HLS.out]; omega)
                              rw [HZS.out, HLS.out] at T33
                              have HT33 := hide T33
                              clear T33
                              go_wp2_with fail
                              refine (unhide HT33).mono ?_
                              rintro e wc ⟨a3, c3, rfl, hrc, hbc⟩
                              have Hc := Hb.below hbc
                              have hrrc := hrrb.below hbc
                              go_wp2_with fail
                              refine (intsEqual_any a3 _ _ c3 _ (rowAt spares1 q).zs rfl (by omega) _ hrc (hrrc.rowAt q).1).mono ?_
                              rintro e wd ⟨rfl, hbd⟩
                              have Hd := Hc.below hbd
                              have hrrd := hrrc.below hbd
                              have T35 := mergedShape_any Hd _ q rfl lq HLQ.out
                              rw [HMQ.out] at T35
                              have HT35 := hide T35
                              clear T35
                              go_wp2_with fail
                              refine (unhide HT35).mono ?_
                              rintro e we ⟨rfl, hbe⟩
                              have He := Hd.below hbe
                              have hbE : Below B w2 we := ((((hbl.trans (hba.mono H.base_le)).trans (hbb.mono Ha.base_le)).trans (hbc.mono Hb.base_le)).trans (hbd.mono Hc.base_le)).trans (hbe.mono Hd.base_le)
                              simp only [tagRun]
                              have Z32 : Calls Try.prog 30 #[.slice a2' n2 c2', .int .i64 ((kn : Int) + 1)] we fun e w'' => e = .returned (.slice (some ⟨b', off', none⟩) mx xc) ∧ w'' = we := by
                                have := zzRow_any a2' n2 c2' spares1 HL2.out we (hrrd.below hbe) ((kn : Int) + 1) (kn + 1) (by omega)
                                rw [HNX.out] at this
                                simp only [HMX.out] at this
                                exact this
                              have HZ32 := hide Z32
                              have dz := HDZ.out we hbE
                              clear Z32
                              go_wp2_with fail
                              refine same_calls (unhide HZ32) ?_
                              go_wp2_with fail
                              go_roundw
                              case rel => exact ⟨q + 1, by omega, by go_num, He, hbE⟩
                              case measure => simp [intOf]; omega
                          · rw [if_neg hqk] at hmq
                            by_cases hqk1 : q = kn + 1
                            · as_aux_lemma =>
                                have zR : lq.runs.map RunV.n = (rowAt runs1 q).zs := by rw [hrq, pushR_n, if_neg (by omega)]
                                have lR : lq.runs.length = (rowAt runs1 q).zs.length := by rw [← List.length_map (f := RunV.n), zR]
                                have zS : lq.spare.map RunV.n = xzs.take (mx - 1) := by
                                  rw [hsq, pushS_n, if_pos hqk1, HNX.out]
                                  show xzs.take (xzs.length - 1) = _
                                  rw [HMX.out]
                                have lS : lq.spare.length = mx - 1 := by rw [← List.length_map (f := RunV.n), zS, List.length_take]; have := HMX.out; omega
                                have ql := rowAt_len HM1 q
                                have qs := rowAt_len HM2 q
                                have T42 := runTags_at H _ q rfl lq hlq (by omega)
                                rw [zR, lR] at T42
                                have HT42 := hide T42
                                have HLQ : Hid (ls5[q]? = some lq) := hlq
                                have HZS : Hid (_ = _) := zS
                                have HLS : Hid (_ = _) := lS
                                have HMQ : Hid (_ = _) := hmq
                                have hra : RRd wr a1' runs1 := hr1.below' hb2 hbl HB.out
                                have hrs : RRd wr a2' spares1 := hr2.below (by rw [HB.out]; exact hbl)
                                clear T42 zR zS lS hrq hsq hmq hlq
                                have hd2 : ((q : Int) == (kn : Int)) = false := by simp; omega
                                have hd3 : ((q : Int) == (kn : Int) + 1) = true := by simp; omega
                                have HQK1 : Hid (q = kn + 1) := hqk1
                                clear hqk hqk1 lR
                                go_wp2_with fail
                                refine (unhide HT42).mono ?_
                                rintro e wa ⟨rfl, hra3, hba⟩
                                have Ha := H.below hba
                                have hrra := hra.below hba
                                have hrrs := hrs.below hba
                                go_wp2_with fail
                                refine same_calls (zzRow_any a1' n1 c1' runs1 HL1.out wa hrra _ q rfl) ?_
                                go_wp2_with fail
                                refine (intsEqual_any (some ⟨wr.heap.size, 0, none⟩) _ _ _ _ (rowAt runs1 q).zs rfl (by omega) _ hra3 (hrra.rowAt q).1).mono ?_
                                rintro e wb ⟨rfl, hbb⟩
                                have Hb := Ha.below hbb
                                have hrrb := hrrs.below hbb
                                have Z31 : Calls Try.prog 30 #[.slice a2' n2 c2', .int .i64 q] wb fun e w'' => e = .returned (.slice (some ⟨b', off', none⟩) mx xc) ∧ w'' = wb := by
                                  have := zzRow_any a2' n2 c2' spares1 HL2.out wb hrrb _ q rfl
                                  rw [HQK1.out, HNX.out] at this
                                  rw [HQK1.out]
                                  simp only [HMX.out] at this
                                  exact this
                                have HZ31 := hide Z31
                                have hxown : RRow wb ⟨(some ⟨b', off', none⟩), xc, xzs⟩ := by rw [← HNX.out]; exact hrrb.rowAt (kn + 1)
                                have hxc : mx ≤ xc := by have := hxown.2.2; simp only [HMX.out] at this; exact this
                                have HXR : Hid (Rd wb (some ⟨b', off', none⟩) ((xzs.take (mx - 1)).map (Value.int .i64))) := rd_take hxown.1 (mx - 1)
                                clear Z31 hxown
                                go_wp2_with fail
                                refine same_calls (unhide HZ31) ?_
                                have T33 := spareTags_any Hb _ q rfl lq HLQ.out (by rw [HLS.out]; omega)
                                rw [HZS.out, HLS.out] at T33
                                have HT33 := hide T33
                                clear T33
                                go_wp2_with fail
                                refine (unhide HT33).mono ?_
                                rintro e wc ⟨a3, c3, rfl, hrc, hbc⟩
                                have Hc := Hb.below hbc
                                have hrrc := hrrb.below hbc
                                go_wp2_with fail
                                refine (intsEqual_any a3 (some ⟨b', off', none⟩) (mx - 1) c3 xc (xzs.take (mx - 1)) (by rw [List.length_take, HMX.out]; omega) (by omega) _ hrc (HXR.out.below' hbc)).mono ?_
                                rintro e wd ⟨rfl, hbd⟩
                                have Hd := Hc.below hbd
                                have hrrd := hrrc.below hbd
                                have T35 := mergedShape_any Hd _ q rfl lq HLQ.out
                                rw [HMQ.out] at T35
                                have HT35 := hide T35
                                clear T35
                                go_wp2_with fail
                                refine (unhide HT35).mono ?_
                                rintro e we ⟨rfl, hbe⟩
                                have He := Hd.below hbe
                                have hbE : Below B w2 we := ((((hbl.trans (hba.mono H.base_le)).trans (hbb.mono Ha.base_le)).trans (hbc.mono Hb.base_le)).trans (hbd.mono Hc.base_le)).trans (hbe.mono Hd.base_le)
                                simp only [run0]
                                go_wp2_with fail
                                go_roundw
                                case rel => exact ⟨q + 1, by omega, by go_num, He, hbE⟩
                                case measure => simp [intOf]; omega
                            · as_aux_lemma =>
                                have zR : lq.runs.map RunV.n = (rowAt runs1 q).zs := by rw [hrq, pushR_n, if_neg (by omega)]
                                have lR : lq.runs.length = (rowAt runs1 q).zs.length := by rw [← List.length_map (f := RunV.n), zR]
                                have zS : lq.spare.map RunV.n = (rowAt spares1 q).zs := by rw [hsq, pushS_n, if_neg (by omega)]
                                have lS : lq.spare.length = (rowAt spares1 q).zs.length := by rw [← List.length_map (f := RunV.n), zS]
                                have ql := rowAt_len HM1 q
                                have qs := rowAt_len HM2 q
                                have T42 := runTags_at H _ q rfl lq hlq (by omega)
                                rw [zR, lR] at T42
                                have HT42 := hide T42
                                have HLQ : Hid (ls5[q]? = some lq) := hlq
                                have HZS : Hid (_ = _) := zS
                                have HLS : Hid (_ = _) := lS
                                have HMQ : Hid (_ = _) := hmq
                                have hra : RRd wr a1' runs1 := hr1.below' hb2 hbl HB.out
                                have hrs : RRd wr a2' spares1 := hr2.below (by rw [HB.out]; exact hbl)
                                clear T42 zR zS lS hrq hsq hmq hlq
                                have hd2 : ((q : Int) == (kn : Int)) = false := by simp; omega
                                have hd3 : ((q : Int) == (kn : Int) + 1) = false := by simp; omega
                                clear hqk lR
                                clear hqk1
                                go_wp2_with fail
                                refine (unhide HT42).mono ?_
                                rintro e wa ⟨rfl, hra3, hba⟩
                                have Ha := H.below hba
                                have hrra := hra.below hba
                                have hrrs := hrs.below hba
                                go_wp2_with fail
                                refine same_calls (zzRow_any a1' n1 c1' runs1 HL1.out wa hrra _ q rfl) ?_
                                go_wp2_with fail
                                refine (intsEqual_any (some ⟨wr.heap.size, 0, none⟩) _ _ _ _ (rowAt runs1 q).zs rfl (by omega) _ hra3 (hrra.rowAt q).1).mono ?_
                                rintro e wb ⟨rfl, hbb⟩
                                have Hb := Ha.below hbb
                                have hrrb := hrrs.below hbb
                                go_wp2_with fail
                                refine same_calls (zzRow_any a2' n2 c2' spares1 HL2.out wb hrrb _ q rfl) ?_
                                have T33 := spareTags_any Hb _ q rfl lq HLQ.out (by rw [HLS.out]; omega)
                                rw [HZS.out, HLS.out] at T33
                                have HT33 := hide T33
                                clear T33
                                go_wp2_with fail
                                refine (unhide HT33).mono ?_
                                rintro e wc ⟨a3, c3, rfl, hrc, hbc⟩
                                have Hc := Hb.below hbc
                                have hrrc := hrrb.below hbc
                                go_wp2_with fail
                                refine (intsEqual_any a3 _ _ c3 _ (rowAt spares1 q).zs rfl (by omega) _ hrc (hrrc.rowAt q).1).mono ?_
                                rintro e wd ⟨rfl, hbd⟩
                                have Hd := Hc.below hbd
                                have hrrd := hrrc.below hbd
                                have T35 := mergedShape_any Hd _ q rfl lq HLQ.out
                                rw [HMQ.out] at T35
                                have HT35 := hide T35
                                clear T35
                                go_wp2_with fail
                                refine (unhide HT35).mono ?_
                                rintro e we ⟨rfl, hbe⟩
                                have He := Hd.below hbe
                                have hbE : Below B w2 we := ((((hbl.trans (hba.mono H.base_le)).trans (hbb.mono Ha.base_le)).trans (hbc.mono Hb.base_le)).trans (hbd.mono Hc.base_le)).trans (hbe.mono Hd.base_le)
                                simp only [run0]
                                go_wp2_with fail
                                go_roundw
                                case rel => exact ⟨q + 1, by omega, by go_num, He, hbE⟩
                                case measure => simp [intOf]; omega
                        · go_wp2
                          go_ret
                          exact ⟨rfl, (hb1.trans (hb2.mono hb1.size)).trans (hbl.mono (by rw [← HB.out]; have := hb1.size; have := hb2.size; omega))⟩
              · as_aux_lemma =>
                  have ht : ((m : Int) + 1 == 2) = false := by simp; omega
                  go_wp2_with fail
                  refine (newHist_all a1' a2' n1 c1' n2 c2' runs1 spares1 HL1.out HL2.out (by omega) (by omega) n2 (by omega) mg _ (hr1.below hb2) hr2 HM1 HM2).mono ?_
                  rintro e w3 ⟨rfl, la, lc, ls, H3, hb3, hsh3⟩
                  generalize hB : w2.heap.size = B at *
                  have HB : Hid (w2.heap.size = B) := hB
                  clear hB
                  have hkl : kn < ls.length := by rw [hsh3.len]; omega
                  have hlk : ls[kn]? = some ls[kn] := List.getElem?_eq_getElem hkl
                  have hPS := fun ls5 mg5 (hp : PushRel ls mg kn ls[kn] (tagRun tag) ls5 mg5) => push_shape (by rw [HL1.out, HL2.out]; omega) (by omega) hsh3 hlk hp
                  have hln : ls[kn].runs.length ≤ 1000000 := by rw [(hsh3.lv kn _ hlk).1, tags_len]; have := rowAt_len HM1 kn; omega
                  generalize ls[kn] = l at hlk hPS hln
                  simp only [HRO.out, HNX.out, HMM.out, HMX.out] at hPS
                  have HLK : Hid (ls[kn]? = some l) := hlk
                  have HPS := hide hPS
                  clear hlk hPS hsh3 hkl
                  go_wp2_with fail
                  refine (tagRun_any tag _).mono ?_
                  rintro e w4 ⟨rfl, hb4⟩
                  have H4 := H3.below hb4
                  have bl4 : Below B w2 w4 := hb3.trans (hb4.mono H3.base_le)
                  go_wp2_with fail
                  refine (zzpush_any _ B B la lc ls mg H4 _ kn rfl (by omega) l HLK.out hln ⟨tag, none, 0, 0, none, 0, 0⟩).mono ?_
                  rintro e w5 ⟨rfl, la5, lc5, ls5, mg5, H5, F5, R5⟩
                  have b5 : Below B w2 w5 := bl4.trans (F5.below H4)
                  obtain ⟨rfl, hsh5⟩ := ((unhide HPS) ls5 mg5 R5).1 (by omega)
                  have HSH := hide hsh5
                  have HNL := hide hsh5.len
                  clear hsh5 R5
                  have Z0 : Calls Try.prog 30 #[.slice a1' n1 c1', .int .i64 kn] w5 fun e w'' => e = .returned (.slice ra m rc) ∧ w'' = w5 := by
                    have := zzRow_any a1' n1 c1' runs1 HL1.out w5 (hr1.below' hb2 b5 HB.out) _ kn rfl
                    rw [HRO.out] at this
                    simp only [HMM.out] at this
                    exact this
                  have HZ0 := hide Z0
                  have Z28 := levelCount_any H5
                  rw [unhide HNL] at Z28
                  have HZ28 := hide Z28
                  clear Z0 Z28
                  go_wp2_with fail
                  refine same_calls (unhide HZ0) ?_
                  go_wp2_with fail
                  refine same_calls (unhide HZ28) ?_
                  go_wp2_with fail
                  refine same_calls (merging_any H5) ?_
                  go_wp2_with fail
                  clear H3 H4 F5 hb4
                  go_loopw [19] (fun i wr => ∃ q : Nat, q ≤ n2 ∧ i = .int .i64 q ∧ Hist wr B B la5 lc5 ls5 mg5 ∧ Below B w2 wr) (fun i _ => n2 - (intOf i).toNat)
                  case atStart => exact ⟨0, Nat.zero_le _, rfl, H5, b5⟩
                  case round =>
                    clear H5 b5 hb3
                    obtain ⟨q, hq, rfl, H, hbl⟩ := hrel
                    by_cases hqlt : q < n2
                    · have hql : q < ls5.length := by rw [(unhide HNL)]; exact hqlt
                      have hlq : ls5[q]? = some ls5[q] := List.getElem?_eq_getElem hql
                      obtain ⟨hrq, hsq, hmq⟩ := (unhide HSH).lv q _ hlq
                      generalize ls5[q] = lq at hlq hrq hsq hmq
                      clear hql
                      by_cases hqk : q = kn
                      · have hqk' := hqk
                        clear hqk'
                        as_aux_lemma =>
                          have zR : lq.runs.map RunV.n = rzs ++ [tag] := by rw [hrq, pushR_n, if_pos hqk, HRO.out]
                          have lR : lq.runs.length = m + 1 := by rw [← List.length_map (f := RunV.n), zR, List.length_append, HMM.out]; rfl
                          have zS : lq.spare.map RunV.n = (rowAt spares1 q).zs := by rw [hsq, tags_n]
                          have lS : lq.spare.length = (rowAt spares1 q).zs.length := by rw [← List.length_map (f := RunV.n), zS]
                          have ql := rowAt_len HM1 q
                          have qs := rowAt_len HM2 q
                          have T42 := runTags_at H _ q rfl lq hlq (by omega)
                          rw [zR, lR] at T42
                          have HT42 := hide T42
                          have HLQ : Hid (ls5[q]? = some lq) := hlq
                          have HZS : Hid (_ = _) := zS
                          have HLS : Hid (_ = _) := lS
                          have HMQ : Hid (_ = _) := hmq
                          have hra : RRd wr a1' runs1 := hr1.below' hb2 hbl HB.out
                          have hrs : RRd wr a2' spares1 := hr2.below (by rw [HB.out]; exact hbl)
                          clear T42 zR zS lS hrq hsq hmq hlq
                          have hd2 : ((q : Int) == (kn : Int)) = true := by simp; omega
                          have HQK : Hid (q = kn) := hqk
                          clear hqk lR
                          go_wp2_with fail
                          refine (unhide HT42).mono ?_
                          rintro e wa ⟨rfl, hra3, hba⟩
                          have Ha := H.below hba
                          have hrra := hra.below hba
                          have hrrs := hrs.below hba
                          have Z30 : Calls Try.prog 30 #[.slice a1' n1 c1', .int .i64 q] wa fun e w'' => e = .returned (.slice ra m rc) ∧ w'' = wa := by
                            have := zzRow_any a1' n1 c1' runs1 HL1.out wa hrra _ q rfl
                            rw [HQK.out, HRO.out] at this
                            rw [HQK.out]
                            simp only [HMM.out] at this
                            exact this
                          have HZ30 := hide Z30
                          have hrown : RRow wa ⟨ra, rc, rzs⟩ := by rw [← HRO.out]; exact hrra.rowAt kn
                          have HRN : Hid (Rd wa ra (rzs.map (Value.int .i64))) := hrown.1
                          clear Z30 hrown
                          go_wp2_with fail
                          refine same_calls (unhide HZ30) ?_
                          go_wp2_with fail
                          refine (intsEqual_any (some ⟨wr.heap.size, 0, none⟩) ra m (m + 1) rc rzs HMM.out (by omega) _ (by have := rd_take hra3 m; rw [List.take_append_of_le_length (by rw [HMM.out]; exact Nat.le_refl _), List.take_of_length_le (by rw [HMM.out]; exact Nat.le_refl _)] at this; exact this) HRN.out).mono ?_
                          rintro e wb ⟨rfl, hbb⟩
                          have Hb := Ha.below hbb
                          have hrrb := hrrs.below hbb
                          have dtag : wb.cell? ⟨wr.heap.size, m, none⟩ = some (.int .i64 tag) := by
                            obtain ⟨b0, off0, e0, hc0⟩ := (hra3.below' hbb) m (.int .i64 tag) (by rw [← HMM.out]; simp)
                            cases e0
                            simpa using hc0
                          go_wp2_with fail
                          refine same_calls (zzRow_any a2' n2 c2' spares1 HL2.out wb hrrb _ q rfl) ?_
                          have T33 := spareTags_any Hb _ q rfl lq HLQ.out (by rw [HLS.out]; omega)
                          rw [HZS.out, HLS.out] at T33
                          have HT33 := hide T33
                          clear T33
                          go_wp2_with fail
                          refine (unhide HT33).mono ?_
                          rintro e wc ⟨a3, c3, rfl, hrc, hbc⟩
                          have Hc := Hb.below hbc
                          have hrrc := hrrb.below hbc
                          go_wp2_with fail
                          refine (intsEqual_any a3 _ _ c3 _ (rowAt spares1 q).zs rfl (by omega) _ hrc (hrrc.rowAt q).1).mono ?_
                          rintro e wd ⟨rfl, hbd⟩
                          have Hd := Hc.below hbd
                          have hrrd := hrrc.below hbd
                          have T35 := mergedShape_any Hd _ q rfl lq HLQ.out
                          rw [HMQ.out] at T35
                          have HT35 := hide T35
                          clear T35
                          go_wp2_with fail
                          refine (unhide HT35).mono ?_
                          rintro e we ⟨rfl, hbe⟩
                          have He := Hd.below hbe
                          have hbE : Below B w2 we := ((((hbl.trans (hba.mono H.base_le)).trans (hbb.mono Ha.base_le)).trans (hbc.mono Hb.base_le)).trans (hbd.mono Hc.base_le)).trans (hbe.mono Hd.base_le)
                          simp only [run0]
                          go_wp2_with fail
                          go_roundw
                          case rel => exact ⟨q + 1, by omega, by go_num, He, hbE⟩
                          case measure => simp [intOf]; omega
                      · have hqk' := hqk
                        clear hqk'
                        as_aux_lemma =>
                          have zR : lq.runs.map RunV.n = (rowAt runs1 q).zs := by rw [hrq, pushR_n, if_neg (by omega)]
                          have lR : lq.runs.length = (rowAt runs1 q).zs.length := by rw [← List.length_map (f := RunV.n), zR]
                          have zS : lq.spare.map RunV.n = (rowAt spares1 q).zs := by rw [hsq, tags_n]
                          have lS : lq.spare.length = (rowAt spares1 q).zs.length := by rw [← List.length_map (f := RunV.n), zS]
                          have ql := rowAt_len HM1 q
                          have qs := rowAt_len HM2 q
                          have T42 := runTags_at H _ q rfl lq hlq (by omega)
                          rw [zR, lR] at T42
                          have HT42 := hide T42
                          have HLQ : Hid (ls5[q]? = some lq) := hlq
                          have HZS : Hid (_ = _) := zS
                          have HLS : Hid (_ = _) := lS
                          have HMQ : Hid (_ = _) := hmq
                          have hra : RRd wr a1' runs1 := hr1.below' hb2 hbl HB.out
                          have hrs : RRd wr a2' spares1 := hr2.below (by rw [HB.out]; exact hbl)
                          clear T42 zR zS lS hrq hsq hmq hlq
                          have hd2 : ((q : Int) == (kn : Int)) = false := by simp; omega
                          clear hqk lR
                          go_wp2_with fail
                          refine (unhide HT42).mono ?_
                          rintro e wa ⟨rfl, hra3, hba⟩
                          have Ha := H.below hba
                          have hrra := hra.below hba
                          have hrrs := hrs.below hba
                          go_wp2_with fail
                          refine same_calls (zzRow_any a1' n1 c1' runs1 HL1.out wa hrra _ q rfl) ?_
                          go_wp2_with fail
                          refine (intsEqual_any (some ⟨wr.heap.size, 0, none⟩) _ _ _ _ (rowAt runs1 q).zs rfl (by omega) _ hra3 (hrra.rowAt q).1).mono ?_
                          rintro e wb ⟨rfl, hbb⟩
                          have Hb := Ha.below hbb
                          have hrrb := hrrs.below hbb
                          go_wp2_with fail
                          refine same_calls (zzRow_any a2' n2 c2' spares1 HL2.out wb hrrb _ q rfl) ?_
                          have T33 := spareTags_any Hb _ q rfl lq HLQ.out (by rw [HLS.out]; omega)
                          rw [HZS.out, HLS.out] at T33
                          have HT33 := hide T33
                          clear T33
                          go_wp2_with fail
                          refine (unhide HT33).mono ?_
                          rintro e wc ⟨a3, c3, rfl, hrc, hbc⟩
                          have Hc := Hb.below hbc
                          have hrrc := hrrb.below hbc
                          go_wp2_with fail
                          refine (intsEqual_any a3 _ _ c3 _ (rowAt spares1 q).zs rfl (by omega) _ hrc (hrrc.rowAt q).1).mono ?_
                          rintro e wd ⟨rfl, hbd⟩
                          have Hd := Hc.below hbd
                          have hrrd := hrrc.below hbd
                          have T35 := mergedShape_any Hd _ q rfl lq HLQ.out
                          rw [HMQ.out] at T35
                          have HT35 := hide T35
                          clear T35
                          go_wp2_with fail
                          refine (unhide HT35).mono ?_
                          rintro e we ⟨rfl, hbe⟩
                          have He := Hd.below hbe
                          have hbE : Below B w2 we := ((((hbl.trans (hba.mono H.base_le)).trans (hbb.mono Ha.base_le)).trans (hbc.mono Hb.base_le)).trans (hbd.mono Hc.base_le)).trans (hbe.mono Hd.base_le)
                          simp only [run0]
                          go_wp2_with fail
                          go_roundw
                          case rel => exact ⟨q + 1, by omega, by go_num, He, hbE⟩
                          case measure => simp [intOf]; omega
                    · go_wp2
                      go_ret
                      exact ⟨rfl, (hb1.trans (hb2.mono hb1.size)).trans (hbl.mono (by rw [← HB.out]; have := hb1.size; have := hb2.size; omega))⟩
            · by_cases hk0 : k < 0
              · clear hk
                go_wp2_with fail
                go_ret
                exact ⟨rfl, Below.refl _ _⟩
              · by_cases hk1 : (n2 : Int) ≤ k
                · clear hk
                  go_wp2_with fail
                  go_ret
                  exact ⟨rfl, Below.refl _ _⟩
                · have hk2 : 19 < k := by omega
                  clear hk
                  go_wp2_with fail
                  go_ret
                  exact ⟨rfl, Below.refl _ _⟩
end Go.Proofs.Qxb6601843a
