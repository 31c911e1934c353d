import Derived.Test.Qxb6601843aShape
namespace Go.Proofs.Qxb6601843a
open Go.RowKit
theorem zs_len {rows rows1 : List RowI} (h : rows1.map RowI.zs = rows.map RowI.zs) : rows1.length = rows.length := by simpa using congrArg List.length h
theorem zs_all {rows rows1 : List RowI} (h : rows1.map RowI.zs = rows.map RowI.zs) {B : Nat} (hB : ∀ r ∈ rows, r.zs.length ≤ B) : ∀ r ∈ rows1, r.zs.length ≤ B := by
  intro r hr
  have : r.zs ∈ rows1.map RowI.zs := List.mem_map.2 ⟨r, hr, rfl⟩
  rw [h] at this
  obtain ⟨r', h1, h2⟩ := List.mem_map.1 this
  rw [← h2]; exact hB r' h1
theorem rowAt_len {rows : List RowI} {B : Nat} (hB : ∀ r ∈ rows, r.zs.length ≤ B) (q : Nat) : (rowAt rows q).zs.length ≤ B := by
  by_cases h : q < rows.length
  · rw [rowAt_lt h]; exact hB _ (List.getElem_mem h)
  · rw [rowAt_ge h]; simp [rowNil]
def sp (rows : List RowI) (k c q : Nat) : List RunV := if q = k then (tags (rowAt rows k)).take ((rowAt rows k).zs.length - c) else tags (rowAt rows q)
theorem sp_zero (rows : List RowI) (k q : Nat) : tags (rowAt rows q) = sp rows k 0 q := by
  unfold sp
  by_cases e : q = k
  · subst e; rw [if_pos rfl, Nat.sub_zero, ← tags_len, List.take_length]
  · rw [if_neg e]
theorem dropLast_take' {α : Type} (l : List α) (i : Nat) (h : i ≤ l.length) : (l.take i).dropLast = l.take (i - 1) := by
  rw [List.dropLast_eq_take, List.length_take, List.take_take]
  congr 1
  omega
theorem drain_step {rows : List RowI} {n k c WL : Nat} {ls : List Lv} (hn : rows.length = n) (hk : k ≤ n) (hW : WL = if k = n then n + 1 else n)
    (h : ShapeL ls (if c = 0 then n else WL) (fun _ => []) (sp rows k c)) :
    k ≤ ls.length ∧ ShapeL (takeL ls k) WL (fun _ => []) (sp rows k (c + 1)) ∧
    ∀ r, takeR ls k r → (c < (rowAt rows k).zs.length → r = tagRun ((rowAt rows k).zs.getD ((rowAt rows k).zs.length - 1 - c) 0)) ∧ (¬ c < (rowAt rows k).zs.length → freshRun r (pieces k)) := by
  have hkN : k ≤ (if c = 0 then n else WL) := by
    split
    · omega
    · rw [hW]; split <;> omega
  have hS : k = (if c = 0 then n else WL) → sp rows k c k = [] := by
    intro e
    have e0 : c = 0 := by
      by_cases hc : c = 0
      · exact hc
      · rw [if_neg hc, hW] at e; split at e <;> omega
    rw [if_pos e0] at e
    rw [sp, if_pos rfl, rowAt_ge (by omega)]
    simp [tags, rowNil]
  have s1 := shape_take h hkN (fun _ => rfl) hS
  have hl : (tags (rowAt rows k)).length = (rowAt rows k).zs.length := tags_len _
  refine ⟨by rw [h.len]; exact hkN, ?_, fun r hr => ?_⟩
  · have e1 : (if k = (if c = 0 then n else WL) then (if c = 0 then n else WL) + 1 else (if c = 0 then n else WL)) = WL := by
      by_cases hc : c = 0
      · simp only [hc, if_true]; rw [hW]
      · simp only [hc, if_false]; rw [if_neg (by rw [hW]; split <;> omega)]
    rw [e1] at s1
    refine s1.congr (fun _ _ => rfl) (fun q _ => ?_)
    by_cases e : q = k
    · subst e
      rw [if_pos rfl, sp, sp, if_pos rfl, if_pos rfl, dropLast_take' _ _ (by omega)]
      congr 1
    · rw [if_neg e, sp, sp, if_neg e, if_neg e]
  · obtain ⟨f1, f2⟩ := shape_takeR h hkN hS hr
    refine ⟨fun hc => f2 _ ?_, fun hc => f1 ?_⟩
    · rw [sp, if_pos rfl, List.getLast?_take]
      rw [if_neg (by omega), List.getElem?_eq_getElem (by omega)]
      have e : (rowAt rows k).zs.length - c - 1 = (rowAt rows k).zs.length - 1 - c := by omega
      simp [tags, e, List.getD, List.getElem?_eq_getElem (show (rowAt rows k).zs.length - 1 - c < (rowAt rows k).zs.length by omega)]
    · rw [sp, if_pos rfl]
      have : (rowAt rows k).zs.length - c = 0 := by omega
      simp [this]
theorem sp_len (rows : List RowI) (k c : Nat) : (sp rows k c k).length = (rowAt rows k).zs.length - c := by
  rw [sp, if_pos rfl, List.length_take, tags_len]; omega
theorem tags_n (r : RowI) : (tags r).map RunV.n = r.zs := by
  simp only [tags, List.map_map]
  conv => rhs; rw [← List.map_id r.zs]
  exact List.map_congr_left (fun z _ => rfl)
theorem own_cell {r : RowI} {w1 : World} {B : Nat} (hB : w1.heap.size = B) (h : RRow w1 r) {j : Nat} (hj : j < r.zs.length) : ∃ b off, r.a = some ⟨b, off, none⟩ ∧ b < B ∧ ∀ w' : World, Below B w1 w' → w'.cell? ⟨b, off + j, none⟩ = some (.int .i64 (r.zs.getD j 0)) := by
  obtain ⟨b, off, ea, hbw, hc⟩ := h.1.at (k := j) (by simpa using hj)
  refine ⟨b, off, ea, by omega, fun w' hb => (hb.cell (p := ⟨b, off + j, none⟩) (by show b < B; omega)).trans ((hc j _ (ints_get _ _ _ hj)).trans ?_)⟩
  simp [List.getD, List.getElem?_eq_getElem hj]
def Mid (rows : List RowI) (j : Nat) : Prop := ∀ p (hp : p < rows.length), p < j → rows[p].zs.length ≤ 131072
set_option maxRecDepth 100000 in
set_option maxHeartbeats 4000000 in
theorem drains_main (a : Option Addr) (n c : Nat) (rows : List RowI) (hx : rows.length = n) (hnil : a = none → n = 0 ∧ c = 0) (k : Int) (w : World) (hr : RRd w a rows) (hn : n ≤ 32768) :
    Calls Try.prog 6 #[.slice a n c, .int .i64 k] w fun e w' => e = .returned (.bool true) ∧ Below w.heap.size w w' := by
  have HX : Hid (rows.length = n) := hx
  clear hx
  go_enter Try.func6, Try.ntmps6
  go_wp2_with (go_at_call 36; refine (bytesOk36 a n c rows HX.out k _ hr).mono ?_; rintro e w' ⟨⟨b, rfl, hbt⟩, hw⟩; have hw' := hw.symm; clear hw; subst hw'; cases b)
  · go_ret
    exact ⟨rfl, Below.refl _ _⟩
  · have HBT : Hid (∀ r ∈ rows, r.zs.length ≤ 1048576) := hbt (by simp)
    clear hbt
    go_loop [5, 6] (fun t i => ∃ (j : Nat) (s : Int), j ≤ n ∧ i = .int .i64 j ∧ 0 ≤ s ∧ s ≤ 131072 ∧ t = .int .i64 s ∧ Mid rows j) (fun _ i => n - (intOf i).toNat)
    case atStart => exact ⟨0, 3 * n, Nat.zero_le _, rfl, by omega, by omega, rfl, fun p _ hp => absurd hp (Nat.not_lt_zero _)⟩
    case round =>
      obtain ⟨j, s, hj, rfl, hs0, hs1, rfl, hmid⟩ := hrel
      by_cases hlt : j < n
      · have hlt' : j < rows.length := by rw [HX.out]; exact hlt
        obtain ⟨b, off, ea, hbw, hc⟩ := hr.at hlt'
        subst ea
        have hcell := hc j hlt'
        have HSH : Hid (rows[j].zs.length ≤ 131072 → Mid rows (j + 1)) := fun h p hp hpj => by
          by_cases e : p = j
          · subst e; exact h
          · exact hmid p hp (by omega)
        have hle := HBT.out _ (List.getElem_mem hlt')
        clear hc
        generalize rows[j] = r at hcell HSH hle
        go_wp2
        · go_ret; exact ⟨rfl, Below.refl _ _⟩
        · go_round
          case rel => exact ⟨j + 1, _, by omega, by go_num, by omega, by omega, rfl, HSH.out (by omega)⟩
          case measure => simp [intOf]; omega
      · have HM : Hid (∀ r ∈ rows, r.zs.length ≤ 131072) := fun r hr' => by
          obtain ⟨p, hp, rfl⟩ := List.getElem_of_mem hr'
          exact hmid p hp (by have := HX.out; omega)
        clear hmid
        by_cases hk : 0 ≤ k ∧ k ≤ 20 ∧ k ≤ n
        · obtain ⟨kn, rfl⟩ := Int.eq_ofNat_of_zero_le hk.1
          obtain ⟨_, hk20, hkn⟩ := hk
          by_cases hkeq : kn = n
          · have hd : ((kn : Int) == (n : Int)) = true := by simp; omega
            have HKN : Hid (kn = n) := hkeq
            clear hkeq
            go_wp2_with (first
              | (go_at_call 25; refine (cloneRows_any a n c rows HX.out hnil _ hr (by omega) (fun r h => by have := HM.out r h; omega)).mono ?_; rintro e w1 ⟨a1, c1, rows1, rfl, hz1, hr1, hb1⟩; have HL1 : Hid (rows1.length = n) := (zs_len hz1).trans HX.out; have HM1 := zs_all hz1 HM.out; clear hz1)
              | (go_at_call 26; refine (newHist_all none a1 0 0 n c1 [] rows1 rfl HL1.out (by omega) (by omega) n (by omega) 0 _ ⟨Rd.nil _ _, (fun r h => by simp at h)⟩ hr1 (fun r h => by simp at h) HM1).mono ?_; rintro e w2 ⟨rfl, la, lc, ls, H2, hb2, hsh2⟩; have hr2 := hr1.below hb2; generalize hB : w1.heap.size = B at *; have HB : Hid (w1.heap.size = B) := hB; clear hB)
              | (go_at_call 30; refine same_calls (zzRow_any a1 n c1 rows1 HL1.out _ hr2 _ kn rfl) ?_))
            have hsh0 : ShapeL ls (if 0 = 0 then n else (n + 1)) (fun _ => []) (sp rows1 kn 0) := by
              rw [if_pos rfl]; exact hsh2.congr (fun q _ => by simp [rowAt, rowNil, tags]) (fun q _ => sp_zero rows1 kn q)
            have hown := hr1.rowAt kn
            have hom := rowAt_len HM1 kn
            generalize hro : rowAt rows1 kn = own at hown hom ⊢
            have HRO : Hid (rowAt rows1 kn = own) := hro
            clear hro hsh2
            obtain ⟨oa, oc, ozs⟩ := own
            generalize hmm : ozs.length = m at hom ⊢
            have HMM : Hid (ozs.length = m) := hmm
            clear hmm
            go_loopw [11] (fun i wr => ∃ t : Nat, t ≤ m + 2 ∧ i = .int .i64 t ∧ ∃ la lc ls, Hist wr B B la lc ls 0 ∧ Below B w1 wr ∧ ShapeL ls (if t = 0 then n else (n + 1)) (fun _ => []) (sp rows1 kn t)) (fun i _ => m + 2 - (intOf i).toNat)
            case atStart => exact ⟨0, Nat.zero_le _, rfl, la, lc, ls, H2, hb2, hsh0⟩
            case round =>
              clear H2 hsh0
              obtain ⟨t, ht, rfl, la, lc, ls, H, hbl, hsh⟩ := hrel
              by_cases htlt : t < m + 2
              · obtain ⟨hkl, hshn, htr⟩ := drain_step HL1.out (by omega) (by rw [HKN.out, if_pos rfl]) hsh
                rw [HRO.out] at htr
                have HTR : Hid (∀ r, takeR ls kn r → (t < ozs.length → r = tagRun (ozs.getD (ozs.length - 1 - t) 0)) ∧ (¬ t < ozs.length → freshRun r (pieces kn))) := htr
                have hnl := hshn.len
                have HNL : Hid ((takeL ls kn).length = (n + 1)) := hnl
                have hkl2 : kn < (takeL ls kn).length := by rw [hnl]; omega
                have hln : (takeL ls kn)[kn]? = some (takeL ls kn)[kn] := List.getElem?_eq_getElem hkl2
                have hls := (hshn.lv kn _ hln).2.1
                generalize (takeL ls kn)[kn] = l at hln hls
                have hsl : l.spare.length = m - (t + 1) := by rw [hls, sp_len, HRO.out]; show ozs.length - (t + 1) = _; rw [HMM.out]
                have HLN : Hid ((takeL ls kn)[kn]? = some l) := hln
                have HSH : Hid (ShapeL (takeL ls kn) (if t + 1 = 0 then n else (n + 1)) (fun _ => []) (sp rows1 kn (t + 1))) := by
                  show ShapeL _ _ _ _
                  rw [if_neg (by omega)]; exact hshn
                clear htr hnl hkl2 hln hls hsh hshn
                by_cases htm : t < m
                · have htm' : t < ozs.length := by rw [HMM.out]; exact htm
                  obtain ⟨b', off', ea', hbB, d0'⟩ := own_cell HB.out hown (j := ozs.length - 1 - t) (by show ozs.length - 1 - t < ozs.length; omega)
                  simp only [] at ea'
                  subst ea'
                  have d0 : ∀ w' : World, Below B w1 w' → w'.cell? ⟨b', off' + (m - 1 - t), none⟩ = some (.int .i64 (ozs.getD (ozs.length - 1 - t) 0)) := by
                    rw [← HMM.out]; exact d0'
                  have HD0 := d0
                  have HZ : Hid (∀ r, takeR ls kn r → r = tagRun (ozs.getD (ozs.length - 1 - t) 0)) := fun r hr => (HTR.out r hr).1 htm'
                  generalize ozs.getD (ozs.length - 1 - t) 0 = z at d0 HZ
                  have HDZ : Hid (∀ w' : World, Below B w1 w' → w'.cell? ⟨b', off' + (m - 1 - t), none⟩ = some (.int .i64 z)) := d0
                  have hls2 : ((l.spare.length : Nat) : Int) = (m : Int) - 1 - (t : Int) := by omega
                  clear d0 d0' HD0 hsl
                  go_wp2_with (first
                    | (go_at_call 27; refine (zztake_any _ B B la lc ls 0 H _ kn rfl hkl (by omega)).mono ?_; rintro e w3 ⟨r, la3, lc3, rfl, H3, F3, R3⟩; obtain rfl := HZ.out r R3; have b3 : Below B w1 w3 := hbl.trans (F3.below H); simp only [tagRun])
                    | (go_at_call 29; refine (runShape_any ⟨z, none, 0, 0, none, 0, 0⟩ _).mono ?_; rintro e w5 ⟨rfl, hb5⟩; have H5 := (H3.below ((Below.refl _ _).alloc (Nat.le_refl _) _)).below hb5; have b5 : Below B w1 w5 := (b3.alloc H3.base_le _).trans (hb5.mono (by have := H3.base_le; simp; omega)); have d5 := HDZ.out w5 b5)
                    | (go_at_call 28; have T := levelCount_any H5; rw [HNL.out] at T; refine same_calls T ?_)
                    | (go_at_call 37; refine same_calls (spareCount_any H5 _ kn rfl l HLN.out) ?_))
                  go_roundw
                  case rel => exact ⟨t + 1, by omega, by go_num, la3, lc3, _, H5, b5, HSH.out⟩
                  case measure => simp [intOf]; omega
                · have htm' : ¬ t < ozs.length := by rw [HMM.out]; exact htm
                  have HZ : Hid (∀ r, takeR ls kn r → freshRun r (pieces kn)) := fun r hr => (HTR.out r hr).2 htm'
                  have hls2 : ((l.spare.length : Nat) : Int) = 0 := by omega
                  clear hsl
                  go_wp2_with (first
                    | (go_at_call 27; refine (zztake_any _ B B la lc ls 0 H _ kn rfl hkl (by omega)).mono ?_; rintro e w3 ⟨r, la3, lc3, rfl, H3, F3, R3⟩; have HF : Hid (freshRun r (pieces kn)) := HZ.out r R3; have b3 : Below B w1 w3 := hbl.trans (F3.below H))
                    | (go_at_call 29; refine (runShape_any r _).mono ?_; rintro e w5 ⟨rfl, hb5⟩; obtain ⟨f1, f2, f3, f4, f5⟩ := HF.out; have H5 := (H3.below ((Below.refl _ _).alloc (Nat.le_refl _) _)).below hb5; have b5 : Below B w1 w5 := (b3.alloc H3.base_le _).trans (hb5.mono (by have := H3.base_le; simp; omega)))
                    | (go_at_call 31; refine same_calls (freshPieces_any _ kn rfl (by omega) _) ?_)
                    | (go_at_call 28; have T := levelCount_any H5; rw [HNL.out] at T; refine same_calls T ?_)
                    | (go_at_call 37; refine same_calls (spareCount_any H5 _ kn rfl l HLN.out) ?_))
                  go_roundw
                  case rel => exact ⟨t + 1, by omega, by go_num, la3, lc3, _, H5, b5, HSH.out⟩
                  case measure => simp [intOf]; omega
              · have hsh1 : ShapeL ls (n + 1) (fun _ => []) (sp rows1 kn t) := by
                  have := hsh; rw [if_neg (by omega)] at this; exact this
                clear hsh
                go_wp2
                go_loopw [19] (fun i wr => ∃ q : Nat, q ≤ (n + 1) ∧ i = .int .i64 q ∧ Hist wr B B la lc ls 0 ∧ Below B w1 wr) (fun i _ => (n + 1) - (intOf i).toNat)
                case atStart => exact ⟨0, Nat.zero_le _, rfl, H, hbl⟩
                case round =>
                  clear H hbl
                  obtain ⟨q, hq, rfl, H, hbl⟩ := hrel
                  by_cases hqlt : q < (n + 1)
                  · by_cases hqk : q = kn
                    · have hd2 : ((q : Int) != (kn : Int)) = false := by simp; omega
                      clear hqk
                      go_wp2_with fail
                      go_roundw
                      case rel => exact ⟨q + 1, by omega, by go_num, H, hbl⟩
                      case measure => simp [intOf]; omega
                    · have hd2 : ((q : Int) != (kn : Int)) = true := by simp; omega
                      have hql : q < ls.length := by rw [hsh1.len]; exact hqlt
                      have hlq : ls[q]? = some ls[q] := List.getElem?_eq_getElem hql
                      have hsq := (hsh1.lv q _ hlq).2.1
                      generalize ls[q] = lq at hlq hsq
                      rw [sp, if_neg hqk] at hsq
                      have hlen2 := rowAt_len HM1 q
                      have T := spareTags_any H _ q rfl lq hlq (by rw [hsq, tags_len]; omega)
                      rw [hsq, tags_n, tags_len] at T
                      have HT : Hid (Calls Try.prog 33 #[.pointer (some ⟨B, 0, none⟩), .int .i64 q] wr fun e w' => ∃ a' c', e = .returned (.slice a' (rowAt rows1 q).zs.length c') ∧ Rd w' a' ((rowAt rows1 q).zs.map (Value.int .i64)) ∧ Below wr.heap.size wr w') := T
                      have hrr : RRd wr a1 rows1 := hr1.below (by rw [HB.out]; exact hbl)
                      clear T hlq hsq hqk
                      go_wp2_with (first
                        | (go_at_call 33; refine HT.out.mono ?_; rintro e w3 ⟨a3, c3, rfl, hr3, hb3⟩; have hrr3 := hrr.below hb3)
                        | (go_at_call 30; refine same_calls (zzRow_any a1 n c1 rows1 HL1.out _ hrr3 _ q rfl) ?_)
                        | (go_at_call 32; refine (intsEqual_any a3 _ _ c3 _ (rowAt rows1 q).zs rfl (by omega) _ hr3 (hrr3.rowAt q).1).mono ?_; rintro e w5 ⟨rfl, hb5⟩))
                      go_roundw
                      case rel => exact ⟨q + 1, by omega, by go_num, (H.below hb3).below hb5, (hbl.trans (hb3.mono H.base_le)).trans (hb5.mono (H.below hb3).base_le)⟩
                      case measure => simp [intOf]; omega
                  · go_wp2
                    go_ret
                    exact ⟨rfl, hb1.trans (hbl.mono (by rw [← HB.out]; exact hb1.size))⟩
          · have hd : ((kn : Int) == (n : Int)) = false := by simp; omega
            have hkn2 : kn < n := by omega
            clear hkeq
            go_wp2_with (first
              | (go_at_call 25; refine (cloneRows_any a n c rows HX.out hnil _ hr (by omega) (fun r h => by have := HM.out r h; omega)).mono ?_; rintro e w1 ⟨a1, c1, rows1, rfl, hz1, hr1, hb1⟩; have HL1 : Hid (rows1.length = n) := (zs_len hz1).trans HX.out; have HM1 := zs_all hz1 HM.out; clear hz1)
              | (go_at_call 26; refine (newHist_all none a1 0 0 n c1 [] rows1 rfl HL1.out (by omega) (by omega) n (by omega) 0 _ ⟨Rd.nil _ _, (fun r h => by simp at h)⟩ hr1 (fun r h => by simp at h) HM1).mono ?_; rintro e w2 ⟨rfl, la, lc, ls, H2, hb2, hsh2⟩; have hr2 := hr1.below hb2; generalize hB : w1.heap.size = B at *; have HB : Hid (w1.heap.size = B) := hB; clear hB)
              | (go_at_call 30; refine same_calls (zzRow_any a1 n c1 rows1 HL1.out _ hr2 _ kn rfl) ?_))
            have hsh0 : ShapeL ls (if 0 = 0 then n else n) (fun _ => []) (sp rows1 kn 0) := by
              rw [if_pos rfl]; exact hsh2.congr (fun q _ => by simp [rowAt, rowNil, tags]) (fun q _ => sp_zero rows1 kn q)
            have hown := hr1.rowAt kn
            have hom := rowAt_len HM1 kn
            generalize hro : rowAt rows1 kn = own at hown hom ⊢
            have HRO : Hid (rowAt rows1 kn = own) := hro
            clear hro hsh2
            obtain ⟨oa, oc, ozs⟩ := own
            generalize hmm : ozs.length = m at hom ⊢
            have HMM : Hid (ozs.length = m) := hmm
            clear hmm
            go_loopw [11] (fun i wr => ∃ t : Nat, t ≤ m + 2 ∧ i = .int .i64 t ∧ ∃ la lc ls, Hist wr B B la lc ls 0 ∧ Below B w1 wr ∧ ShapeL ls (if t = 0 then n else n) (fun _ => []) (sp rows1 kn t)) (fun i _ => m + 2 - (intOf i).toNat)
            case atStart => exact ⟨0, Nat.zero_le _, rfl, la, lc, ls, H2, hb2, hsh0⟩
            case round =>
              clear H2 hsh0
              obtain ⟨t, ht, rfl, la, lc, ls, H, hbl, hsh⟩ := hrel
              by_cases htlt : t < m + 2
              · obtain ⟨hkl, hshn, htr⟩ := drain_step HL1.out (by omega) (by rw [if_neg (by omega)]) hsh
                rw [HRO.out] at htr
                have HTR : Hid (∀ r, takeR ls kn r → (t < ozs.length → r = tagRun (ozs.getD (ozs.length - 1 - t) 0)) ∧ (¬ t < ozs.length → freshRun r (pieces kn))) := htr
                have hnl := hshn.len
                have HNL : Hid ((takeL ls kn).length = n) := hnl
                have hkl2 : kn < (takeL ls kn).length := by rw [hnl]; omega
                have hln : (takeL ls kn)[kn]? = some (takeL ls kn)[kn] := List.getElem?_eq_getElem hkl2
                have hls := (hshn.lv kn _ hln).2.1
                generalize (takeL ls kn)[kn] = l at hln hls
                have hsl : l.spare.length = m - (t + 1) := by rw [hls, sp_len, HRO.out]; show ozs.length - (t + 1) = _; rw [HMM.out]
                have HLN : Hid ((takeL ls kn)[kn]? = some l) := hln
                have HSH : Hid (ShapeL (takeL ls kn) (if t + 1 = 0 then n else n) (fun _ => []) (sp rows1 kn (t + 1))) := by
                  show ShapeL _ _ _ _
                  rw [if_neg (by omega)]; exact hshn
                clear htr hnl hkl2 hln hls hsh hshn
                by_cases htm : t < m
                · have htm' : t < ozs.length := by rw [HMM.out]; exact htm
                  obtain ⟨b', off', ea', hbB, d0'⟩ := own_cell HB.out hown (j := ozs.length - 1 - t) (by show ozs.length - 1 - t < ozs.length; omega)
                  simp only [] at ea'
                  subst ea'
                  have d0 : ∀ w' : World, Below B w1 w' → w'.cell? ⟨b', off' + (m - 1 - t), none⟩ = some (.int .i64 (ozs.getD (ozs.length - 1 - t) 0)) := by
                    rw [← HMM.out]; exact d0'
                  have HD0 := d0
                  have HZ : Hid (∀ r, takeR ls kn r → r = tagRun (ozs.getD (ozs.length - 1 - t) 0)) := fun r hr => (HTR.out r hr).1 htm'
                  generalize ozs.getD (ozs.length - 1 - t) 0 = z at d0 HZ
                  have HDZ : Hid (∀ w' : World, Below B w1 w' → w'.cell? ⟨b', off' + (m - 1 - t), none⟩ = some (.int .i64 z)) := d0
                  have hls2 : ((l.spare.length : Nat) : Int) = (m : Int) - 1 - (t : Int) := by omega
                  clear d0 d0' HD0 hsl
                  go_wp2_with (first
                    | (go_at_call 27; refine (zztake_any _ B B la lc ls 0 H _ kn rfl hkl (by omega)).mono ?_; rintro e w3 ⟨r, la3, lc3, rfl, H3, F3, R3⟩; obtain rfl := HZ.out r R3; have b3 : Below B w1 w3 := hbl.trans (F3.below H); simp only [tagRun])
                    | (go_at_call 29; refine (runShape_any ⟨z, none, 0, 0, none, 0, 0⟩ _).mono ?_; rintro e w5 ⟨rfl, hb5⟩; have H5 := (H3.below ((Below.refl _ _).alloc (Nat.le_refl _) _)).below hb5; have b5 : Below B w1 w5 := (b3.alloc H3.base_le _).trans (hb5.mono (by have := H3.base_le; simp; omega)); have d5 := HDZ.out w5 b5)
                    | (go_at_call 28; have T := levelCount_any H5; rw [HNL.out] at T; refine same_calls T ?_)
                    | (go_at_call 37; refine same_calls (spareCount_any H5 _ kn rfl l HLN.out) ?_))
                  go_roundw
                  case rel => exact ⟨t + 1, by omega, by go_num, la3, lc3, _, H5, b5, HSH.out⟩
                  case measure => simp [intOf]; omega
                · have htm' : ¬ t < ozs.length := by rw [HMM.out]; exact htm
                  have HZ : Hid (∀ r, takeR ls kn r → freshRun r (pieces kn)) := fun r hr => (HTR.out r hr).2 htm'
                  have hls2 : ((l.spare.length : Nat) : Int) = 0 := by omega
                  clear hsl
                  go_wp2_with (first
                    | (go_at_call 27; refine (zztake_any _ B B la lc ls 0 H _ kn rfl hkl (by omega)).mono ?_; rintro e w3 ⟨r, la3, lc3, rfl, H3, F3, R3⟩; have HF : Hid (freshRun r (pieces kn)) := HZ.out r R3; have b3 : Below B w1 w3 := hbl.trans (F3.below H))
                    | (go_at_call 29; refine (runShape_any r _).mono ?_; rintro e w5 ⟨rfl, hb5⟩; obtain ⟨f1, f2, f3, f4, f5⟩ := HF.out; have H5 := (H3.below ((Below.refl _ _).alloc (Nat.le_refl _) _)).below hb5; have b5 : Below B w1 w5 := (b3.alloc H3.base_le _).trans (hb5.mono (by have := H3.base_le; simp; omega)))
                    | (go_at_call 31; refine same_calls (freshPieces_any _ kn rfl (by omega) _) ?_)
                    | (go_at_call 28; have T := levelCount_any H5; rw [HNL.out] at T; refine same_calls T ?_)
                    | (go_at_call 37; refine same_calls (spareCount_any H5 _ kn rfl l HLN.out) ?_))
                  go_roundw
                  case rel => exact ⟨t + 1, by omega, by go_num, la3, lc3, _, H5, b5, HSH.out⟩
                  case measure => simp [intOf]; omega
              · have hsh1 : ShapeL ls n (fun _ => []) (sp rows1 kn t) := by
                  have := hsh; rw [if_neg (by omega)] at this; exact this
                clear hsh
                go_wp2
                go_loopw [19] (fun i wr => ∃ q : Nat, q ≤ n ∧ i = .int .i64 q ∧ Hist wr B B la lc ls 0 ∧ Below B w1 wr) (fun i _ => n - (intOf i).toNat)
                case atStart => exact ⟨0, Nat.zero_le _, rfl, H, hbl⟩
                case round =>
                  clear H hbl
                  obtain ⟨q, hq, rfl, H, hbl⟩ := hrel
                  by_cases hqlt : q < n
                  · by_cases hqk : q = kn
                    · have hd2 : ((q : Int) != (kn : Int)) = false := by simp; omega
                      clear hqk
                      go_wp2_with fail
                      go_roundw
                      case rel => exact ⟨q + 1, by omega, by go_num, H, hbl⟩
                      case measure => simp [intOf]; omega
                    · have hd2 : ((q : Int) != (kn : Int)) = true := by simp; omega
                      have hql : q < ls.length := by rw [hsh1.len]; exact hqlt
                      have hlq : ls[q]? = some ls[q] := List.getElem?_eq_getElem hql
                      have hsq := (hsh1.lv q _ hlq).2.1
                      generalize ls[q] = lq at hlq hsq
                      rw [sp, if_neg hqk] at hsq
                      have hlen2 := rowAt_len HM1 q
                      have T := spareTags_any H _ q rfl lq hlq (by rw [hsq, tags_len]; omega)
                      rw [hsq, tags_n, tags_len] at T
                      have HT : Hid (Calls Try.prog 33 #[.pointer (some ⟨B, 0, none⟩), .int .i64 q] wr fun e w' => ∃ a' c', e = .returned (.slice a' (rowAt rows1 q).zs.length c') ∧ Rd w' a' ((rowAt rows1 q).zs.map (Value.int .i64)) ∧ Below wr.heap.size wr w') := T
                      have hrr : RRd wr a1 rows1 := hr1.below (by rw [HB.out]; exact hbl)
                      clear T hlq hsq hqk
                      go_wp2_with (first
                        | (go_at_call 33; refine HT.out.mono ?_; rintro e w3 ⟨a3, c3, rfl, hr3, hb3⟩; have hrr3 := hrr.below hb3)
                        | (go_at_call 30; refine same_calls (zzRow_any a1 n c1 rows1 HL1.out _ hrr3 _ q rfl) ?_)
                        | (go_at_call 32; refine (intsEqual_any a3 _ _ c3 _ (rowAt rows1 q).zs rfl (by omega) _ hr3 (hrr3.rowAt q).1).mono ?_; rintro e w5 ⟨rfl, hb5⟩))
                      go_roundw
                      case rel => exact ⟨q + 1, by omega, by go_num, (H.below hb3).below hb5, (hbl.trans (hb3.mono H.base_le)).trans (hb5.mono (H.below hb3).base_le)⟩
                      case measure => simp [intOf]; omega
                  · go_wp2
                    go_ret
                    exact ⟨rfl, hb1.trans (hbl.mono (by rw [← HB.out]; exact hb1.size))⟩
        · by_cases hk0 : k < 0
          · clear hk
            go_wp2_with fail
            go_ret
            exact ⟨rfl, Below.refl _ _⟩
          · by_cases hk1 : 20 < k
            · clear hk
              go_wp2_with fail
              go_ret
              exact ⟨rfl, Below.refl _ _⟩
            · have hk2 : (n : Int) < k := by omega
              clear hk
              go_wp2_with fail
              go_ret
              exact ⟨rfl, Below.refl _ _⟩
end Go.Proofs.Qxb6601843a
