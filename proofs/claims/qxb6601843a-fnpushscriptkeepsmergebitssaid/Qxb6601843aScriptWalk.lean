import Derived.Test.Qxb6601843aScript
namespace Go.Proofs.Qxb6601843a
open Go.RowKit
theorem calls_same {P : Program} {f : FuncId} {args : Array Value} {w : World} {v : Value} {R : Ending → World → Prop} (h : Calls P f args w fun e w' => e = .returned v ∧ w' = w) (hR : R (.returned v) w) : Calls P f args w R :=
  h.mono (by rintro e w' ⟨rfl, rfl⟩; exact hR)
theorem nat_div_cast (m L : Nat) : ((m : Int) / 2 ^ L) = ((m / 2 ^ L : Nat) : Int) := by simp
theorem Script.shr0 {ls : List Lv} {mg : Nat} (h : Script ls mg) : (((mg : Nat) : Int) / 2 ^ ls.length != 0) = false := by
  rw [nat_div_cast, Nat.div_eq_of_lt h.small]; rfl
theorem Script.set {ls : List Lv} {mg : Nat} (h : Script ls mg) {q : Nat} {l : Lv} (hl : ls[q]? = some l) : (bits BinOp.and IntKind.u64 (((mg : Nat) : Int) / 2 ^ q) 1 == 1) = decide (l.runs.length = 2) := by
  rw [nat_div_cast]
  have hm := h.u64
  have h1 : mg / 2 ^ q ≤ mg := Nat.div_le_self _ _
  have := u64_and_nat (mg / 2 ^ q) 1 (by omega) (by omega)
  rw [show ((1 : Nat) : Int) = 1 from rfl] at this
  rw [this, Nat.and_one_is_mod]
  have hb := h.bit q
  have e : (∃ l', ls[q]? = some l' ∧ l'.runs.length = 2) ↔ l.runs.length = 2 := by
    constructor
    · rintro ⟨l', a, b⟩; rw [hl] at a; cases a; exact b
    · intro a; exact ⟨l, hl, a⟩
  rw [e, Nat.testBit_eq_decide_div_mod_eq, decide_eq_true_iff] at hb
  by_cases h2 : l.runs.length = 2
  · have := hb.2 h2
    simp [h2, this]
  · have : ¬ mg / 2 ^ q % 2 = 1 := fun h => h2 (hb.1 h)
    have e0 : mg / 2 ^ q % 2 = 0 := by omega
    rw [e0, decide_eq_false h2]; rfl
set_option maxRecDepth 100000 in
set_option maxHeartbeats 4000000 in
theorem script_main (a : Option Addr) (n c : Nat) (zs : List Int) (hx : zs.length = n) (hnil : a = none → n = 0 ∧ c = 0) (w : World) (hr : Rd w a (zs.map (Value.int .i64))) (hn : n ≤ 65536) :
    Calls Try.prog 8 #[.slice a n c] w fun e w' => e = .returned (.bool true) ∧ Below w.heap.size w w' := by
  have HX : Hid (zs.length = n) := hx
  clear hx
  go_enter Try.func8, Try.ntmps8
  go_wp2_with (first
    | (go_at_call 43; refine calls_same (bytes43 a n c _ (by omega)) ?_)
    | (go_at_call 44; refine (cloneInts_any a n c zs HX.out hnil _ hr (by omega)).mono ?_; rintro e w1 ⟨a', c', rfl, hr1, hb1, _⟩)
    | (go_at_call 26; refine (newHist_nil _).mono ?_; rintro e w2 ⟨rfl, H2, hb2⟩; generalize hB : w1.heap.size = B at *; have HB : Hid (w1.heap.size = B) := hB; clear hB))
  go_loopw [4] (fun i wr => ∃ s : Nat, s ≤ n ∧ i = .int .i64 s ∧ Below B w1 wr ∧ ∃ la lc ls mg, Hist wr B B la lc ls ((mg : Nat) : Int) ∧ Script ls mg) (fun i _ => n - (intOf i).toNat)
  case atStart => exact ⟨0, Nat.zero_le _, rfl, hb2, none, 0, [], 0, H2, script0⟩
  case round =>
    obtain ⟨s, hs, rfl, hbl, la, lc, ls, mg, H, S⟩ := hrel
    clear H2 hb2
    have l0 := S.len
    by_cases hlt : s < n
    · have hlt' : s < zs.length := by rw [HX.out]; exact hlt
      obtain ⟨b, off, ea, hbw, hc⟩ := hr1.at (k := s) (by simpa using hlt')
      subst ea
      have hcell : wr.cell? ⟨b, off + s, none⟩ = some (.int .i64 zs[s]) := (hbl.cell (p := ⟨b, off + s, none⟩) (by rw [← HB.out]; exact hbw)).trans (hc s _ (ints_get _ _ _ hlt'))
      generalize zs[s] = k at hcell
      clear hc hr hr1 hlt'
      by_cases hk : 0 ≤ k ∧ k ≤ 19 ∧ k ≤ ls.length
      · obtain ⟨kn, rfl⟩ := Int.eq_ofNat_of_zero_le hk.1
        obtain ⟨_, hk19, hkl⟩ := hk
        by_cases h2 : ∃ l, ls[kn]? = some l ∧ 2 ≤ l.runs.length
        · obtain ⟨l, hl, h2⟩ := h2
          have hkL : kn < ls.length := (List.getElem?_eq_some_iff.1 hl).1
          have HL : Hid (ls[kn]? = some l) := hl
          clear hl
          go_wp2_with (first
            | (go_at_call 28; refine calls_same (levelCount_any H) ?_)
            | (go_at_call 34; refine calls_same (runCount_any H _ kn rfl l HL.out) ?_))
          go_roundw
          case rel => exact ⟨s + 1, by omega, by go_num, hbl, la, lc, ls, mg, H, S⟩
          case measure => simp [intOf]; omega
        · obtain ⟨l1, hl1, hl2, hstep⟩ := S.step (k := kn) (by omega) (by omega) (fun l hl => Nat.lt_of_not_le (fun h => h2 ⟨l, hl, h⟩))
          have HL1 : Hid ((takeL ls kn)[kn]? = some l1) := hl1
          have HS : Hid (∀ r ls' mg', PushRel (takeL ls kn) mg kn l1 r ls' mg' → ∃ m : Nat, mg' = (m : Int) ∧ Script ls' m ∧ ls.length ≤ ls'.length ∧ ls'.length ≤ ls.length + 1) := hstep
          clear hl1 hstep
          by_cases hkL : kn < ls.length
          · have hl : ls[kn]? = some ls[kn] := List.getElem?_eq_getElem hkL
            have hrl : ¬ 2 ≤ ls[kn].runs.length := fun h => h2 ⟨_, hl, h⟩
            generalize ls[kn] = l at hl hrl
            have HL : Hid (ls[kn]? = some l) := hl
            clear hl h2
            go_wp2_with (first
              | (go_at_call 28; refine calls_same (levelCount_any H) ?_)
              | (go_at_call 34; refine calls_same (runCount_any H _ kn rfl l HL.out) ?_)
              | (go_at_call 27; refine (zztake_any _ B B la lc ls mg H _ kn rfl (by omega) (by omega)).mono ?_; rintro e w3 ⟨r, la3, lc3, rfl, H3, F3, R3⟩; have H4 := H3.below ((Below.refl _ _).alloc (Nat.le_refl _) (.cells #[.int .i64 r.n, .slice r.ta r.tl r.tc, .slice r.sa r.sl r.sc] 53)))
              | (go_at_call 39; refine (zzpush_any _ B B la3 lc3 _ mg H4 _ kn rfl (by omega) l1 HL1.out (by omega) r).mono ?_; rintro e w5 ⟨rfl, la5, lc5, ls5, mg5, H5, F5, R5⟩; obtain ⟨m5, rfl, S5, g1, g2⟩ := HS.out r ls5 mg5 R5; have l5 := S5.len; have hz5 := S5.shr0))
            go_wp2_with (first
              | (go_at_call 28; refine calls_same (levelCount_any H5) ?_)
              | (go_at_call 41; refine calls_same (merging_any H5) ?_))
            have bl5 : Below B w1 w5 := (hbl.trans (F3.below H)).trans (((Below.refl _ _).alloc H3.base_le _).trans (F5.below H4))
            clear hz5 HS HL1 H H3 H4 F3 F5 R5 hcell
            go_loopw [10] (fun i wr => ∃ q : Nat, q ≤ ls5.length ∧ i = .int .i64 q ∧ Hist wr B B la5 lc5 ls5 ((m5 : Nat) : Int) ∧ Below B w1 wr) (fun i _ => ls5.length - (intOf i).toNat)
            case atStart => exact ⟨0, Nat.zero_le _, rfl, H5, bl5⟩
            case round =>
              obtain ⟨q, hq, rfl, H6, bl6⟩ := hrel
              clear H5 bl5
              by_cases hqlt : q < ls5.length
              · have hlq : ls5[q]? = some ls5[q] := List.getElem?_eq_getElem hqlt
                have hok := S5.lv q _ hlq
                have hset := S5.set hlq
                generalize ls5[q] = l5q at hlq hok hset
                have HQ : Hid (ls5[q]? = some l5q) := hlq
                obtain ⟨_, o2, o3, o4, o5⟩ := hok
                have o2' : ¬ (2 : Int) < (l5q.runs.length : Int) := by omega
                clear hlq
                by_cases h2q : l5q.runs.length = 2
                · rw [if_pos h2q] at o5
                  have e2 : ((l5q.runs.length : Int) == 2) = true := by simp; omega
                  rw [decide_eq_true h2q] at hset
                  clear h2q
                  go_wp2_with (first
                    | (go_at_call 34; refine calls_same (runCount_any H6 _ q rfl l5q HQ.out) ?_)
                    | (go_at_call 31; refine calls_same (freshPieces_any _ (q + 1) (by omega) (by omega) _) ?_)
                    | (go_at_call 35; refine (mergedShape_any H6 _ q rfl l5q HQ.out).mono ?_; rintro e w7 ⟨rfl, hb7⟩))
                  go_roundw
                  case rel => exact ⟨q + 1, by omega, by go_num, H6.below hb7, bl6.trans (hb7.mono H6.base_le)⟩
                  case measure => simp [intOf]; omega
                · rw [if_neg h2q] at o5
                  have e2 : ((l5q.runs.length : Int) == 2) = false := by simp; omega
                  rw [decide_eq_false h2q] at hset
                  clear h2q
                  go_wp2_with (first
                    | (go_at_call 34; refine calls_same (runCount_any H6 _ q rfl l5q HQ.out) ?_)
                    | (go_at_call 35; refine (mergedShape_any H6 _ q rfl l5q HQ.out).mono ?_; rintro e w7 ⟨rfl, hb7⟩))
                  go_roundw
                  case rel => exact ⟨q + 1, by omega, by go_num, H6.below hb7, bl6.trans (hb7.mono H6.base_le)⟩
                  case measure => simp [intOf]; omega
              · go_wp2
                go_roundw
                case rel => exact ⟨s + 1, by omega, by go_num, bl6, la5, lc5, ls5, m5, H6, S5⟩
                case measure => simp [intOf]; omega
          · clear h2
            go_wp2_with (first
              | (go_at_call 28; refine calls_same (levelCount_any H) ?_)
              | (go_at_call 27; refine (zztake_any _ B B la lc ls mg H _ kn rfl (by omega) (by omega)).mono ?_; rintro e w3 ⟨r, la3, lc3, rfl, H3, F3, R3⟩; have H4 := H3.below ((Below.refl _ _).alloc (Nat.le_refl _) (.cells #[.int .i64 r.n, .slice r.ta r.tl r.tc, .slice r.sa r.sl r.sc] 53)))
              | (go_at_call 39; refine (zzpush_any _ B B la3 lc3 _ mg H4 _ kn rfl (by omega) l1 HL1.out (by omega) r).mono ?_; rintro e w5 ⟨rfl, la5, lc5, ls5, mg5, H5, F5, R5⟩; obtain ⟨m5, rfl, S5, g1, g2⟩ := HS.out r ls5 mg5 R5; have l5 := S5.len; have hz5 := S5.shr0))
            go_wp2_with (first
              | (go_at_call 28; refine calls_same (levelCount_any H5) ?_)
              | (go_at_call 41; refine calls_same (merging_any H5) ?_))
            have bl5 : Below B w1 w5 := (hbl.trans (F3.below H)).trans (((Below.refl _ _).alloc H3.base_le _).trans (F5.below H4))
            clear hz5 HS HL1 H H3 H4 F3 F5 R5 hcell
            go_loopw [10] (fun i wr => ∃ q : Nat, q ≤ ls5.length ∧ i = .int .i64 q ∧ Hist wr B B la5 lc5 ls5 ((m5 : Nat) : Int) ∧ Below B w1 wr) (fun i _ => ls5.length - (intOf i).toNat)
            case atStart => exact ⟨0, Nat.zero_le _, rfl, H5, bl5⟩
            case round =>
              obtain ⟨q, hq, rfl, H6, bl6⟩ := hrel
              clear H5 bl5
              by_cases hqlt : q < ls5.length
              · have hlq : ls5[q]? = some ls5[q] := List.getElem?_eq_getElem hqlt
                have hok := S5.lv q _ hlq
                have hset := S5.set hlq
                generalize ls5[q] = l5q at hlq hok hset
                have HQ : Hid (ls5[q]? = some l5q) := hlq
                obtain ⟨_, o2, o3, o4, o5⟩ := hok
                have o2' : ¬ (2 : Int) < (l5q.runs.length : Int) := by omega
                clear hlq
                by_cases h2q : l5q.runs.length = 2
                · rw [if_pos h2q] at o5
                  have e2 : ((l5q.runs.length : Int) == 2) = true := by simp; omega
                  rw [decide_eq_true h2q] at hset
                  clear h2q
                  go_wp2_with (first
                    | (go_at_call 34; refine calls_same (runCount_any H6 _ q rfl l5q HQ.out) ?_)
                    | (go_at_call 31; refine calls_same (freshPieces_any _ (q + 1) (by omega) (by omega) _) ?_)
                    | (go_at_call 35; refine (mergedShape_any H6 _ q rfl l5q HQ.out).mono ?_; rintro e w7 ⟨rfl, hb7⟩))
                  go_roundw
                  case rel => exact ⟨q + 1, by omega, by go_num, H6.below hb7, bl6.trans (hb7.mono H6.base_le)⟩
                  case measure => simp [intOf]; omega
                · rw [if_neg h2q] at o5
                  have e2 : ((l5q.runs.length : Int) == 2) = false := by simp; omega
                  rw [decide_eq_false h2q] at hset
                  clear h2q
                  go_wp2_with (first
                    | (go_at_call 34; refine calls_same (runCount_any H6 _ q rfl l5q HQ.out) ?_)
                    | (go_at_call 35; refine (mergedShape_any H6 _ q rfl l5q HQ.out).mono ?_; rintro e w7 ⟨rfl, hb7⟩))
                  go_roundw
                  case rel => exact ⟨q + 1, by omega, by go_num, H6.below hb7, bl6.trans (hb7.mono H6.base_le)⟩
                  case measure => simp [intOf]; omega
              · go_wp2
                go_roundw
                case rel => exact ⟨s + 1, by omega, by go_num, bl6, la5, lc5, ls5, m5, H6, S5⟩
                case measure => simp [intOf]; omega
      · by_cases hk0 : k < 0
        · clear hk
          go_wp2_with fail
          go_roundw
          case rel => exact ⟨s + 1, by omega, by go_num, hbl, la, lc, ls, mg, H, S⟩
          case measure => simp [intOf]; omega
        · by_cases hk1 : 19 < k
          · clear hk
            go_wp2_with fail
            go_roundw
            case rel => exact ⟨s + 1, by omega, by go_num, hbl, la, lc, ls, mg, H, S⟩
            case measure => simp [intOf]; omega
          · have hk2 : (ls.length : Int) < k := by omega
            clear hk
            go_wp2_with (go_at_call 28; refine calls_same (levelCount_any H) ?_)
            go_roundw
            case rel => exact ⟨s + 1, by omega, by go_num, hbl, la, lc, ls, mg, H, S⟩
            case measure => simp [intOf]; omega
    · go_wp2
      go_ret
      exact ⟨rfl, hb1.trans (hbl.mono (by rw [← HB.out]; exact hb1.size))⟩
end Go.Proofs.Qxb6601843a
