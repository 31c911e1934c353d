import Derived.Test.Qxb6602168aRen
import Derived.WalkSmall
namespace Go.Proofs.Qxb6602168a
open Go.RowKit
theorem VRow.keep {w : World} {N : Nat} {ty : TypeId} {len : Nat} {P : Nat → Prop} {f : Nat → Value} (h : VRow w N ty len P f) {X : Nat} (hX : N ≠ X) (o : Nat) (v : Value) : VRow (w.setCell ⟨X, o, none⟩ v) N ty len P f := by
  obtain ⟨cs, h1, h2, h3⟩ := h
  exact ⟨cs, (heap_setCell_other w ⟨X, o, none⟩ N v hX).trans h1, h2, h3⟩
theorem VRow.drewN {w : World} {N : Nat} {ty : TypeId} {len : Nat} {P : Nat → Prop} {f : Nat → Value} (h : VRow w N ty len P f) (m : Nat) : VRow (w.drewN m) N ty len P f := h
theorem VRow.first (w : World) (ty : TypeId) (len : Nat) (f : Nat → Value) (h0 : 0 < len) : VRow (w.alloc (.cells (madeCells #[f 0] len) ty)) w.heap.size ty len (fun p => p < 1) f := by
  refine ⟨_, heap_alloc_new w _, by simp [madeCells], fun p hp => ?_⟩
  have : p = 0 := by omega
  subst this
  have e := toList_madeCells_one (f 0) len
  rw [← Array.getElem?_toList, e]
  simp [h0]
set_option maxHeartbeats 800000 in
theorem prefix_any (a : Option Addr) (n c : Nat) (S : Nat → ByteArray) (w : World) (hr : SRd w a n S) (hn : n ≤ 65536) (hp : psz S n ≤ 1048576) :
    Calls Try.prog 15 #[.slice a n c] w fun e w' => e = .returned (.slice (some ⟨w.heap.size, 0, none⟩) ((n + 1 : Nat)) ((n + 1 : Nat))) ∧ VRow w' w.heap.size 3 (n + 1) (fun p => p < n + 1) (fun p => .int .i64 (psz S p : Nat)) ∧ Below w.heap.size w w' := by
  have hm : ∀ w, Sem.run Try.prog (Instr.makeSlice 32 (Value.int .i64 ((n : Int) + 1)) (Value.int .i64 ((n : Int) + 1))) w = _ := make32 (n + 1) (by omega)
  have H0 := hideE (VRow.first w 3 (n + 1) (fun p => .int .i64 (psz S p : Nat)) (by omega))
  go_enter Try.func15, Try.ntmps15
  go_wp2_with fail
  go_loopw [4] (fun i wr => ∃ k : Nat, k ≤ n ∧ i = .int .i64 k ∧ VRow wr w.heap.size 3 (n + 1) (fun p => p < k + 1) (fun p => .int .i64 (psz S p : Nat)) ∧ Below w.heap.size w wr) (fun i _ => n - (intOf i).toNat)
  case atStart => exact ⟨0, Nat.zero_le _, rfl, H0.out, (Below.refl _ _).alloc (Nat.le_refl _) _⟩
  case round =>
    clear H0
    obtain ⟨k, hk, rfl, hrow, hbl⟩ := hrel
    by_cases hlt : k < n
    · obtain ⟨b, off, ex, hbw, hc⟩ := hr.at hlt
      cases ex
      have hcell : wr.cell? ⟨b, off + k, none⟩ = some (.string (S k)) := (hbl.cell (p := ⟨b, off + k, none⟩) hbw).trans (hc k hlt)
      have hpre : wr.cell? ⟨w.heap.size, k, none⟩ = some (.int .i64 (psz S k : Nat)) := hrow.cell k (by omega)
      obtain ⟨⟨u, hu⟩, hz⟩ := hrow.dst (k + 1) (by omega)
      have hpk := psz_mono S (show k + 1 ≤ n by omega)
      have e1 : psz S (k + 1) = psz S k + (S k).size := rfl
      have HR := hideE (((VRow.drewN hrow 1).put (k + 1) (by omega)).mono (P' := fun p => p < k + 1 + 1) (fun p hp => by by_cases e : p = k + 1; exact .inr e; exact .inl (by omega)))
      have HB := hideE ((below_drewN hbl 1).setCell (p := ⟨w.heap.size, k + 1, none⟩) (Nat.le_refl _) (.int .i64 (psz S (k + 1) : Nat)))
      rw [e1] at HB hpk
      clear hrow hbl hc
      go_wp2_with fail
      go_region
      go_wp2_with fail
      go_roundw
      case rel => exact ⟨k + 1, by omega, by go_num, HR.out, HB.out⟩
      case measure => simp [intOf]; omega
    · have e : k = n := by omega
      subst e
      go_wp2_with fail
      go_ret
      exact ⟨rfl, hrow, hbl⟩
set_option maxHeartbeats 800000 in
theorem len_any (N n c s e : Nat) (S : Nat → ByteArray) (w : World) (h : VRow w N 3 (n + 1) (fun p => p < n + 1) (fun p => .int .i64 (psz S p : Nat))) (hp : psz S n ≤ 1048576) (hn : n ≤ 65536) (hs : s < e) (he : e ≤ n) :
    Calls Try.prog 16 #[.slice (some ⟨N, 0, none⟩) ((n + 1 : Nat)) c, .int .i64 s, .int .i64 e] w fun x w' => x = .returned (.int .i64 (lenr (fun i => bs (S i)) s e : Nat)) ∧ ∃ m, w' = w.drewN m := by
  have c1 : w.cell? ⟨N, e, none⟩ = some (.int .i64 (psz S e : Nat)) := h.cell e (by omega)
  have c2 : w.cell? ⟨N, s, none⟩ = some (.int .i64 (psz S s : Nat)) := h.cell s (by omega)
  have m1 := psz_mono S (Nat.le_of_lt hs)
  have m2 := psz_mono S he
  have hv : (13 + ((psz S e : Nat) - (psz S s : Nat) : Int)) + 2 * ((e : Int) - (s : Int) - 1) = ((lenr (fun i => bs (S i)) s e : Nat) : Int) := by
    unfold lenr
    rw [pre_psz, pre_psz]
    omega
  generalize lenr (fun i => bs (S i)) s e = lr at *
  go_enter Try.func16, Try.ntmps16
  go_wp2_with fail
  go_quiet (fail)
  go_wp2_with fail
  go_ret
  exact ⟨rfl, nq, rfl⟩
/-- dp's row, p < i known; pre's row; what the loops keep -/
structure DpSt (w wr : World) (lim : Int) (S : Nat → ByteArray) (n N1 N2 i : Nat) : Prop where
  ne : N1 ≠ N2
  b2 : w.heap.size ≤ N2
  pre : VRow wr N1 3 (n + 1) (fun p => p < n + 1) (fun p => .int .i64 (psz S p : Nat))
  dp : VRow wr N2 3 (n + 1) (fun p => p < i) (fun p => .int .i64 (G lim (fun i => bs (S i)) p : Nat))
  bl : Below w.heap.size w wr
theorem DpSt.drewN {w wr : World} {lim : Int} {S : Nat → ByteArray} {n N1 N2 i : Nat} (h : DpSt w wr lim S n N1 N2 i) (m : Nat) : DpSt w (wr.drewN m) lim S n N1 N2 i :=
  ⟨h.ne, h.b2, h.pre.drewN m, h.dp.drewN m, below_drewN h.bl m⟩
theorem DpSt.put {w wr : World} {lim : Int} {S : Nat → ByteArray} {n N1 N2 i : Nat} (h : DpSt w wr lim S n N1 N2 i) (hi : i ≤ n) : DpSt w (wr.setCell ⟨N2, i, none⟩ (.int .i64 (G lim (fun i => bs (S i)) i : Nat))) lim S n N1 N2 (i + 1) :=
  ⟨h.ne, h.b2, h.pre.keep h.ne _ _, (h.dp.put i (by omega)).mono (fun p hp => by by_cases e : p = i; exact .inr e; exact .inl (by omega)), h.bl.setCell (p := ⟨N2, i, none⟩) h.b2 _⟩
set_option maxHeartbeats 2000000 in
set_option maxRecDepth 20000 in
theorem fewest_any (a : Option Addr) (n c : Nat) (S : Nat → ByteArray) (lim : Int) (w : World) (hr : SRd w a n S) (hn : n ≤ 4096) (hp : psz S n ≤ 1048576) (hne : ∀ i, i < n → 0 < (S i).size) :
    Calls Try.prog 12 #[.slice a n c, .int .i64 lim] w fun e w' => e = .returned (.int .i64 (G lim (fun i => bs (S i)) n : Nat)) ∧ Below w.heap.size w w' := by
  have HM : Hid (∀ i, i < n → 0 < ((fun i => bs (S i)) i).length) := fun i hi => by rw [bs_len]; exact hne i hi
  clear hne
  have hm : ∀ w, Sem.run Try.prog (Instr.makeSlice 32 (Value.int .i64 ((n : Int) + 1)) (Value.int .i64 ((n : Int) + 1))) w = _ := make32 (n + 1) (by omega)
  have HG : Hid (∀ k, k ≤ n → G lim (fun i => bs (S i)) k ≤ k) := fun k hk => (gok lim _ n HM.out k hk).cnt
  go_enter Try.func12, Try.ntmps12
  go_wp2_with fail
  refine (prefix_any a n c S w hr (by omega) hp).mono ?_
  rintro e w1 ⟨rfl, P1, B1⟩
  have D0 : Hid (DpSt w (w1.alloc (Obj.cells (madeCells #[.int .i64 0] (n + 1)) 3)) lim S n w.heap.size w1.heap.size 1) := by
    have hlt := P1.lt
    refine ⟨by omega, by omega, P1.below ((Below.refl w1.heap.size w1).alloc (Nat.le_refl _) _) hlt, ?_, (B1.alloc (by omega) _)⟩
    have := VRow.first w1 3 (n + 1) (fun p => .int .i64 (G lim (fun i => bs (S i)) p : Nat)) (by omega)
    exact this
  clear P1 B1
  have hN1 : Hid (w.heap.size = w.heap.size) := rfl
  go_wp2_with fail
  go_loopw [8] (fun i wr => ∃ q : Nat, q ≤ n ∧ i = .int .i64 ((q : Int) + 1) ∧ DpSt w wr lim S n w.heap.size w1.heap.size (q + 1)) (fun i _ => n + 1 - (intOf i).toNat)
  case atStart => exact ⟨0, Nat.zero_le _, rfl, D0.out⟩
  case round =>
    clear D0 hm
    obtain ⟨q, hq, rfl, D⟩ := hrel
    by_cases hlt : q < n
    · have hcell : wr.cell? ⟨w1.heap.size, q, none⟩ = some (.int .i64 (G lim (fun i => bs (S i)) q : Nat)) := D.dp.cell q (by omega)
      have hg := HG.out q (by omega)
      have I0 := hideE (Inner.init (lim := lim) HM.out hlt)
      have hd : decide ((q : Int) + 1 ≤ (n : Int)) = true := decide_eq_true (by omega)
      go_wp2_with fail
      go_loopw [9, 10] (fun b j wx => ∃ bst jj : Nat, jj ≤ q ∧ j = .int .i64 ((jj : Int) - 1) ∧ b = .int .i64 bst ∧ bst ≤ q + 1 ∧ Inner lim (fun i => bs (S i)) (q + 1) bst jj ∧ DpSt w wx lim S n w.heap.size w1.heap.size (q + 1)) (fun _ j _ => (intOf j + 1).toNat)
      case atStart => exact ⟨G lim (fun i => bs (S i)) q + 1, q, Nat.le_refl _, by go_num, by go_num, by omega, I0.out, D⟩
      case round =>
        clear I0 hcell hg D
        obtain ⟨bst, jj, hjj, rfl, rfl, hb, I, D⟩ := hrel
        have Dp := hideE (D.put (by omega))
        obtain ⟨⟨u, hu⟩, hz⟩ := D.dp.dst (q + 1) (by omega)
        cases jj with
        | zero =>
          have e := I.done
          rw [← e] at Dp
          clear I D e
          go_wp2_with fail
          go_roundw
          case rel => exact ⟨q + 1, by omega, by go_num, Dp.out⟩
          case measure => simp [intOf]; omega
        | succ jp =>
          have hg := HG.out jp (by omega)
          have HL := hideE (len_any w.heap.size n (n + 1) jp (q + 1) S wr D.pre hp (by omega) (by omega) (by omega))
          have HI1 := hideE (I.stop (by omega))
          have HI2 := hideE (I.next (by omega))
          clear I
          have hj1 : ((jp + 1 : Nat) : Int) - 1 = (jp : Int) := by omega
          rw [hj1]
          generalize lenr (fun i => bs (S i)) jp (q + 1) = lr at *
          go_wp2_with fail
          refine (by simpa using HL.out : Calls Try.prog 16 #[.slice (some ⟨w.heap.size, 0, none⟩) (n + 1) (n + 1), .int .i64 (jp : Int), .int .i64 ((q : Int) + 1)] wr _).mono ?_
          rintro e w3 ⟨rfl, m3, hw3⟩
          have D3 := D.drewN m3
          rw [← hw3] at D3
          clear hw3 D Dp hu hz HL
          have Dp := hideE (D3.put (by omega))
          obtain ⟨⟨u, hu⟩, hz⟩ := D3.dp.dst (q + 1) (by omega)
          by_cases hl : lim < (lr : Int)
          · have e := HI1.out hl
            rw [← e] at Dp
            clear e HI1 HI2 D3
            go_wp2_with fail
            go_roundw
            case rel => exact ⟨q + 1, by omega, by go_num, Dp.out⟩
            case measure => simp [intOf]; omega
          · have hcell : w3.cell? ⟨w1.heap.size, jp, none⟩ = some (.int .i64 (G lim (fun i => bs (S i)) jp : Nat)) := D3.dp.cell jp (by omega)
            have I2 := HI2.out (by omega)
            clear HI1 HI2 Dp
            by_cases hlb : G lim (fun i => bs (S i)) jp + 1 < bst
            · rw [if_pos hlb] at I2
              generalize G lim (fun i => bs (S i)) jp = gj at *
              go_wp2_with fail
              go_roundw
              case rel => exact ⟨gj + 1, jp, by omega, by go_num, by go_num, by omega, I2, D3⟩
              case measure => simp [intOf]
            · rw [if_neg hlb] at I2
              generalize G lim (fun i => bs (S i)) jp = gj at *
              go_wp2_with fail
              go_roundw
              case rel => exact ⟨bst, jp, by omega, by go_num, rfl, by omega, I2, D3⟩
              case measure => simp [intOf]
    · have e : q = n := by omega
      subst e
      have hcell : wr.cell? ⟨w1.heap.size, q, none⟩ = some (.int .i64 (G lim (fun i => bs (S i)) q : Nat)) := D.dp.cell q (by omega)
      go_wp2_with fail
      go_ret
      exact ⟨rfl, D.bl⟩
set_option maxHeartbeats 2000000 in
theorem few_any (a : Option Addr) (n c : Nat) (S : Nat → ByteArray) (lim : Int) (hnil : a = none → n = 0 ∧ c = 0) (w : World) (hr : SRd w a n S) :
    Calls Try.prog 4 #[.slice a n c, .int .i64 lim] w fun e w' => e = .returned (.bool true) ∧ Below w.heap.size w w' := by
  go_enter Try.func4, Try.ntmps4
  go_wp2_with fail
  refine (bytes11 a n c S lim w hr).mono ?_
  rintro e w' ⟨⟨b, rfl⟩, hw'⟩
  subst hw'
  cases b
  · go_wp2_with fail
    go_ret
    exact ⟨rfl, Below.refl _ _⟩
  go_wp2_with fail
  refine (zrBytes_any a n c S _ hr).mono ?_
  rintro e w' ⟨⟨z, rfl, hz⟩, hw'⟩
  subst hw'
  by_cases hz1 : z ≤ 1048576
  case neg =>
    go_wp2_with fail
    go_ret
    exact ⟨rfl, Below.refl _ _⟩
  obtain ⟨hn, hps⟩ := hz hz1
  clear hz
  by_cases hn1 : n ≤ 4096
  case neg =>
    go_wp2_with fail
    go_ret
    exact ⟨rfl, Below.refl _ _⟩
  go_wp2_with fail
  refine (nonEmpty_any a n c S _ (by omega) hr).mono ?_
  rintro e w' ⟨⟨b, rfl, hne⟩, hw'⟩
  subst hw'
  cases b
  · go_wp2_with fail
    go_ret
    exact ⟨rfl, Below.refl _ _⟩
  have HNE := hideE (hne rfl)
  clear hne
  go_wp2_with fail
  refine (clone_any a n c S hnil _ hr (by omega)).mono ?_
  rintro e w1 ⟨a', c', rfl, hr1, B1⟩
  go_wp2_with fail
  refine (zzren_any a' n c' S lim w1 hr1 hn (by omega) HNE.out).mono ?_
  rintro e w2 ⟨v, rfl, T, B2⟩
  have hv : ∃ a5 c5, v = .slice a5 (G lim (fun i => bs (S i)) n) c5 := by
    have e1 : (List.map (fun x => head ++ x) (gst lim (fun i => bs (S i)) n).out).length = G lim (fun i => bs (S i)) n := by rw [List.length_map, St.out_length]; rfl
    rcases T.2 with ⟨rfl, h0⟩ | ⟨g, c5, cur, rfl, _⟩
    · exact ⟨none, 0, by rw [← e1, h0]⟩
    · exact ⟨some ⟨g, 0, none⟩, c5, by rw [e1]⟩
  obtain ⟨a5, c5, rfl⟩ := hv
  have HF := hideE (fewest_any a' n c' S lim w2 (hr1.below B2) hn1 (by omega) HNE.out)
  clear T hr
  generalize G lim (fun i => bs (S i)) n = gn at *
  go_wp2_with fail
  refine HF.out.mono ?_
  rintro e w3 ⟨rfl, B3⟩
  go_wp2_with fail
  go_ret
  have b1 := B1.trans (B2.mono B1.size)
  exact ⟨rfl, b1.trans (B3.mono b1.size)⟩
end Go.Proofs.Qxb6602168a
