import Derived.Test.Qxb6602168aJoin
import Derived.Deep.RegionWith
import Derived.WalkSmall
namespace Go.Proofs.Qxb6602168a
open Go.RowKit
theorem TOwn.form {w : World} {base : Nat} {v : Value} {ss : List Bs} (h : TOwn w base v ss) : ∃ a c, v = .slice a ss.length c ∧ SRd w a ss.length (fun i => mkS (at_ ss i)) := by
  have hc := h
  rcases h.2 with ⟨rfl, h0⟩ | ⟨g, c, cur, rfl, _⟩
  · exact ⟨none, 0, by rw [h0], fun p hp => by omega⟩
  · refine ⟨_, c, rfl, fun p hp => ⟨g, 0, rfl, ?_⟩⟩
    have := World.ownsRow.cells hc (g := g) rfl p (.string (mkS (at_ ss p))) (by simp [hp, at_lt])
    have e : (⟨g, 0, none⟩ : Addr).add p = ⟨g, p, none⟩ := by unfold Addr.add; split <;> simp_all
    rw [e] at this
    rw [Nat.zero_add]; exact this
theorem at_map (f : Bs → Bs) (ss : List Bs) {i : Nat} (h : i < ss.length) : at_ (ss.map f) i = f (at_ ss i) := by
  rw [at_lt h, at_lt (by simpa using h), List.getElem_map]
/-- what the law's second half asks of the statements' bodies -/
structure Outs (lim : Int) (m : Nat → Bs) (n : Nat) (os : List Bs) : Prop where
  le : os.length ≤ n
  z : os.length = 0 ↔ n = 0
  ne : ∀ i, i < os.length → 0 < (at_ os i).length
  fit : (∀ i, i < n → (13 + (m i).length : Nat) ≤ lim) → ∀ i, i < os.length → ((13 + (at_ os i).length : Nat) : Int) ≤ lim
  join : jn (at_ os) os.length = jn m n
theorem outs_of (lim : Int) (m : Nat → Bs) (n : Nat) (hm : ∀ i, i < n → 0 < (m i).length) : Outs lim m n (gst lim m n).out := by
  have h := gok lim m n hm n (Nat.le_refl _)
  have hj := h.join
  unfold jl at hj
  have hmem : ∀ x ∈ (gst lim m n).out, x ∈ (gst lim m n).ss ∨ (x = (gst lim m n).b ∧ 0 < (gst lim m n).b.length) := by
    intro x hx
    unfold St.out at hx
    split at hx
    · rw [List.mem_append] at hx
      rcases hx with hx | hx
      · exact .inl hx
      · exact .inr ⟨by simpa using hx, by assumption⟩
    · exact .inl hx
  refine ⟨?_, ?_, fun i hi => ?_, fun hall i hi => ?_, hj⟩
  · rw [St.out_length]; exact h.cnt
  · rw [St.out_length]
    constructor
    · intro e
      apply Nat.eq_zero_of_not_pos
      intro hn
      have := h.pos hn
      unfold St.count at e
      rw [if_pos this] at e
      omega
    · intro e
      have := h.cnt
      omega
  · rw [at_lt hi]
    rcases hmem _ (List.getElem_mem hi) with h1 | ⟨h1, h2⟩
    · exact h.ne _ h1
    · rw [h1]; exact h2
  · rw [at_lt hi]
    obtain ⟨f1, f2⟩ := h.fit hall
    rcases hmem _ (List.getElem_mem hi) with h1 | ⟨h1, h2⟩
    · exact f1 _ h1
    · rw [h1]
      refine f2 (Nat.pos_of_ne_zero fun e => ?_)
      have := (h.zero e).2
      rw [this] at h2
      simp at h2
theorem cut_head (x : Bs) : ((mkS (head ++ x)).extract 0 13).toList = [82, 69, 78, 65, 77, 69, 32, 84, 65, 66, 76, 69, 32] := by
  rw [ByteArray.toList_eq, ByteArray.data_extract]
  simp [mkS, head]
theorem cut_body (x : Bs) : (mkS (head ++ x)).extract 13 (13 + x.length) = mkS x := by
  apply ByteArray.ext
  rw [ByteArray.data_extract]
  apply Array.ext'
  simp [mkS, head]
theorem jo_len {lim : Int} {m : Nat → Bs} {n : Nat} {os : List Bs} (h : Outs lim m n os) {j : Nat} (hj : j ≤ os.length) : (jn (at_ os) j).length ≤ (jn m n).length := by
  rw [← h.join]
  have step : ∀ k, (jn (at_ os) k).length ≤ (jn (at_ os) (k + 1)).length := by
    intro k
    simp only [jn]
    split <;> simp only [List.length_append] <;> omega
  have : ∀ d, (jn (at_ os) j).length ≤ (jn (at_ os) (j + d)).length := by
    intro d
    induction d with
    | zero => exact Nat.le_refl _
    | succ d ih => exact Nat.le_trans ih (step _)
  have e := this (os.length - j)
  rwa [show j + (os.length - j) = os.length by omega] at e
theorem jn_succ_len (f : Nat → Bs) (j : Nat) : (jn f (j + 1)).length = (if 0 < j then (jn f j).length + 2 else (jn f j).length) + (f j).length := by
  simp only [jn]
  split
  · simp [sep]; omega
  · simp
attribute [local go_sem ↓] wp_app
set_option maxHeartbeats 2000000 in
set_option maxRecDepth 20000 in
theorem keep_any (a : Option Addr) (n c : Nat) (S : Nat → ByteArray) (lim : Int) (hnil : a = none → n = 0 ∧ c = 0) (w : World) (hr : SRd w a n S) :
    Calls Try.prog 3 #[.slice a n c, .int .i64 lim] w fun e w' => e = .returned (.bool true) ∧ Below w.heap.size w w' := by
  go_enter Try.func3, Try.ntmps3
  go_wp2_with fail
  refine (bytes5 a n c S lim w hr).mono ?_
  rintro e w' ⟨⟨b, rfl⟩, hw'⟩
  subst hw'
  cases b
  · go_wp2_with fail
    go_ret
    exact ⟨rfl, Below.refl _ _⟩
  go_wp2_with fail
  refine (zrBytes_any a n c S _ hr).mono ?_
  rintro e w' ⟨⟨z, rfl, hz⟩, hw'⟩
  subst hw'
  by_cases hz1 : z ≤ 1048576
  case neg =>
    go_wp2_with fail
    go_ret
    exact ⟨rfl, Below.refl _ _⟩
  obtain ⟨hn, hps⟩ := hz hz1
  clear hz
  go_wp2_with fail
  refine (nonEmpty_any a n c S _ (by omega) hr).mono ?_
  rintro e w' ⟨⟨b, rfl, hne⟩, hw'⟩
  subst hw'
  cases b
  · go_wp2_with fail
    go_ret
    exact ⟨rfl, Below.refl _ _⟩
  have HNE := hideE (hne rfl)
  clear hne
  go_wp2_with fail
  refine (clone_any a n c S hnil _ hr (by omega)).mono ?_
  rintro e w1 ⟨a', c', rfl, hr1, B1⟩
  go_wp2_with fail
  refine (zzren_any a' n c' S lim w1 hr1 hn (by omega) HNE.out).mono ?_
  rintro e w2 ⟨v, rfl, T, B2⟩
  obtain ⟨a5, c5, rfl, hg⟩ := T.form
  rw [List.length_map] at hg ⊢
  have HO := hideE (outs_of lim (fun i => bs (S i)) n (fun i hi => by rw [bs_len]; exact HNE.out i hi))
  generalize (gst lim (fun i => bs (S i)) n).out = os at *
  clear T hr
  replace hr1 := hr1.below B2
  have B3 := B1.trans (B2.mono B1.size)
  clear B1 B2
  have hle := HO.out.le
  have hzz := HO.out.z
  generalize hLe : os.length = L at *
  have HL := hideE hLe
  clear hLe
  have hd1 : ((L : Int) == 0) = ((n : Int) == 0) := by
    by_cases e : n = 0
    · rw [hzz.2 e, e]
    · have e1 : ¬ L = 0 := fun h => e (hzz.1 h)
      have e2 : ((L : Int) == 0) = false := by rw [beq_eq_false_iff_ne]; omega
      have e3 : ((n : Int) == 0) = false := by rw [beq_eq_false_iff_ne]; omega
      rw [e2, e3]
  clear hzz
  go_wp2_with fail
  go_loop [6, 7] (fun f i => ∃ (k : Nat) (b : Bool), k ≤ n ∧ i = .int .i64 k ∧ f = .bool b ∧ (b = true → ∀ i, i < k → ((13 + (S i).size : Nat) : Int) ≤ lim)) (fun _ i => n - (intOf i).toNat)
  case atStart => exact ⟨0, true, Nat.zero_le _, rfl, rfl, fun _ q hq => absurd hq (Nat.not_lt_zero _)⟩
  case round =>
    obtain ⟨k, b, hk, rfl, rfl, hf⟩ := hrel
    by_cases hlt : k < n
    · obtain ⟨bb, off, ea, hbw, hc⟩ := hr1.at hlt
      subst ea
      have hcell := hc k hlt
      clear hc
      have hsz := psz_mono S (show k + 1 ≤ n by omega)
      simp only [psz] at hsz
      by_cases hfit : lim < 13 + ((S k).size : Int)
      · go_wp2_with fail
        go_round
        case rel => exact ⟨k + 1, false, by omega, by go_num, rfl, (fun h => nomatch h)⟩
        case measure => simp [intOf]; omega
      · have HF : Hid (b = true → ∀ i, i < k + 1 → ((13 + (S i).size : Nat) : Int) ≤ lim) := fun hb q hq => by
          by_cases e : q = k
          · subst e; omega
          · exact hf hb q (by omega)
        go_wp2_with fail
        go_round
        case rel => exact ⟨k + 1, b, by omega, by go_num, rfl, HF.out⟩
        case measure => simp [intOf]; omega
    · have e : k = n := by omega
      subst e
      have HF : Hid (b = true → ∀ i, i < L → ((13 + (at_ os i).length : Nat) : Int) ≤ lim) := fun hb i hi =>
        HO.out.fit (fun q hq => by rw [bs_len]; exact hf hb q hq) i (by rw [HL.out]; exact hi)
      clear hf
      go_wp2_with fail
      go_loopw [8, 9] (fun v i wr => ∃ j : Nat, j ≤ L ∧ i = .int .i64 j ∧ BOwn wr w2.heap.size v (jn (at_ os) j) ∧ Below w2.heap.size w2 wr) (fun _ i _ => L - (intOf i).toNat)
      case atStart => exact ⟨0, Nat.zero_le _, rfl, World.ownsRow_nil _ _ _ _, Below.refl _ _⟩
      case round =>
        obtain ⟨j, hj, rfl, R, rb⟩ := hrel
        by_cases hjl : j < L
        · obtain ⟨b3, off, ea, hbw, hc⟩ := hg.at hjl
          subst ea
          have hcell : wr.cell? ⟨b3, off + j, none⟩ = some (.string (mkS (at_ (os.map (head ++ ·)) j))) := (rb.cell (p := ⟨b3, off + j, none⟩) hbw).trans (hc j hjl)
          rw [at_map _ _ (by rw [HL.out]; exact hjl)] at hcell
          clear hc
          have h0 := HO.out.ne j (by rw [HL.out]; exact hjl)
          have hf0 := HF.out
          have gl1 := jo_len HO.out (show j ≤ os.length by rw [HL.out]; exact hj)
          have gl2 := jo_len HO.out (show j + 1 ≤ os.length by rw [HL.out]; exact hjl)
          have gl3 := jn_len S k
          have HJ : Hid (jn (at_ os) (j + 1) = (if 0 < j then jn (at_ os) j ++ sep else jn (at_ os) j) ++ at_ os j) := rfl
          have gl4 := jn_succ_len (at_ os) j
          obtain ⟨a8, c8, rfl⟩ := R.form
          generalize hx : at_ os j = x at *
          generalize hy : jn (at_ os) j = y at *
          generalize hyl : y.length = yl at *
          have HY := hideE hyl
          clear hyl
          have hsz : (mkS (head ++ x)).size = 13 + x.length := by rw [mkS_size, List.length_append]; rfl
          have hhd := cut_head x
          have hbd := cut_body x
          have hxs := mkS_size x
          have hfb : (b && decide (lim < 13 + (x.length : Int))) = false := by
            cases hb : b
            · rfl
            · have := hf0 hb j hjl
              rw [hx] at this
              have : ¬ lim < 13 + (x.length : Int) := by omega
              simp [this]
          clear hf0
          by_cases hj0 : 0 < j
          · rw [if_pos hj0] at gl4
            obtain ⟨g1, c1, w3, ap1, Q1, B1⟩ := app_any R HY.out ⟨#[44, 32]⟩ (by show _ + 2 ≤ _; omega) (by show 0 < _ + 2; omega) rb.size
            have hs2 : ByteArray.size ⟨#[44, 32]⟩ = 2 := rfl
            rw [hs2] at ap1 Q1
            obtain ⟨g2, c2, w4, ap2, Q2, B2⟩ := app_any Q1 (by rw [List.length_append, HY.out]; rfl) (mkS x) (by omega) (by omega) (by have := rb.size; have := B1.size; omega)
            have R3 : Hid (BOwn w4 w2.heap.size (.slice (some ⟨g2, 0, none⟩) (yl + 2 + (mkS x).size) c2) (jn (at_ os) (j + 1))) := by
              rw [HJ.out, if_pos hj0]
              exact Q2
            have BB := hideE ((rb.trans B1).trans B2)
            clear Q1 Q2 R B1 B2 rb gl1 gl2 gl3 gl4 HJ
            cases b
            · go_wp2_with fail
              go_roundw
              case rel => exact ⟨j + 1, by omega, by go_num, R3.out, BB.out⟩
              case measure => simp [intOf]; omega
            · have hfb' : ¬ lim < 13 + (x.length : Int) := by simpa using hfb
              go_wp2_with fail
              go_roundw
              case rel => exact ⟨j + 1, by omega, by go_num, R3.out, BB.out⟩
              case measure => simp [intOf]; omega
          · rw [if_neg hj0] at gl4
            obtain ⟨g2, c2, w4, ap2, Q2, B2⟩ := app_any R HY.out (mkS x) (by omega) (by omega) rb.size
            have R3 : Hid (BOwn w4 w2.heap.size (.slice (some ⟨g2, 0, none⟩) (yl + (mkS x).size) c2) (jn (at_ os) (j + 1))) := by
              rw [HJ.out, if_neg hj0]
              exact Q2
            have BB := hideE (rb.trans B2)
            clear Q2 R B2 rb gl1 gl2 gl3 gl4 HJ
            cases b
            · go_wp2_with fail
              go_roundw
              case rel => exact ⟨j + 1, by omega, by go_num, R3.out, BB.out⟩
              case measure => simp [intOf]; omega
            · have hfb' : ¬ lim < 13 + (x.length : Int) := by simpa using hfb
              go_wp2_with fail
              go_roundw
              case rel => exact ⟨j + 1, by omega, by go_num, R3.out, BB.out⟩
              case measure => simp [intOf]; omega
        · have e : j = L := by omega
          subst e
          obtain ⟨a8, c8, rfl⟩ := R.form
          have hjo : jn (at_ os) j = jn (fun i => bs (S i)) k := by rw [← HL.out]; exact HO.out.join
          rw [hjo] at R ⊢
          have HJN := hideE (fun wx (hr : SRd wx a' k S) => join_any a' k c' S wx hr hn (by omega) HNE.out)
          replace hr1 := hr1.below rb
          have R2 := hideE R
          have HCV := hideE (fun (wx : World) (hb : Below wr.heap.size wr wx) => conv_any (own_below R hb) rfl)
          have hcv0 := conv_any (w := wr.drew) R rfl
          have R0 : SRd wr.drew a' k S := hr1
          have HBD := hideE (fun (wx : World) (hb : Below wr.drew.heap.size wr.drew wx) => (below_drewN (Below.refl wr.heap.size wr) 1).trans hb)
          generalize jn (fun i => bs (S i)) k = y at *
          have HE := hideE (beq_self_eq_true (mkS y).toList)
          go_wp2_with fail
          go_region_with (go_at_call 10; refine (HJN.out _ R0).mono ?_; rintro e w9 ⟨rfl, B9⟩; replace B9 := HBD.out w9 B9; have hcv9 := HCV.out w9 B9; have B10 := hideE B9; clear B9)
          all_goals
            go_wp2_with fail
            go_ret
            have b1 := B3.trans (rb.mono B3.size)
            exact ⟨rfl, b1.trans (B10.out.mono b1.size)⟩
end Go.Proofs.Qxb6602168a
