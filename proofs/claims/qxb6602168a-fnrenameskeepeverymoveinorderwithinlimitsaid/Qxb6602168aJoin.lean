import Derived.Test.Qxb6602168aRen
namespace Go.Proofs.Qxb6602168a
open Go.RowKit
theorem jn_len (S : Nat → ByteArray) : ∀ k, (jn (fun i => bs (S i)) k).length ≤ psz S k + 2 * k
  | 0 => Nat.zero_le _
  | k + 1 => by
    have h := jn_len S k
    simp only [jn, psz]
    split
    · simp [sep, bs_len]; omega
    · simp [bs_len]; omega
theorem BOwn.form {w : World} {base : Nat} {v : Value} {x : Bs} (h : BOwn w base v x) : ∃ a c, v = .slice a x.length c := by
  rcases h.2 with ⟨rfl, h0⟩ | ⟨g, c, cur, rfl, _⟩
  · exact ⟨none, 0, by rw [h0]⟩
  · exact ⟨_, c, rfl⟩
theorem conv_any {w : World} {base : Nat} {a : Option Addr} {n c : Nat} {x : Bs} (h : BOwn w base (.slice a n c) x) (hn : x.length = n) : (convert 28 9 (.slice a n c)).run Try.prog w = .ok (.string (mkS x)) w := by
  rcases h.2 with ⟨h1, h0⟩ | ⟨g, c', cur, h1, _⟩
  · cases h1
    have : x = [] := List.eq_nil_of_length_eq_zero h0
    subst this
    exact run_convert_bytes_nil w 28 5 Try.underlying28 Try.underlying5 0 0 9 Try.underlying9
  · cases h1
    exact conv_own h rfl
/-- append(b, s...), onto nil too -/
theorem app_any {w : World} {base : Nat} {a : Option Addr} {n c : Nat} {x : Bs} (h : BOwn w base (.slice a n c) x) (hn : x.length = n) (s : ByteArray) (hl : n + s.size ≤ 100000000) (hx : 0 < n + s.size) (hb : base ≤ w.heap.size) :
    ∃ g cap w', appRun Try.prog 28 9 28 (.slice a n c) (.string s) w = .ok (.slice (some ⟨g, 0, none⟩) (n + s.size) cap) w' ∧ BOwn w' base (.slice (some ⟨g, 0, none⟩) (n + s.size) cap) (x ++ bs s) ∧ Below base w w' := by
  subst hn
  obtain ⟨g, cap, w', h1, h2, h3⟩ := app_str h s hl hx hb
  exact ⟨g, cap, w', h1, h2, below_grownO h3 (fun N hN => (h.lt N hN).1) hb⟩
attribute [local go_sem ↓] wp_app
set_option maxHeartbeats 2000000 in
set_option maxRecDepth 20000 in
theorem join_any (a : Option Addr) (n c : Nat) (S : Nat → ByteArray) (w : World) (hr : SRd w a n S) (hn : n ≤ 65536) (hp : psz S n ≤ 1048576) (hne : ∀ i, i < n → 0 < (S i).size) :
    Calls Try.prog 10 #[.slice a n c] w fun e w' => e = .returned (.string (mkS (jn (fun i => bs (S i)) n))) ∧ Below w.heap.size w w' := by
  have HNE := hideE hne
  clear hne
  go_enter Try.func10, Try.ntmps10
  go_wp2_with fail
  go_loopw [3, 4] (fun v i wr => ∃ k : Nat, k ≤ n ∧ i = .int .i64 k ∧ BOwn wr w.heap.size v (jn (fun i => bs (S i)) k) ∧ Below w.heap.size w wr) (fun _ i _ => n - (intOf i).toNat)
  case atStart => exact ⟨0, Nat.zero_le _, rfl, World.ownsRow_nil _ _ _ _, Below.refl _ _⟩
  case round =>
    obtain ⟨k, hk, rfl, R, rb⟩ := hrel
    have gl := jn_len S k
    have hpk := psz_mono S hk
    obtain ⟨a3, c3, rfl⟩ := R.form
    generalize hx : jn (fun i => bs (S i)) k = x at R gl
    have HX := hideE hx
    clear hx
    generalize hxl : x.length = xl at R gl
    have HXL := hideE hxl
    clear hxl
    by_cases hlt : k < n
    · obtain ⟨b, off, ea, hbw, hc⟩ := hr.at hlt
      subst ea
      have hcell : wr.cell? ⟨b, off + k, none⟩ = some (.string (S k)) := (rb.cell (p := ⟨b, off + k, none⟩) hbw).trans (hc k hlt)
      have hpk1 := psz_mono S (show k + 1 ≤ n by omega)
      simp only [psz] at hpk1
      have h0 := HNE.out k hlt
      clear hc
      by_cases hk0 : 0 < k
      · obtain ⟨g1, c1, w1, ap1, Q1, B1⟩ := app_any R HXL.out ⟨#[44, 32]⟩ (by show _ + 2 ≤ _; omega) (by show 0 < _ + 2; omega) rb.size
        have hs2 : ByteArray.size ⟨#[44, 32]⟩ = 2 := rfl
        rw [hs2] at ap1 Q1
        obtain ⟨g2, c2, w2, ap2, Q2, B2⟩ := app_any Q1 (by rw [List.length_append, HXL.out]; rfl) (S k) (by omega) (by omega) (by have := rb.size; have := B1.size; omega)
        have hcell1 : w1.cell? ⟨b, off + k, none⟩ = some (.string (S k)) := (B1.cell (p := ⟨b, off + k, none⟩) hbw).trans hcell
        have R3 : Hid (BOwn w2 w.heap.size (.slice (some ⟨g2, 0, none⟩) (xl + 2 + (S k).size) c2) (jn (fun i => bs (S i)) (k + 1))) := by
          show BOwn _ _ _ ((if 0 < k then _ else _) ++ _)
          rw [if_pos hk0, HX.out]
          exact Q2
        have BB := hideE ((rb.trans B1).trans B2)
        clear Q1 Q2 R B1 B2 hcell rb
        go_wp2_with fail
        go_roundw
        case rel => exact ⟨k + 1, by omega, by go_num, R3.out, BB.out⟩
        case measure => simp [intOf]; omega
      · obtain ⟨g2, c2, w2, ap2, Q2, B2⟩ := app_any R HXL.out (S k) (by omega) (by omega) rb.size
        have R3 : Hid (BOwn w2 w.heap.size (.slice (some ⟨g2, 0, none⟩) (xl + (S k).size) c2) (jn (fun i => bs (S i)) (k + 1))) := by
          show BOwn _ _ _ ((if 0 < k then _ else _) ++ _)
          rw [if_neg hk0, HX.out]
          exact Q2
        have BB := hideE (rb.trans B2)
        clear Q2 R B2 rb
        go_wp2_with fail
        go_roundw
        case rel => exact ⟨k + 1, by omega, by go_num, R3.out, BB.out⟩
        case measure => simp [intOf]; omega
    · have e : k = n := by omega
      subst e
      have hcv := conv_any R HXL.out
      rw [← HX.out] at hcv
      clear R
      go_wp2_with fail
      go_ret
      exact ⟨rfl, rb⟩
end Go.Proofs.Qxb6602168a
