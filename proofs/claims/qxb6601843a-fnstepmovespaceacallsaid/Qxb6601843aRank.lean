import Derived.Test.Qxb6601843aSmall
namespace Go.Proofs.Qxb6601843a
open Go.RowKit
theorem hideE' {p : Prop} (h : p) : Hid p := h
theorem cntB_unique {D : Two} {t : Int} {c c' : Nat} (h : cntB D t c) (h' : cntB D t c') : c = c' := by
  rcases Nat.lt_trichotomy c c' with e | e | e
  · have a := h'.2.1 c e
    have b := h.2.2 c (Nat.le_refl _) (by have := h'.1; omega)
    omega
  · exact e
  · have a := h.2.1 c' e
    have b := h'.2.2 c' (Nat.le_refl _) (by have := h.1; omega)
    omega
theorem cntA_unique {D : Two} {t : Int} {c c' : Nat} (h : cntA D t c) (h' : cntA D t c') : c = c' := by
  rcases Nat.lt_trichotomy c c' with e | e | e
  · have a := h'.2.1 c e
    have b := h.2.2 c (Nat.le_refl _) (by have := h'.1; omega)
    omega
  · exact e
  · have a := h.2.1 c' e
    have b := h'.2.2 c' (Nat.le_refl _) (by have := h.1; omega)
    omega
/-- the places that the first loop has filled -/
def doneA (D : Two) (k q : Nat) : Prop := q < D.size ∧ D.pick (D.front q).1 (D.front q).2 ∧ (D.front q).1 < k
def doneB (D : Two) (k q : Nat) : Prop := q < D.size ∧ (D.pick (D.front q).1 (D.front q).2 ∨ (D.front q).2 < k)
theorem doneA_step {D : Two} (ok : D.Ok) {k c : Nat} (_hk : k < D.na) (hc : cntB D (D.tA k) c) (q : Nat) (h : doneA D (k + 1) q) : doneA D k q ∨ q = k + c := by
  obtain ⟨h1, h2, h3⟩ := h
  by_cases e : (D.front q).1 < k
  · exact .inl ⟨h1, h2, e⟩
  · right
    have e1 : (D.front q).1 = k := by omega
    have h4 := ok.cntA_of q h1 h2
    rw [e1] at h4
    have := cntB_unique hc h4
    have := D.front_add q
    omega
theorem doneB_step {D : Two} (ok : D.Ok) {k c : Nat} (hc : cntA D (D.tB k) c) (q : Nat) (h : doneB D (k + 1) q) : doneB D k q ∨ q = k + c := by
  obtain ⟨h1, h2⟩ := h
  by_cases hp : D.pick (D.front q).1 (D.front q).2
  · exact .inl ⟨h1, .inl hp⟩
  · have h3 := h2.resolve_left hp
    by_cases e : (D.front q).2 < k
    · exact .inl ⟨h1, .inr e⟩
    · right
      have e1 : (D.front q).2 = k := by omega
      have h4 := (ok.cntB_of q h1 hp).2
      rw [e1] at h4
      have := cntA_unique hc h4
      have := D.front_add q
      omega
theorem eP_A {D : Two} {n i j : Nat} (hf : D.front n = (i, j)) (hp : D.pick i j) : D.eP n = D.pA i := by simp only [Two.eP, hf]; rw [if_pos hp]
theorem eP_B {D : Two} {n i j : Nat} (hf : D.front n = (i, j)) (hp : ¬ D.pick i j) : D.eP n = D.pB j := by simp only [Two.eP, hf]; rw [if_neg hp]
set_option maxRecDepth 20000 in
set_option maxHeartbeats 2000000 in
theorem rank_any (D : Two) (ok : D.Ok) (a1 a2 a3 a4 : Option Addr) (c1 c2 c3 c4 : Nat) (w : World) (h1 : FRd w a1 .i32 D.na D.tA) (h2 : FRd w a2 .i32 D.na D.pA) (h3 : FRd w a3 .i32 D.nb D.tB) (h4 : FRd w a4 .i32 D.nb D.pB) :
    Calls Try.prog 15 #[.slice a1 D.na c1, .slice a2 D.na c2, .slice a3 D.nb c3, .slice a4 D.nb c4] w fun e w' => e = .returned (.tuple #[.slice (some ⟨w.heap.size, 0, none⟩) D.size D.size, .slice (some ⟨w.heap.size + 1, 0, none⟩) D.size D.size]) ∧
      PRow w' w.heap.size 21 .i32 D.size (fun q => q < D.size) D.eT ∧ PRow w' (w.heap.size + 1) 21 .i32 D.size (fun q => q < D.size) D.eP ∧ Below w.heap.size w w' := by
  have OK : Hid D.Ok := ok
  have hla := ok.la
  have hlb := ok.lb
  have hsz : (D.na : Int) + (D.nb : Int) = (D.size : Int) := by unfold Two.size; omega
  have HS : Hid (D.size = D.na + D.nb) := rfl
  have hm := make22 D.size (by unfold Two.size; omega)
  have P1 : Hid (PRow ((w.alloc (Obj.cells (madeCells #[.int .i32 0] D.size) 21)).alloc (Obj.cells (madeCells #[.int .i32 0] D.size) 21)) w.heap.size 21 .i32 D.size (doneA D 0) D.eT) := by
    refine ((PRow.new w 21 .i32 D.size (.int .i32 0) D.eT).below (B := w.heap.size + 1) ((Below.refl _ _).alloc (by simp) _) (by omega)).mono (fun p hp => absurd hp.2.2 (Nat.not_lt_zero _))
  have P2 : Hid (PRow ((w.alloc (Obj.cells (madeCells #[.int .i32 0] D.size) 21)).alloc (Obj.cells (madeCells #[.int .i32 0] D.size) 21)) (w.heap.size + 1) 21 .i32 D.size (doneA D 0) D.eP) := by
    have := PRow.new (w.alloc (Obj.cells (madeCells #[.int .i32 0] D.size) 21)) 21 .i32 D.size (.int .i32 0) D.eP
    rw [show (w.alloc (Obj.cells (madeCells #[.int .i32 0] D.size) 21)).heap.size = w.heap.size + 1 by simp] at this
    exact this.mono (fun p hp => absurd hp.2.2 (Nat.not_lt_zero _))
  have HB2 : Hid (Below w.heap.size w ((w.alloc (Obj.cells (madeCells #[.int .i32 0] D.size) 21)).alloc (Obj.cells (madeCells #[.int .i32 0] D.size) 21))) := World.below2 w _ _
  clear ok
  go_enter Try.func15, Try.ntmps15
  go_wp2
  go_loopw [13] (fun i wr => ∃ k : Nat, k ≤ D.na ∧ i = .int .i64 k ∧ PRow wr w.heap.size 21 .i32 D.size (doneA D k) D.eT ∧ PRow wr (w.heap.size + 1) 21 .i32 D.size (doneA D k) D.eP ∧ Below w.heap.size w wr) (fun i _ => D.na - (intOf i).toNat)
  case atStart => exact ⟨0, Nat.zero_le _, rfl, P1.out, P2.out, HB2.out⟩
  case round =>
    clear P1 P2 HB2
    obtain ⟨k, hk, rfl, R1, R2, hb⟩ := hrel
    by_cases hlt : k < D.na
    · obtain ⟨b1, o1, rfl, hw1, g1⟩ := h1.at hlt
      obtain ⟨b2, o2, rfl, hw2, g2⟩ := h2.at hlt
      have k1 : wr.cell? ⟨b1, o1 + k, none⟩ = some (.int .i32 (D.tA k)) := (hb.cell (p := ⟨b1, _, none⟩) hw1).trans (g1 k hlt)
      have k2 : wr.cell? ⟨b2, o2 + k, none⟩ = some (.int .i32 (D.pA k)) := (hb.cell (p := ⟨b2, _, none⟩) hw2).trans (g2 k hlt)
      clear g1 g2
      have H3 := h3.below hb
      go_wp2_with fail
      refine (countLt a3 D.nb c3 D.tB (D.tA k) wr H3 (by omega) OK.out.sB).mono ?_
      rintro e w' ⟨⟨c, rfl, hc1, hc2, hc3⟩, hw'⟩
      subst hw'
      have hcnt : cntB D (D.tA k) c := ⟨hc1, hc2, hc3⟩
      obtain ⟨hf, hp⟩ := OK.out.rankA k c hlt hcnt
      have hlt2 : k + c < D.size := by rw [HS.out]; omega
      have eT := (D.moveA hf hp).2.1
      have eP := eP_A hf hp
      obtain ⟨⟨u1, d1⟩, f1⟩ := R1.dst (k + c) hlt2
      obtain ⟨⟨u2, d2⟩, f2⟩ := R2.dst (k + c) hlt2
      have S1 := hideE' ((((R1.put (k + c) hlt2).mono (fun p hp => doneA_step OK.out hlt hcnt p hp)).keep (X := w.heap.size + 1) (by omega) (k + c) (.int .i32 (D.pA k))))
      have S2 := hideE' (((R2.keep (X := w.heap.size) (by omega) (k + c) (.int .i32 (D.tA k))).put (k + c) hlt2).mono (fun p hp => doneA_step OK.out hlt hcnt p hp))
      rw [eT] at S1
      rw [eP] at S2
      have S3 := hideE' ((hb.setCell (p := ⟨w.heap.size, k + c, none⟩) (Nat.le_refl _) (.int .i32 (D.tA k))).setCell (p := ⟨w.heap.size + 1, k + c, none⟩) (by show w.heap.size ≤ w.heap.size + 1; omega) (.int .i32 (D.pA k)))
      clear R1 R2 hf hp eT eP hcnt hc1 hc2 hc3 h1 h2 h3 h4 H3
      go_wp2
      go_roundw
      case rel => exact ⟨k + 1, by omega, by go_num, S1.out, S2.out, S3.out⟩
      case measure => simp [intOf]; omega
    · have e : k = D.na := by omega
      subst e
      have Q1 : Hid (PRow wr w.heap.size 21 .i32 D.size (doneB D 0) D.eT) := R1.mono (fun q h => ⟨h.1, h.2.resolve_right (by omega), (h.2.resolve_right (by omega)).1⟩)
      have Q2 : Hid (PRow wr (w.heap.size + 1) 21 .i32 D.size (doneB D 0) D.eP) := R2.mono (fun q h => ⟨h.1, h.2.resolve_right (by omega), (h.2.resolve_right (by omega)).1⟩)
      clear R1 R2
      go_wp2
      go_loopw [15] (fun i wr => ∃ k : Nat, k ≤ D.nb ∧ i = .int .i64 k ∧ PRow wr w.heap.size 21 .i32 D.size (doneB D k) D.eT ∧ PRow wr (w.heap.size + 1) 21 .i32 D.size (doneB D k) D.eP ∧ Below w.heap.size w wr) (fun i _ => D.nb - (intOf i).toNat)
      case atStart => exact ⟨0, Nat.zero_le _, rfl, Q1.out, Q2.out, hb⟩
      case round =>
        clear Q1 Q2 hb
        obtain ⟨k, hk, rfl, R1, R2, hb⟩ := hrel
        by_cases hlt : k < D.nb
        · obtain ⟨b1, o1, rfl, hw1, g1⟩ := h3.at hlt
          obtain ⟨b2, o2, rfl, hw2, g2⟩ := h4.at hlt
          have k1 : wr.cell? ⟨b1, o1 + k, none⟩ = some (.int .i32 (D.tB k)) := (hb.cell (p := ⟨b1, _, none⟩) hw1).trans (g1 k hlt)
          have k2 : wr.cell? ⟨b2, o2 + k, none⟩ = some (.int .i32 (D.pB k)) := (hb.cell (p := ⟨b2, _, none⟩) hw2).trans (g2 k hlt)
          clear g1 g2
          have H1 := h1.below hb
          go_wp2_with fail
          refine (countLe a1 D.na c1 D.tA (D.tB k) wr H1 (by omega) OK.out.sA).mono ?_
          rintro e w' ⟨⟨c, rfl, hc1, hc2, hc3⟩, hw'⟩
          subst hw'
          have hcnt : cntA D (D.tB k) c := ⟨hc1, hc2, hc3⟩
          obtain ⟨hf, hp⟩ := OK.out.rankB k c hlt hcnt
          have hlt2 : k + c < D.size := by rw [HS.out]; omega
          have eT := (D.moveB hf hp).2.1
          have eP := eP_B hf hp
          obtain ⟨⟨u1, d1⟩, f1⟩ := R1.dst (k + c) hlt2
          obtain ⟨⟨u2, d2⟩, f2⟩ := R2.dst (k + c) hlt2
          have S1 := hideE' ((((R1.put (k + c) hlt2).mono (fun p hp => doneB_step OK.out hcnt p hp)).keep (X := w.heap.size + 1) (by omega) (k + c) (.int .i32 (D.pB k))))
          have S2 := hideE' (((R2.keep (X := w.heap.size) (by omega) (k + c) (.int .i32 (D.tB k))).put (k + c) hlt2).mono (fun p hp => doneB_step OK.out hcnt p hp))
          rw [eT] at S1
          rw [eP] at S2
          have S3 := hideE' ((hb.setCell (p := ⟨w.heap.size, k + c, none⟩) (Nat.le_refl _) (.int .i32 (D.tB k))).setCell (p := ⟨w.heap.size + 1, k + c, none⟩) (by show w.heap.size ≤ w.heap.size + 1; omega) (.int .i32 (D.pB k)))
          clear R1 R2 hf hp eT eP hcnt hc1 hc2 hc3 h1 h2 h3 h4 H1
          go_wp2
          go_roundw
          case rel => exact ⟨k + 1, by omega, by go_num, S1.out, S2.out, S3.out⟩
          case measure => simp [intOf]; omega
        · have e : k = D.nb := by omega
          subst e
          have all : ∀ q, q < D.size → doneB D D.nb q := fun q hq => ⟨hq, by
            by_cases hp : D.pick (D.front q).1 (D.front q).2
            · exact .inl hp
            · exact .inr (OK.out.cntB_of q hq hp).1⟩
          have F1 := hideE' (R1.mono all)
          have F2 := hideE' (R2.mono all)
          clear R1 R2 all
          go_wp2
          exact bodyPost_ret (v := .tuple #[.slice (some ⟨w.heap.size, 0, none⟩) D.size D.size, .slice (some ⟨w.heap.size + 1, 0, none⟩) D.size D.size]) (by simp [results, Try.results15, go_sem]) rfl ⟨rfl, F1.out, F2.out, hb⟩
end Go.Proofs.Qxb6601843a
