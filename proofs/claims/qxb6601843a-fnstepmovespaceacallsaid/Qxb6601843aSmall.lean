import Derived.Test.Qxb6601843aRoom
namespace Go.Proofs.Qxb6601843a
open Go.RowKit
/-- a block of numbers, of which those in P are known -/
def PRow (w : World) (N : Nat) (ty : TypeId) (kd : IntKind) (len : Nat) (P : Nat → Prop) (f : Nat → Int) : Prop :=
  ∃ cs : Array Value, w.heap[N]? = some (.cells cs ty (0, 0)) ∧ cs.size = len ∧ ∀ p, P p → cs[p]? = some (.int kd (f p))
section
variable {w w' : World} {N : Nat} {ty : TypeId} {kd : IntKind} {len : Nat} {P P' : Nat → Prop} {f : Nat → Int}
theorem PRow.lt (h : PRow w N ty kd len P f) : N < w.heap.size := by obtain ⟨cs, h1, _⟩ := h; exact (Array.getElem?_eq_some_iff.1 h1).1
theorem PRow.mono (h : PRow w N ty kd len P f) (hP : ∀ p, P' p → P p) : PRow w N ty kd len P' f := by
  obtain ⟨cs, h1, h2, h3⟩ := h
  exact ⟨cs, h1, h2, fun p hp => h3 p (hP p hp)⟩
theorem PRow.put (h : PRow w N ty kd len P f) (q : Nat) (hq : q < len) : PRow (w.setCell ⟨N, q, none⟩ (.int kd (f q))) N ty kd len (fun p => P p ∨ p = q) f := by
  obtain ⟨cs, h1, h2, h3⟩ := h
  refine ⟨_, heap_setCell_same w N q cs ty _ h1, by simpa using h2, fun p hp => ?_⟩
  by_cases e : q = p
  · subst e; simp [h2, hq]
  · rw [Array.getElem?_setIfInBounds_ne e]
    exact h3 p (hp.resolve_right (fun e' => e e'.symm))
theorem PRow.keep (h : PRow w N ty kd len P f) {X : Nat} (hX : N ≠ X) (o : Nat) (v : Value) : PRow (w.setCell ⟨X, o, none⟩ v) N ty kd len P f := by
  obtain ⟨cs, h1, h2, h3⟩ := h
  exact ⟨cs, (heap_setCell_other w ⟨X, o, none⟩ N v hX).trans h1, h2, h3⟩
theorem PRow.below (h : PRow w N ty kd len P f) {B : Nat} (hb : Below B w w') (hN : N < B) : PRow w' N ty kd len P f := by
  obtain ⟨cs, h1, h2, h3⟩ := h
  exact ⟨cs, (hb.block N hN).trans h1, h2, h3⟩
theorem PRow.dst (h : PRow w N ty kd len P f) (q : Nat) (hq : q < len) : (∃ u, w.cell? ⟨N, q, none⟩ = some u) ∧ w.frozen? ⟨N, q, none⟩ = false := by
  obtain ⟨cs, h1, h2, h3⟩ := h
  exact ⟨⟨cs[q]'(by omega), by rw [cell_of_row _ _ _ _ _ _ h1]; exact Array.getElem?_eq_getElem _⟩, frozen_of_row _ _ _ _ _ h1⟩
theorem PRow.cell (h : PRow w N ty kd len P f) (q : Nat) (hq : P q) : w.cell? ⟨N, q, none⟩ = some (.int kd (f q)) := by
  obtain ⟨cs, h1, h2, h3⟩ := h
  rw [cell_of_row _ _ _ _ _ _ h1]; exact h3 q hq
theorem PRow.frd (h : PRow w N ty kd len P f) {n : Nat} (hP : ∀ p, p < n → P p) : FRd w (some ⟨N, 0, none⟩) kd n f := by
  intro p hp
  exact ⟨N, 0, rfl, by rw [Nat.zero_add]; exact h.cell p (hP p hp)⟩
theorem PRow.new (w : World) (ty : TypeId) (kd : IntKind) (len : Nat) (z : Value) (f : Nat → Int) : PRow (w.alloc (.cells (madeCells #[z] len) ty)) w.heap.size ty kd len (fun _ => False) f :=
  ⟨_, heap_alloc_new w _, by simp [madeCells], fun p hp => hp.elim⟩
end
theorem FRd.at {w : World} {a : Option Addr} {kd : IntKind} {n : Nat} {f : Nat → Int} (h : FRd w a kd n f) {p : Nat} (hp : p < n) : ∃ b off, a = some ⟨b, off, none⟩ ∧ b < w.heap.size ∧ ∀ q, q < n → w.cell? ⟨b, off + q, none⟩ = some (.int kd (f q)) := by
  obtain ⟨b, off, rfl, hc⟩ := h p hp
  refine ⟨b, off, rfl, World.block_lt_of_cell? w _ hc, fun q hq => ?_⟩
  obtain ⟨b', off', e, hc'⟩ := h q hq
  cases e; exact hc'
set_option maxHeartbeats 800000 in
theorem clone32_some (x : Addr) (n c : Nat) (f : Nat → Int) (w : World) (hr : FRd w (some x) .i32 n f) (hn : n ≤ 10000000) :
    Calls Try.prog 11 #[.slice (some x) n c] w fun e w' => e = .returned (.slice (some ⟨w.heap.size, 0, none⟩) n n) ∧ PRow w' w.heap.size 21 .i32 n (fun p => p < n) f ∧ Below w.heap.size w w' := by
  have hm := make22 n hn
  have he := fun w => Lib.run_eql_slice_nil (P := Try.prog) w 22 21 (some x) n c 0 0 Try.underlying22
  have H0 : Hid (PRow (w.alloc (Obj.cells (madeCells #[.int .i32 0] n) 21)) w.heap.size 21 .i32 n (fun p => p < 0) f) := (PRow.new w 21 .i32 n (.int .i32 0) f).mono (fun p hp => absurd hp (Nat.not_lt_zero _))
  go_enter Try.func11, Try.ntmps11
  go_wp2
  go_loopw [4] (fun i wr => ∃ k : Nat, k ≤ n ∧ i = .int .i64 k ∧ PRow wr w.heap.size 21 .i32 n (fun p => p < k) f ∧ Below w.heap.size w wr) (fun i _ => n - (intOf i).toNat)
  case atStart => exact ⟨0, Nat.zero_le _, rfl, H0.out, (Below.refl _ _).alloc (Nat.le_refl _) _⟩
  case round =>
    obtain ⟨k, hk, rfl, hrow, hbl⟩ := hrel
    by_cases hlt : k < n
    · obtain ⟨b, off, ex, hbw, hc⟩ := hr.at hlt
      cases ex
      have hcell : wr.cell? ⟨b, off + k, none⟩ = some (.int .i32 (f k)) := (hbl.cell (p := ⟨b, off + k, none⟩) hbw).trans (hc k hlt)
      obtain ⟨⟨u, hu⟩, hz⟩ := hrow.dst k hlt
      have HR : Hid (PRow (wr.setCell ⟨w.heap.size, k, none⟩ (.int .i32 (f k))) w.heap.size 21 .i32 n (fun p => p < k + 1) f) := (hrow.put k hlt).mono (fun p hp => by by_cases e : p = k; exact .inr e; exact .inl (by omega))
      have HB : Below w.heap.size w (wr.setCell ⟨w.heap.size, k, none⟩ (.int .i32 (f k))) := hbl.setCell (Nat.le_refl _) _
      clear hr hc H0 hrow
      go_wp2
      go_roundw
      case rel => exact ⟨k + 1, by omega, by go_num, HR.out, HB⟩
      case measure => simp [intOf]; omega
    · have e : k = n := by omega
      subst e
      clear H0
      go_wp2
      go_ret
      exact ⟨rfl, hrow, hbl⟩
theorem clone32_nil (w : World) : Calls Try.prog 11 #[.slice none 0 0] w fun e w' => e = .returned (.slice none 0 0) ∧ w' = w := by
  have he := fun w => Lib.run_eql_slice_nil (P := Try.prog) w 22 21 none 0 0 0 0 Try.underlying22
  go_enter Try.func11, Try.ntmps11
  go_wp2
  go_ret
  exact ⟨rfl, rfl⟩
theorem clone32_any (a : Option Addr) (n c : Nat) (f : Nat → Int) (hnil : a = none → n = 0 ∧ c = 0) (w : World) (hr : FRd w a .i32 n f) (hn : n ≤ 10000000) :
    Calls Try.prog 11 #[.slice a n c] w fun e w' => ∃ a' c', e = .returned (.slice a' n c') ∧ FRd w' a' .i32 n f ∧ Below w.heap.size w w' := by
  cases a with
  | none =>
    obtain ⟨rfl, rfl⟩ := hnil rfl
    refine (clone32_nil w).mono ?_
    rintro e w' ⟨rfl, rfl⟩
    exact ⟨none, 0, rfl, fun p hp => absurd hp (Nat.not_lt_zero _), Below.refl _ _⟩
  | some x =>
    refine (clone32_some x n c f w hr hn).mono ?_
    rintro e w' ⟨rfl, h1, h2⟩
    exact ⟨_, _, rfl, h1.frd (fun p hp => hp), h2⟩
set_option maxHeartbeats 800000 in
/-- zzSorted: true only where the row is sorted -/
theorem sorted_any (a : Option Addr) (n c : Nat) (f : Nat → Int) (w : World) (hr : FRd w a .i32 n f) (hn : n ≤ 10000000) :
    Calls Try.prog 10 #[.slice a n c] w fun e w' => (∃ b, e = .returned (.bool b) ∧ (b = true → ∀ q, q + 1 < n → f q ≤ f (q + 1))) ∧ ∃ m, w' = w.drewN m := by
  go_enter Try.func10, Try.ntmps10
  go_wp2
  go_loopw [3] (fun i wr => ∃ k : Nat, 1 ≤ k ∧ i = .int .i64 k ∧ (∀ q, q + 1 < k → q + 1 < n → f q ≤ f (q + 1)) ∧ ∃ m, wr = w.drewN m) (fun i _ => n - (intOf i).toNat)
  case atStart => exact ⟨1, Nat.le_refl _, rfl, fun q h => by omega, 0, rfl⟩
  case round =>
    obtain ⟨k, hk, rfl, hs, m, rfl⟩ := hrel
    by_cases hlt : k < n
    · obtain ⟨b, off, rfl, hbw, hc⟩ := hr.at hlt
      obtain ⟨q, rfl⟩ : ∃ q, k = q + 1 := ⟨k - 1, by omega⟩
      have k1 := hc q (by omega)
      have k2 := hc (q + 1) hlt
      have HSN : Hid (f q ≤ f (q + 1) → ∀ q', q' + 1 < q + 2 → q' + 1 < n → f q' ≤ f (q' + 1)) := fun h q' h1 h2 => by
        by_cases e : q' = q
        · subst e; exact h
        · exact hs q' (by omega) h2
      clear hr hc hs
      by_cases hgt : f (q + 1) < f q
      · have hd : decide (f (q + 1) < f q) = true := decide_eq_true hgt
        go_wp2
        go_quiet (fail)
        go_wp2
        go_ret
        exact ⟨⟨false, rfl, fun h => nomatch h⟩, _, World.drewN_drewN ..⟩
      · have hd : decide (f (q + 1) < f q) = false := decide_eq_false hgt
        go_wp2
        go_quiet (fail)
        go_wp2
        go_roundw
        case rel => exact ⟨q + 2, by omega, by go_num, HSN.out (by omega), _, rfl⟩
        case measure => simp [intOf]; omega
    · go_wp2
      go_ret
      exact ⟨⟨true, rfl, fun _ q h => hs q (by omega) h⟩, _, rfl⟩
set_option maxHeartbeats 1600000 in
theorem countLt (a : Option Addr) (n c : Nat) (f : Nat → Int) (t : Int) (w : World) (hr : FRd w a .i32 n f) (hn : n ≤ 10000000) (hs : ∀ x y, x ≤ y → y < n → f x ≤ f y) :
    Calls Try.prog 22 #[.slice a n c, .int .i32 t, .bool false] w fun e w' => (∃ k : Nat, e = .returned (.int .i64 k) ∧ k ≤ n ∧ (∀ y, y < k → f y < t) ∧ ∀ y, k ≤ y → y < n → t ≤ f y) ∧ w' = w := by
  go_enter Try.func22, Try.ntmps22
  go_wp2
  go_loop [7, 8] (fun l h => ∃ lo hi : Nat, lo ≤ hi ∧ hi ≤ n ∧ l = .int .i64 lo ∧ h = .int .i64 hi ∧ (∀ y, y < lo → f y < t) ∧ ∀ y, hi ≤ y → y < n → t ≤ f y) (fun l h => (intOf h).toNat - (intOf l).toNat)
  case atStart => exact ⟨0, n, Nat.zero_le _, Nat.le_refl _, rfl, rfl, fun y hy => absurd hy (Nat.not_lt_zero _), fun y h1 h2 => by omega⟩
  case round =>
    obtain ⟨lo, hi, h1, h2, rfl, rfl, hlo, hhi⟩ := hrel
    by_cases hlt : lo < hi
    · obtain ⟨mid, hmid⟩ : ∃ mid, mid = lo + (hi - lo) / 2 := ⟨_, rfl⟩
      have hm1 : lo ≤ mid := by omega
      have hm2 : mid < hi := by omega
      obtain ⟨b, off, rfl, hbw, hc⟩ := hr.at (p := mid) (by omega)
      have k1 := hc mid (by omega)
      have HL : Hid (f mid < t → ∀ y, y < mid + 1 → f y < t) := fun h y hy => by have := hs y mid (by omega) (by omega); omega
      have HG : Hid (t ≤ f mid → ∀ y, mid ≤ y → y < n → t ≤ f y) := fun h y hy hyn => by have := hs mid y hy hyn; omega
      have hmm : (lo : Int) + ((hi : Int) - (lo : Int)) / 2 = (mid : Int) := by omega
      have HLO : Hid (∀ y, y < lo → f y < t) := hlo
      have HHI : Hid (∀ y, hi ≤ y → y < n → t ≤ f y) := hhi
      clear hr hc hs hmid hlo hhi
      generalize hfm : f mid = v at *
      clear hfm
      by_cases hcmp : v < t
      · have hd : decide (v < t) = true := decide_eq_true hcmp
        go_wp2
        go_round
        case rel => exact ⟨mid + 1, hi, by omega, h2, by go_num, rfl, HL.out (by omega), HHI.out⟩
        case measure => simp [intOf]; omega
      · have hd : decide (v < t) = false := decide_eq_false hcmp
        go_wp2
        go_round
        case rel => exact ⟨lo, mid, hm1, by omega, rfl, rfl, HLO.out, HG.out (by omega)⟩
        case measure => simp [intOf]; omega
    · have e : lo = hi := by omega
      subst e
      go_wp2
      go_ret
      exact ⟨⟨lo, rfl, h2, hlo, hhi⟩, rfl⟩
set_option maxHeartbeats 1600000 in
theorem countLe (a : Option Addr) (n c : Nat) (f : Nat → Int) (t : Int) (w : World) (hr : FRd w a .i32 n f) (hn : n ≤ 10000000) (hs : ∀ x y, x ≤ y → y < n → f x ≤ f y) :
    Calls Try.prog 22 #[.slice a n c, .int .i32 t, .bool true] w fun e w' => (∃ k : Nat, e = .returned (.int .i64 k) ∧ k ≤ n ∧ (∀ y, y < k → f y ≤ t) ∧ ∀ y, k ≤ y → y < n → t < f y) ∧ w' = w := by
  go_enter Try.func22, Try.ntmps22
  go_wp2
  go_loop [7, 8] (fun l h => ∃ lo hi : Nat, lo ≤ hi ∧ hi ≤ n ∧ l = .int .i64 lo ∧ h = .int .i64 hi ∧ (∀ y, y < lo → f y ≤ t) ∧ ∀ y, hi ≤ y → y < n → t < f y) (fun l h => (intOf h).toNat - (intOf l).toNat)
  case atStart => exact ⟨0, n, Nat.zero_le _, Nat.le_refl _, rfl, rfl, fun y hy => absurd hy (Nat.not_lt_zero _), fun y h1 h2 => by omega⟩
  case round =>
    obtain ⟨lo, hi, h1, h2, rfl, rfl, hlo, hhi⟩ := hrel
    by_cases hlt : lo < hi
    · obtain ⟨mid, hmid⟩ : ∃ mid, mid = lo + (hi - lo) / 2 := ⟨_, rfl⟩
      have hm1 : lo ≤ mid := by omega
      have hm2 : mid < hi := by omega
      obtain ⟨b, off, rfl, hbw, hc⟩ := hr.at (p := mid) (by omega)
      have k1 := hc mid (by omega)
      have HL : Hid (f mid ≤ t → ∀ y, y < mid + 1 → f y ≤ t) := fun h y hy => by have := hs y mid (by omega) (by omega); omega
      have HG : Hid (t < f mid → ∀ y, mid ≤ y → y < n → t < f y) := fun h y hy hyn => by have := hs mid y hy hyn; omega
      have hmm : (lo : Int) + ((hi : Int) - (lo : Int)) / 2 = (mid : Int) := by omega
      have HLO : Hid (∀ y, y < lo → f y ≤ t) := hlo
      have HHI : Hid (∀ y, hi ≤ y → y < n → t < f y) := hhi
      clear hr hc hs hmid hlo hhi
      generalize hfm : f mid = v at *
      clear hfm
      by_cases hcmp : v < t
      · have hd : decide (v < t) = true := decide_eq_true hcmp
        go_wp2
        go_round
        case rel => exact ⟨mid + 1, hi, by omega, h2, by go_num, rfl, HL.out (by omega), HHI.out⟩
        case measure => simp [intOf]; omega
      · have hd : decide (v < t) = false := decide_eq_false hcmp
        by_cases heq : v = t
        · have hd2 : (v == t) = true := by simp [heq]
          have hvt1 : v ≤ t := by omega
          have hvt2 : t ≤ v := by omega
          clear heq
          go_wp2
          go_round
          case rel => exact ⟨mid + 1, hi, by omega, h2, by go_num, rfl, HL.out (by omega), HHI.out⟩
          case measure => simp [intOf]; omega
        · have hd2 : (v == t) = false := by simp [heq]
          go_wp2
          go_round
          case rel => exact ⟨lo, mid, hm1, by omega, rfl, rfl, HLO.out, HG.out (by omega)⟩
          case measure => simp [intOf]; omega
    · have e : lo = hi := by omega
      subst e
      go_wp2
      go_ret
      exact ⟨⟨lo, rfl, h2, hlo, hhi⟩, rfl⟩
end Go.Proofs.Qxb6601843a
