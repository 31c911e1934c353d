import Derived.Test.Qxb6602168aBase
namespace Go.Proofs.Qxb6602168a
open Go.RowKit
def bs (s : ByteArray) : Bs := s.data.toList
theorem bs_len (s : ByteArray) : (bs s).length = s.size := Array.length_toList
def isBool (e : Ending) : Prop := ∃ b, e = .returned (.bool b)
set_option maxHeartbeats 800000 in
theorem bytes5 (a : Option Addr) (n c : Nat) (S : Nat → ByteArray) (k : Int) (w : World) (hr : SRd w a n S) :
    Calls Try.prog 5 #[.slice a n c, .int .i64 k] w fun e w' => isBool e ∧ w' = w := by
  by_cases hn : n ≤ 1048576
  · go_enter Try.func5, Try.ntmps5
    go_wp2
    go_loop [5, 6] (fun t i => ∃ (j : Nat) (s : Int), j ≤ n ∧ i = .int .i64 j ∧ 0 ≤ s ∧ s ≤ 1048576 ∧ t = .int .i64 s) (fun _ i => n - (intOf i).toNat)
    case atStart => exact ⟨0, n, Nat.zero_le _, rfl, by omega, by omega, rfl⟩
    case round =>
      obtain ⟨j, s, hj, rfl, hs0, hs1, rfl⟩ := hrel
      by_cases hlt : j < n
      · obtain ⟨b, off, ea, hbw, hc⟩ := hr.at hlt
        subst ea
        have hcell := hc j hlt
        clear hc
        generalize S j = x at hcell
        go_wp2
        · go_ret; exact ⟨⟨_, rfl⟩, rfl⟩
        · go_ret; exact ⟨⟨_, rfl⟩, rfl⟩
        · go_round
          case rel => exact ⟨j + 1, _, by omega, by go_num, by omega, by omega, rfl⟩
          case measure => simp [intOf]; omega
      · go_wp2
        go_ret
        exact ⟨⟨_, rfl⟩, rfl⟩
  · go_enter Try.func5, Try.ntmps5
    go_wp2
    go_ret
    exact ⟨⟨_, rfl⟩, rfl⟩
set_option maxHeartbeats 800000 in
theorem bytes11 (a : Option Addr) (n c : Nat) (S : Nat → ByteArray) (k : Int) (w : World) (hr : SRd w a n S) :
    Calls Try.prog 11 #[.slice a n c, .int .i64 k] w fun e w' => isBool e ∧ w' = w := by
  by_cases hn : n ≤ 1048576
  · go_enter Try.func11, Try.ntmps11
    go_wp2
    go_loop [5, 6] (fun t i => ∃ (j : Nat) (s : Int), j ≤ n ∧ i = .int .i64 j ∧ 0 ≤ s ∧ s ≤ 1048576 ∧ t = .int .i64 s) (fun _ i => n - (intOf i).toNat)
    case atStart => exact ⟨0, n, Nat.zero_le _, rfl, by omega, by omega, rfl⟩
    case round =>
      obtain ⟨j, s, hj, rfl, hs0, hs1, rfl⟩ := hrel
      by_cases hlt : j < n
      · obtain ⟨b, off, ea, hbw, hc⟩ := hr.at hlt
        subst ea
        have hcell := hc j hlt
        clear hc
        generalize S j = x at hcell
        go_wp2
        · go_ret; exact ⟨⟨_, rfl⟩, rfl⟩
        · go_ret; exact ⟨⟨_, rfl⟩, rfl⟩
        · go_round
          case rel => exact ⟨j + 1, _, by omega, by go_num, by omega, by omega, rfl⟩
          case measure => simp [intOf]; omega
      · go_wp2
        go_ret
        exact ⟨⟨_, rfl⟩, rfl⟩
  · go_enter Try.func11, Try.ntmps11
    go_wp2
    go_ret
    exact ⟨⟨_, rfl⟩, rfl⟩
def addOf (n k : Int) : Int := if 1048576 < n ∨ 1048576 < k then 1048577 else n + k
theorem add_any (n k : Int) (h0 : 0 ≤ n) (h2 : 0 ≤ k) (w : World) :
    Calls Try.prog 13 #[.int .i64 n, .int .i64 k] w fun e w' => e = .returned (.int .i64 (addOf n k)) ∧ w' = w := by
  by_cases a1 : 1048576 < n
  · go_enter Try.func13, Try.ntmps13
    go_wp2
    go_ret
    exact ⟨by simp [addOf, a1], rfl⟩
  · by_cases a2 : 1048576 < k
    · go_enter Try.func13, Try.ntmps13
      go_wp2
      go_ret
      exact ⟨by simp [addOf, a2], rfl⟩
    · go_enter Try.func13, Try.ntmps13
      go_wp2
      go_ret
      exact ⟨by rw [addOf, if_neg (by omega)]; rfl, rfl⟩
/-- the lengths' sum -/
def psz (S : Nat → ByteArray) : Nat → Nat
  | 0 => 0
  | k + 1 => psz S k + (S k).size
def SumRel (S : Nat → ByteArray) (n k : Nat) (z : Int) : Prop := 0 ≤ z ∧ (z ≤ 1048576 → z = ((16 * n + psz S k : Nat) : Int))
theorem SumRel.zero (S : Nat → ByteArray) (n : Nat) : SumRel S n 0 (addOf 0 (16 * n)) := by
  unfold SumRel addOf
  split
  · exact ⟨by omega, fun h => absurd h (by omega)⟩
  · refine ⟨by omega, fun _ => ?_⟩
    simp only [psz]; omega
theorem SumRel.next {S : Nat → ByteArray} {n k : Nat} {z : Int} (h : SumRel S n k z) : SumRel S n (k + 1) (addOf z (S k).size) := by
  unfold SumRel addOf at *
  split
  · exact ⟨by omega, fun h => absurd h (by omega)⟩
  · refine ⟨by omega, fun _ => ?_⟩
    have := h.2 (by omega)
    simp only [psz]; omega
def BytesR (S : Nat → ByteArray) (n : Nat) (e : Ending) : Prop := ∃ z : Int, e = .returned (.int .i64 z) ∧ (z ≤ 1048576 → n ≤ 65536 ∧ 16 * n + psz S n ≤ 1048576)
def NonE (S : Nat → ByteArray) (n : Nat) (e : Ending) : Prop := ∃ b : Bool, e = .returned (.bool b) ∧ (b = true → ∀ i, i < n → 0 < (S i).size)
set_option maxHeartbeats 800000 in
theorem zrBytes_any (a : Option Addr) (n c : Nat) (S : Nat → ByteArray) (w : World) (hr : SRd w a n S) :
    Calls Try.prog 6 #[.slice a n c] w fun e w' => BytesR S n e ∧ w' = w := by
  by_cases hn : n ≤ 65536
  · have A0 := add_any 0 (16 * n) (by omega) (by omega) w
    have Z0 := hideE (SumRel.zero S n)
    generalize addOf 0 (16 * (n : Int)) = z0 at *
    go_enter Try.func6, Try.ntmps6
    go_wp2_with fail
    refine same_calls A0 ?_
    clear A0
    go_wp2
    go_loop [3, 4] (fun t i => ∃ (j : Nat) (s : Int), j ≤ n ∧ i = .int .i64 j ∧ SumRel S n j s ∧ t = .int .i64 s) (fun _ i => n - (intOf i).toNat)
    case atStart => exact ⟨0, z0, Nat.zero_le _, rfl, Z0.out, rfl⟩
    case round =>
      obtain ⟨j, s, hj, rfl, hs, rfl⟩ := hrel
      by_cases hlt : j < n
      · obtain ⟨b, off, ea, hbw, hc⟩ := hr.at hlt
        subst ea
        have hcell := hc j hlt
        have A1 := add_any s (S j).size hs.1 (by omega) w
        have Z1 := hideE hs.next
        clear hc hs
        generalize addOf s (S j).size = z1 at *
        generalize S j = x at *
        go_wp2_with fail
        refine same_calls A1 ?_
        go_wp2
        go_round
        case rel => exact ⟨j + 1, z1, by omega, by go_num, Z1.out, rfl⟩
        case measure => simp [intOf]; omega
      · have e : j = n := by omega
        subst e
        go_wp2
        go_ret
        exact ⟨⟨s, rfl, fun h => ⟨hn, by have := hs.2 h; omega⟩⟩, rfl⟩
  · go_enter Try.func6, Try.ntmps6
    go_wp2
    go_ret
    exact ⟨⟨1048577, rfl, fun h => absurd h (by omega)⟩, rfl⟩
set_option maxHeartbeats 800000 in
theorem nonEmpty_any (a : Option Addr) (n c : Nat) (S : Nat → ByteArray) (w : World) (hn : n ≤ 10000000) (hr : SRd w a n S) :
    Calls Try.prog 7 #[.slice a n c] w fun e w' => NonE S n e ∧ w' = w := by
  go_enter Try.func7, Try.ntmps7
  go_wp2
  go_loop [3] (fun i => ∃ (j : Nat), j ≤ n ∧ i = .int .i64 j ∧ (∀ q, q < j → 0 < (S q).size)) (fun i => n - (intOf i).toNat)
  case atStart => exact ⟨0, Nat.zero_le _, rfl, fun q hq => absurd hq (Nat.not_lt_zero _)⟩
  case round =>
    obtain ⟨j, hj, rfl, hs⟩ := hrel
    by_cases hlt : j < n
    · obtain ⟨b, off, ea, hbw, hc⟩ := hr.at hlt
      subst ea
      have hcell := hc j hlt
      clear hc
      have hsz : (S j).toList.isEmpty = decide ((S j).size = 0) := by
        have e1 : (S j).toList = bs (S j) := ByteArray.toList_eq (S j)
        rw [e1, ← bs_len]
        cases bs (S j) <;> simp
      by_cases h0 : (S j).size = 0
      · have hb : (S j).toList.isEmpty = true := by rw [hsz]; exact decide_eq_true h0
        clear hsz
        go_wp2
        go_ret
        exact ⟨⟨false, rfl, (fun h => nomatch h)⟩, rfl⟩
      · have hb : (S j).toList.isEmpty = false := by rw [hsz]; exact decide_eq_false h0
        clear hsz
        have hs' : Hid (∀ q, q < j + 1 → 0 < (S q).size) := fun q hq => by
          by_cases e : q = j
          · subst e; omega
          · exact hs q (by omega)
        go_wp2
        go_round
        case rel => exact ⟨j + 1, by omega, by go_num, hs'.out⟩
        case measure => simp [intOf]; omega
    · have e : j = n := by omega
      subst e
      go_wp2
      go_ret
      exact ⟨⟨true, rfl, fun _ => hs⟩, rfl⟩
set_option maxHeartbeats 800000 in
theorem clone_some (x : Addr) (n c : Nat) (S : Nat → ByteArray) (w : World) (hr : SRd w (some x) n S) (hn : n ≤ 10000000) :
    Calls Try.prog 8 #[.slice (some x) n c] w fun e w' => e = .returned (.slice (some ⟨w.heap.size, 0, none⟩) n n) ∧ VRow w' w.heap.size 9 n (fun p => p < n) (fun p => .string (S p)) ∧ Below w.heap.size w w' := by
  have hm := make22 n hn
  have he := fun w => Lib.run_eql_slice_nil (P := Try.prog) w 22 9 (some x) n c 0 0 Try.underlying22
  have H0 : Hid (VRow (w.alloc (Obj.cells (madeCells #[.string ByteArray.empty] n) 9)) w.heap.size 9 n (fun p => p < 0) (fun p => .string (S p))) := (VRow.new w 9 n (.string ByteArray.empty) _).mono (fun p hp => absurd hp (Nat.not_lt_zero _))
  go_enter Try.func8, Try.ntmps8
  go_wp2
  go_loopw [4] (fun i wr => ∃ k : Nat, k ≤ n ∧ i = .int .i64 k ∧ VRow wr w.heap.size 9 n (fun p => p < k) (fun p => .string (S p)) ∧ Below w.heap.size w wr) (fun i _ => n - (intOf i).toNat)
  case atStart => exact ⟨0, Nat.zero_le _, rfl, H0.out, (Below.refl _ _).alloc (Nat.le_refl _) _⟩
  case round =>
    obtain ⟨k, hk, rfl, hrow, hbl⟩ := hrel
    by_cases hlt : k < n
    · obtain ⟨b, off, ex, hbw, hc⟩ := hr.at hlt
      cases ex
      have hcell : wr.cell? ⟨b, off + k, none⟩ = some (.string (S k)) := (hbl.cell (p := ⟨b, off + k, none⟩) hbw).trans (hc k hlt)
      obtain ⟨⟨u, hu⟩, hz⟩ := hrow.dst k hlt
      have HR : Hid (VRow (wr.setCell ⟨w.heap.size, k, none⟩ (.string (S k))) w.heap.size 9 n (fun p => p < k + 1) (fun p => .string (S p))) := (hrow.put k hlt).mono (fun p hp => by by_cases e : p = k; exact .inr e; exact .inl (by omega))
      have HB := hideE (hbl.setCell (p := ⟨w.heap.size, k, none⟩) (Nat.le_refl _) (.string (S k)))
      clear hc
      go_wp2
      go_roundw
      case rel => exact ⟨k + 1, by omega, by go_num, HR.out, HB.out⟩
      case measure => simp [intOf]; omega
    · have e : k = n := by omega
      subst e
      go_wp2
      go_ret
      exact ⟨rfl, hrow, hbl⟩
theorem clone_nil (w : World) : Calls Try.prog 8 #[.slice none 0 0] w fun e w' => e = .returned (.slice none 0 0) ∧ w' = w := by
  have he := fun w => Lib.run_eql_slice_nil (P := Try.prog) w 22 9 none 0 0 0 0 Try.underlying22
  go_enter Try.func8, Try.ntmps8
  go_wp2
  go_ret
  exact ⟨rfl, rfl⟩
theorem clone_any (a : Option Addr) (n c : Nat) (S : Nat → ByteArray) (hnil : a = none → n = 0 ∧ c = 0) (w : World) (hr : SRd w a n S) (hn : n ≤ 10000000) :
    Calls Try.prog 8 #[.slice a n c] w fun e w' => ∃ a' c', e = .returned (.slice a' n c') ∧ SRd w' a' n S ∧ Below w.heap.size w w' := by
  cases a with
  | none =>
    obtain ⟨rfl, rfl⟩ := hnil rfl
    refine (clone_nil w).mono ?_
    rintro e w' ⟨rfl, rfl⟩
    exact ⟨_, _, rfl, fun p hp => absurd hp (Nat.not_lt_zero _), Below.refl _ _⟩
  | some x =>
    refine (clone_some x n c S w hr hn).mono ?_
    rintro e w' ⟨rfl, h1, h2⟩
    exact ⟨_, _, rfl, h1.srd (fun p hp => hp), h2⟩
end Go.Proofs.Qxb6602168a
