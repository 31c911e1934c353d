import Derived.Test.Qxb6601843aNewHist
namespace Go.Proofs.Qxb6601843a
open Go.RowKit
def Short (rows : List RowI) (j : Nat) : Prop := ∀ p (hp : p < rows.length), p < j → rows[p].zs.length ≤ 1048576
def BytesOk (rows : List RowI) (e : Ending) : Prop := ∃ b, e = .returned (.bool b) ∧ (b = true → ∀ r ∈ rows, r.zs.length ≤ 1048576)
set_option maxHeartbeats 800000 in
theorem bytesOk24 (a : Option Addr) (n c : Nat) (rows : List RowI) (hx : rows.length = n) (k : Int) (w : World) (hr : RRd w a rows) :
    Calls Try.prog 24 #[.slice a n c, .int .i64 k] w fun e w' => BytesOk rows e ∧ w' = w := by
  have HX : Hid (rows.length = n) := hx
  clear hx
  by_cases hn : n ≤ 1048576
  · go_enter Try.func24, Try.ntmps24
    go_wp2
    go_loop [5, 6] (fun t i => ∃ (j : Nat) (s : Int), j ≤ n ∧ i = .int .i64 j ∧ 0 ≤ s ∧ s ≤ 1048576 ∧ t = .int .i64 s ∧ Short rows j) (fun _ i => n - (intOf i).toNat)
    case atStart => exact ⟨0, n, Nat.zero_le _, rfl, by omega, by omega, rfl, fun p _ hp => absurd hp (Nat.not_lt_zero _)⟩
    case round =>
      obtain ⟨j, s, hj, rfl, hs0, hs1, rfl, hsh⟩ := hrel
      by_cases hlt : j < n
      · have hlt' : j < rows.length := by rw [HX.out]; exact hlt
        obtain ⟨b, off, ea, hbw, hc⟩ := hr.at hlt'
        subst ea
        have hcell := hc j hlt'
        have HSH : Hid (rows[j].zs.length ≤ 1048576 → Short rows (j + 1)) := fun h p hp hpj => by
          by_cases e : p = j
          · subst e; exact h
          · exact hsh p hp (by omega)
        clear hc
        generalize rows[j] = r at hcell HSH
        go_wp2
        · go_ret; exact ⟨⟨false, rfl, (fun h => nomatch h)⟩, rfl⟩
        · go_ret; exact ⟨⟨false, rfl, (fun h => nomatch h)⟩, rfl⟩
        · go_round
          case rel => exact ⟨j + 1, _, by omega, by go_num, by omega, by omega, rfl, HSH.out (by omega)⟩
          case measure => simp [intOf]; omega
      · go_wp2
        go_ret
        exact ⟨⟨true, rfl, fun _ r hr' => by
          obtain ⟨p, hp, rfl⟩ := List.getElem_of_mem hr'
          exact hsh p hp (by have := HX.out; omega)⟩, rfl⟩
  · go_enter Try.func24, Try.ntmps24
    go_wp2
    go_ret
    exact ⟨⟨false, rfl, (fun h => nomatch h)⟩, rfl⟩
set_option maxHeartbeats 800000 in
theorem bytesOk36 (a : Option Addr) (n c : Nat) (rows : List RowI) (hx : rows.length = n) (k : Int) (w : World) (hr : RRd w a rows) :
    Calls Try.prog 36 #[.slice a n c, .int .i64 k] w fun e w' => BytesOk rows e ∧ w' = w := by
  have HX : Hid (rows.length = n) := hx
  clear hx
  by_cases hn : n ≤ 1048576
  · go_enter Try.func36, Try.ntmps36
    go_wp2
    go_loop [5, 6] (fun t i => ∃ (j : Nat) (s : Int), j ≤ n ∧ i = .int .i64 j ∧ 0 ≤ s ∧ s ≤ 1048576 ∧ t = .int .i64 s ∧ Short rows j) (fun _ i => n - (intOf i).toNat)
    case atStart => exact ⟨0, n, Nat.zero_le _, rfl, by omega, by omega, rfl, fun p _ hp => absurd hp (Nat.not_lt_zero _)⟩
    case round =>
      obtain ⟨j, s, hj, rfl, hs0, hs1, rfl, hsh⟩ := hrel
      by_cases hlt : j < n
      · have hlt' : j < rows.length := by rw [HX.out]; exact hlt
        obtain ⟨b, off, ea, hbw, hc⟩ := hr.at hlt'
        subst ea
        have hcell := hc j hlt'
        have HSH : Hid (rows[j].zs.length ≤ 1048576 → Short rows (j + 1)) := fun h p hp hpj => by
          by_cases e : p = j
          · subst e; exact h
          · exact hsh p hp (by omega)
        clear hc
        generalize rows[j] = r at hcell HSH
        go_wp2
        · go_ret; exact ⟨⟨false, rfl, (fun h => nomatch h)⟩, rfl⟩
        · go_ret; exact ⟨⟨false, rfl, (fun h => nomatch h)⟩, rfl⟩
        · go_round
          case rel => exact ⟨j + 1, _, by omega, by go_num, by omega, by omega, rfl, HSH.out (by omega)⟩
          case measure => simp [intOf]; omega
      · go_wp2
        go_ret
        exact ⟨⟨true, rfl, fun _ r hr' => by
          obtain ⟨p, hp, rfl⟩ := List.getElem_of_mem hr'
          exact hsh p hp (by have := HX.out; omega)⟩, rfl⟩
  · go_enter Try.func36, Try.ntmps36
    go_wp2
    go_ret
    exact ⟨⟨false, rfl, (fun h => nomatch h)⟩, rfl⟩

set_option maxHeartbeats 400000 in
theorem newHist_zero (ra sa : Option Addr) (rc sc : Nat) (mg : Int) (w : World) : Calls Try.prog 26 #[.slice ra 0 rc, .slice sa 0 sc, .int .u64 mg] w fun e w' => e = .returned (.pointer (some ⟨w.heap.size, 0, none⟩)) ∧ Hist w' w.heap.size w.heap.size none 0 [] mg ∧ Below w.heap.size w w' := by
  go_enter Try.func26, Try.ntmps26
  go_wp2
  refine wp_loop_rounds 1 ?_
  rw [rounds_succ]
  go_wp2
  refine wp_loop_rounds 1 ?_
  rw [rounds_succ]
  go_wp2
  go_ret
  exact ⟨rfl, ⟨Nat.le_refl _, heap_alloc_new w _, World.ownsRow_nil _ _ _ _, fun _ => 0, fun k l h => by simp at h⟩, (Below.refl _ _).alloc (Nat.le_refl _) _⟩
theorem newHist_all (ra sa : Option Addr) (rn rc sn sc : Nat) (runs spares : List RowI) (hrn : runs.length = rn) (hsn : spares.length = sn) (hr1 : rn ≤ 32768) (hs1 : sn ≤ 32768) (N : Nat) (hN : max rn sn = N) (mg : Int) (w : World) (hr : RRd w ra runs) (hs : RRd w sa spares)
    (hrl : ∀ r ∈ runs, r.zs.length ≤ 131072) (hsl : ∀ r ∈ spares, r.zs.length ≤ 131072) :
    Calls Try.prog 26 #[.slice ra rn rc, .slice sa sn sc, .int .u64 mg] w fun e w' => e = .returned (.pointer (some ⟨w.heap.size, 0, none⟩)) ∧ ∃ la lc ls, Hist w' w.heap.size w.heap.size la lc ls mg ∧ Below w.heap.size w w' ∧
      ShapeL ls N (fun q => tags (rowAt runs q)) (fun q => tags (rowAt spares q)) := by
  by_cases hp : 0 < N
  · exact newHist_any ra sa rn rc sn sc runs spares hrn hsn hr1 hs1 N hN hp mg w hr hs hrl hsl
  · have e1 : rn = 0 := by omega
    have e2 : sn = 0 := by omega
    have e3 : N = 0 := by omega
    subst e1 e2 e3
    refine (newHist_zero ra sa rc sc mg w).mono ?_
    rintro e w' ⟨rfl, h1, h2⟩
    exact ⟨rfl, none, 0, [], h1, h2, rfl, fun q l h => by simp at h⟩
theorem cloneRows_any (a : Option Addr) (n c : Nat) (rows : List RowI) (hx : rows.length = n) (hnil : a = none → n = 0 ∧ c = 0) (w : World) (hr : RRd w a rows) (hn : n ≤ 10000000) (hrn : ∀ r ∈ rows, r.zs.length ≤ 10000000) :
    Calls Try.prog 25 #[.slice a n c] w fun e w' => ∃ (a' : Option Addr) (c' : Nat) (rows' : List RowI), e = .returned (.slice a' n c') ∧ rows'.map RowI.zs = rows.map RowI.zs ∧ RRd w' a' rows' ∧ Below w.heap.size w w' := by
  cases a with
  | none =>
    obtain ⟨rfl, rfl⟩ := hnil rfl
    have he := fun w => Lib.run_eql_slice_nil (P := Try.prog) w 46 42 none 0 0 0 0 Try.underlying46
    have : Calls Try.prog 25 #[.slice none 0 0] w fun e w' => e = .returned (.slice none 0 0) ∧ w' = w := by
      clear hr hrn hnil hx
      go_enter Try.func25, Try.ntmps25
      go_wp2
      go_ret
      exact ⟨rfl, rfl⟩
    refine this.mono ?_
    rintro e w' ⟨rfl, rfl⟩
    exact ⟨none, 0, rows, rfl, rfl, hr, Below.refl _ _⟩
  | some x =>
    refine (cloneRows_some x n c rows hx w hr hn hrn).mono ?_
    rintro e w' ⟨rfl, rows', h1, h2, h3⟩
    exact ⟨_, _, rows', rfl, h1, h2, h3⟩
/-! ### take, by shapes -/
theorem shape_take {ls : List Lv} {N : Nat} {R S : Nat → List RunV} (h : ShapeL ls N R S) {k : Nat} (hk : k ≤ N) (hR : k = N → R k = []) (hS : k = N → S k = []) :
    ShapeL (takeL ls k) (if k = N then N + 1 else N) R (fun q => if q = k then (S k).dropLast else S q) := by
  have hlen := h.len
  by_cases e : k = N
  · have e1 : takeL ls k = ls ++ [lv0] := by simp [takeL, e, ← hlen]
    rw [e1, if_pos e]
    refine ⟨by simp [hlen], fun q l hq => ?_⟩
    rcases Nat.lt_or_ge q ls.length with hlt | hge
    · rw [List.getElem?_append_left hlt] at hq
      obtain ⟨a, b, c⟩ := h.lv q l hq
      exact ⟨a, by rw [if_neg (by omega)]; exact b, c⟩
    · rw [List.getElem?_append_right hge] at hq
      cases hd : q - ls.length with
      | zero =>
        rw [hd] at hq; simp at hq; subst hq
        have eq : q = k := by omega
        subst eq
        exact ⟨(hR e).symm, by simp [hS e, lv0], rfl⟩
      | succ n => rw [hd] at hq; simp at hq
  · rw [if_neg e]
    have hlt : k < ls.length := by omega
    have hl : ls[k]? = some ls[k] := List.getElem?_eq_getElem hlt
    generalize ls[k] = l at hl
    have e1 : takeL ls k = ls.set k { l with spare := l.spare.dropLast } := by simp only [takeL, hl]
    rw [e1]
    refine ⟨by rw [List.length_set]; exact hlen, fun q x hq => ?_⟩
    by_cases e2 : k = q
    · subst e2
      rw [List.getElem?_set_self hlt] at hq
      cases hq
      obtain ⟨a, b, c⟩ := h.lv k l hl
      exact ⟨a, by simp [b], c⟩
    · rw [List.getElem?_set_ne e2] at hq
      obtain ⟨a, b, c⟩ := h.lv q x hq
      exact ⟨a, by rw [if_neg (by omega)]; exact b, c⟩
theorem shape_takeR {ls : List Lv} {N : Nat} {R S : Nat → List RunV} (h : ShapeL ls N R S) {k : Nat} (hk : k ≤ N) (hS : k = N → S k = []) {r : RunV} (hr : takeR ls k r) :
    (S k = [] → freshRun r (pieces k)) ∧ (∀ s, (S k).getLast? = some s → r = s) := by
  have hlen := h.len
  unfold takeR at hr
  split at hr
  · rename_i hn
    have : k = N := by have := List.getElem?_eq_none_iff.1 hn; omega
    exact ⟨fun _ => hr, fun s hs => by rw [hS this] at hs; simp at hs⟩
  · rename_i l hl
    have hb := (h.lv k l hl).2.1
    rw [hb] at hr
    split at hr
    · rename_i hn
      exact ⟨fun _ => hr, fun s hs => by rw [hn] at hs; cases hs⟩
    · rename_i s hs
      exact ⟨fun h0 => by rw [h0] at hs; simp at hs, fun s' hs' => by rw [hs] at hs'; cases hs'; exact hr⟩
end Go.Proofs.Qxb6601843a
