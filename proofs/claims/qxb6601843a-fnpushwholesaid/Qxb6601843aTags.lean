import Derived.Test.Qxb6601843aIntRows
namespace Go.Proofs.Qxb6601843a
open Go.RowKit
set_option maxHeartbeats 400000 in
theorem zzRow_any (a : Option Addr) (n c : Nat) (rows : List RowI) (hx : rows.length = n) (w : World) (hr : RRd w a rows) (qq : Int) (q : Nat) (eq : qq = (q : Int)) :
    Calls Try.prog 30 #[.slice a n c, .int .i64 qq] w fun e w' => e = .returned (.slice (rowAt rows q).a (rowAt rows q).zs.length (rowAt rows q).c) ∧ w' = w := by
  subst eq
  by_cases hq : q < rows.length
  · obtain ⟨b, off, ea, _, hc⟩ := hr.at hq
    subst ea
    have hcell := hc q hq
    rw [rowAt_lt hq]
    generalize rows[q] = r at hcell
    have hq' : q < n := by omega
    clear hc hq hx
    go_enter Try.func30, Try.ntmps30
    go_wp2
    go_ret
    exact ⟨rfl, rfl⟩
  · rw [rowAt_ge hq]
    have hq' : ¬ q < n := by omega
    show Calls Try.prog 30 #[.slice a n c, .int .i64 q] w fun e w' => e = .returned (.slice none 0 0) ∧ w' = w
    clear hx
    go_enter Try.func30, Try.ntmps30
    go_wp2
    go_ret
    exact ⟨rfl, rfl⟩
set_option maxHeartbeats 400000 in
theorem intsEqual_any (a1 a2 : Option Addr) (n c1 c2 : Nat) (zs : List Int) (hx : zs.length = n) (hn : n ≤ 10000000) (w : World) (h1 : Rd w a1 (zs.map (Value.int .i64))) (h2 : Rd w a2 (zs.map (Value.int .i64))) :
    Calls Try.prog 32 #[.slice a1 n c1, .slice a2 n c2] w fun e w' => e = .returned (.bool true) ∧ Below w.heap.size w w' := by
  have HX : Hid (zs.length = n) := hx
  clear hx
  go_enter Try.func32, Try.ntmps32
  go_wp2
  go_loopw [5] (fun i wr => ∃ k : Nat, k ≤ n ∧ i = .int .i64 k ∧ Below w.heap.size w wr) (fun i _ => n - (intOf i).toNat)
  case atStart => exact ⟨0, Nat.zero_le _, rfl, Below.refl _ _⟩
  case round =>
    obtain ⟨k, hk, rfl, hbl⟩ := hrel
    by_cases hlt : k < n
    · have hlt' : k < zs.length := by rw [HX.out]; exact hlt
      obtain ⟨b1, off1, e1, hb1, hc1⟩ := h1.at (k := k) (by simpa using hlt')
      obtain ⟨b2, off2, e2, hb2, hc2⟩ := h2.at (k := k) (by simpa using hlt')
      subst e1 e2
      have d1 : wr.cell? ⟨b1, off1 + k, none⟩ = some (.int .i64 zs[k]) := (hbl.cell (p := ⟨b1, off1 + k, none⟩) hb1).trans (hc1 k _ (ints_get _ _ _ hlt'))
      have d2 : wr.cell? ⟨b2, off2 + k, none⟩ = some (.int .i64 zs[k]) := (hbl.cell (p := ⟨b2, off2 + k, none⟩) hb2).trans (hc2 k _ (ints_get _ _ _ hlt'))
      have hk0 : (0 : Int) ≤ (k : Int) := by omega
      have hk1 : (k : Int) < (n : Int) := by omega
      clear hc1 hc2 h1 h2
      go_wp2
      go_region
      go_wp2
      go_roundw
      case rel => exact ⟨k + 1, by omega, by go_num, hbl.drew⟩
      case measure => simp [intOf]; omega
    · clear h1 h2
      go_wp2
      go_ret
      exact ⟨rfl, hbl⟩

set_option maxHeartbeats 800000 in
theorem spareTags_any {w : World} {base hb : Nat} {la : Option Addr} {lc : Nat} {ls : List Lv} {mg : Int} (h : Hist w base hb la lc ls mg) (kk : Int) (k : Nat) (ek : kk = (k : Int)) (l : Lv) (hl : ls[k]? = some l) (hn : l.spare.length ≤ 10000000) :
    Calls Try.prog 33 #[.pointer (some ⟨hb, 0, none⟩), .int .i64 kk] w fun e w' => ∃ a' c', e = .returned (.slice a' l.spare.length c') ∧ Rd w' a' ((l.spare.map RunV.n).map (Value.int .i64)) ∧ Below w.heap.size w w' := by
  subst ek
  have hlt : k < ls.length := (List.getElem?_eq_some_iff.1 hl).1
  obtain ⟨lb, rfl, _⟩ := h.form (by omega)
  obtain ⟨ow, ho⟩ := h.rows
  have hrow := (ho k l hl).2.1
  have c1 := h.c1
  have c6 : w.cell? ⟨lb, k * 7 + 6, none⟩ = some (.slice l.sa l.spare.length l.sc) := h.cell hl 6 (by omega)
  have l1 := h.lt
  have l2 := h.lev_lt
  have HC : Hid (∀ q (hq : q < l.spare.length), ∃ sb, l.sa = some ⟨sb, 0, none⟩ ∧ sb < w.heap.size ∧ w.cell? ⟨sb, q * 3, none⟩ = some (.int .i64 l.spare[q].n)) := by
    intro q hq
    rcases hrow.form with ⟨_, _, h3⟩ | ⟨sb, h3, _, h4, _⟩
    · rw [h3] at hq; simp at hq
    · refine ⟨sb, h3, h4, ?_⟩
      unfold runRow at hrow
      rw [h3] at hrow
      have := hrow.cellAt (q * 3) (by omega)
      rw [this]
      have := fm_get RunV.cells 3 RunV.len l.spare q 0 l.spare[q] (List.getElem?_eq_getElem hq) (by omega)
      rw [Nat.add_zero] at this
      rw [this]; rfl
  have hm := make42 l.spare.length hn
  have H0 : Hid ((w.alloc (Obj.cells (madeCells #[.int .i64 0] l.spare.length) 3)).heap[w.heap.size]? = some (.cells (part ((l.spare.map RunV.n).map (Value.int .i64)) (.int .i64 0) 0) 3 (0, 0))) := by rw [part_zero, List.length_map, List.length_map]; exact heap_alloc_new w _
  clear hl ho hrow
  generalize hL : l.spare.length = L at hn c6 hm H0 ⊢
  have HL : Hid (l.spare.length = L) := hL
  clear hL
  go_enter Try.func33, Try.ntmps33
  go_wp2
  go_loopw [6] (fun i wr => ∃ q : Nat, q ≤ L ∧ i = .int .i64 q ∧ wr.heap[w.heap.size]? = some (.cells (part ((l.spare.map RunV.n).map (Value.int .i64)) (.int .i64 0) q) 3 (0, 0)) ∧ Below w.heap.size w wr) (fun i _ => L - (intOf i).toNat)
  case atStart => exact ⟨0, Nat.zero_le _, rfl, H0.out, (Below.refl _ _).alloc (Nat.le_refl _) _⟩
  case round =>
    obtain ⟨q, hq, rfl, hrow, hbl⟩ := hrel
    by_cases hlt2 : q < L
    · have hlt' : q < l.spare.length := by rw [HL.out]; exact hlt2
      obtain ⟨sb, es, hsb, hcell⟩ := HC.out q hlt'
      have d1 : wr.cell? ⟨hb, 1, none⟩ = some (.slice (some ⟨lb, 0, none⟩) ls.length lc) := (hbl.cell (p := ⟨hb, 1, none⟩) l1).trans c1
      have d2 : wr.cell? ⟨lb, k * 7 + 6, none⟩ = some (.slice (some ⟨sb, 0, none⟩) L l.sc) := (hbl.cell (p := ⟨lb, k * 7 + 6, none⟩) l2).trans (by rw [c6, es])
      have d3 : wr.cell? ⟨sb, q * 3, none⟩ = some (.int .i64 l.spare[q].n) := (hbl.cell (p := ⟨sb, q * 3, none⟩) hsb).trans hcell
      have hcN := part_cell hrow (k := q) (by simpa using hlt')
      have hz := frozen_of_row wr _ q _ _ hrow
      have HR := part_store' hrow (.int .i64 l.spare[q].n) (by simp [hlt'])
      have HB : Below w.heap.size w (wr.setCell ⟨w.heap.size, q, none⟩ (.int .i64 l.spare[q].n)) := hbl.setCell (Nat.le_refl _) _
      generalize l.spare[q].n = z at d3 HR HB
      clear hcell es c6 c1 hrow H0
      go_wp2
      go_roundw
      case rel => exact ⟨q + 1, by omega, by go_num, HR, HB⟩
      case measure => simp [intOf]; omega
    · have e : q = L := by omega
      have HR : Hid (wr.heap[w.heap.size]? = some (.cells ((l.spare.map RunV.n).map (Value.int .i64)).toArray 3 (0, 0))) := by
        have := hrow
        rw [e, show L = ((l.spare.map RunV.n).map (Value.int .i64)).length from by rw [List.length_map, List.length_map, HL.out], part_full] at this
        exact this
      clear hrow H0 e
      go_wp2
      go_ret
      exact ⟨_, _, rfl, by simpa using Rd.of_block HR.out, hbl⟩

set_option maxHeartbeats 800000 in
theorem runTags_any {w : World} {base hb : Nat} {la : Option Addr} {lc : Nat} {ls : List Lv} {mg : Int} (h : Hist w base hb la lc ls mg) (kk : Int) (k : Nat) (ek : kk = (k : Int)) (l : Lv) (hl : ls[k]? = some l) (hn : l.runs.length ≤ 10000000) :
    Calls Try.prog 42 #[.pointer (some ⟨hb, 0, none⟩), .int .i64 kk] w fun e w' => ∃ a' c', e = .returned (.slice a' l.runs.length c') ∧ Rd w' a' ((l.runs.map RunV.n).map (Value.int .i64)) ∧ Below w.heap.size w w' := by
  subst ek
  have hlt : k < ls.length := (List.getElem?_eq_some_iff.1 hl).1
  obtain ⟨lb, rfl, _⟩ := h.form (by omega)
  obtain ⟨ow, ho⟩ := h.rows
  have hrow := (ho k l hl).1
  have c1 := h.c1
  have c6 : w.cell? ⟨lb, k * 7, none⟩ = some (.slice l.ra l.runs.length l.rc) := (by have := h.cell hl 0 (by omega); simpa [Lv.cells] using this)
  have l1 := h.lt
  have l2 := h.lev_lt
  have HC : Hid (∀ q (hq : q < l.runs.length), ∃ sb, l.ra = some ⟨sb, 0, none⟩ ∧ sb < w.heap.size ∧ w.cell? ⟨sb, q * 3, none⟩ = some (.int .i64 l.runs[q].n)) := by
    intro q hq
    rcases hrow.form with ⟨_, _, h3⟩ | ⟨sb, h3, _, h4, _⟩
    · rw [h3] at hq; simp at hq
    · refine ⟨sb, h3, h4, ?_⟩
      unfold runRow at hrow
      rw [h3] at hrow
      have := hrow.cellAt (q * 3) (by omega)
      rw [this]
      have := fm_get RunV.cells 3 RunV.len l.runs q 0 l.runs[q] (List.getElem?_eq_getElem hq) (by omega)
      rw [Nat.add_zero] at this
      rw [this]; rfl
  have hm := make42 l.runs.length hn
  have H0 : Hid ((w.alloc (Obj.cells (madeCells #[.int .i64 0] l.runs.length) 3)).heap[w.heap.size]? = some (.cells (part ((l.runs.map RunV.n).map (Value.int .i64)) (.int .i64 0) 0) 3 (0, 0))) := by rw [part_zero, List.length_map, List.length_map]; exact heap_alloc_new w _
  clear hl ho hrow
  generalize hL : l.runs.length = L at hn c6 hm H0 ⊢
  have HL : Hid (l.runs.length = L) := hL
  clear hL
  go_enter Try.func42, Try.ntmps42
  go_wp2
  go_loopw [6] (fun i wr => ∃ q : Nat, q ≤ L ∧ i = .int .i64 q ∧ wr.heap[w.heap.size]? = some (.cells (part ((l.runs.map RunV.n).map (Value.int .i64)) (.int .i64 0) q) 3 (0, 0)) ∧ Below w.heap.size w wr) (fun i _ => L - (intOf i).toNat)
  case atStart => exact ⟨0, Nat.zero_le _, rfl, H0.out, (Below.refl _ _).alloc (Nat.le_refl _) _⟩
  case round =>
    obtain ⟨q, hq, rfl, hrow, hbl⟩ := hrel
    by_cases hlt2 : q < L
    · have hlt' : q < l.runs.length := by rw [HL.out]; exact hlt2
      obtain ⟨sb, es, hsb, hcell⟩ := HC.out q hlt'
      have d1 : wr.cell? ⟨hb, 1, none⟩ = some (.slice (some ⟨lb, 0, none⟩) ls.length lc) := (hbl.cell (p := ⟨hb, 1, none⟩) l1).trans c1
      have d2 : wr.cell? ⟨lb, k * 7, none⟩ = some (.slice (some ⟨sb, 0, none⟩) L l.rc) := (hbl.cell (p := ⟨lb, k * 7, none⟩) l2).trans (by rw [c6, es])
      have d3 : wr.cell? ⟨sb, q * 3, none⟩ = some (.int .i64 l.runs[q].n) := (hbl.cell (p := ⟨sb, q * 3, none⟩) hsb).trans hcell
      have hcN := part_cell hrow (k := q) (by simpa using hlt')
      have hz := frozen_of_row wr _ q _ _ hrow
      have HR := part_store' hrow (.int .i64 l.runs[q].n) (by simp [hlt'])
      have HB : Below w.heap.size w (wr.setCell ⟨w.heap.size, q, none⟩ (.int .i64 l.runs[q].n)) := hbl.setCell (Nat.le_refl _) _
      generalize l.runs[q].n = z at d3 HR HB
      clear hcell es c6 c1 hrow H0
      go_wp2
      go_roundw
      case rel => exact ⟨q + 1, by omega, by go_num, HR, HB⟩
      case measure => simp [intOf]; omega
    · have e : q = L := by omega
      have HR : Hid (wr.heap[w.heap.size]? = some (.cells ((l.runs.map RunV.n).map (Value.int .i64)).toArray 3 (0, 0))) := by
        have := hrow
        rw [e, show L = ((l.runs.map RunV.n).map (Value.int .i64)).length from by rw [List.length_map, List.length_map, HL.out], part_full] at this
        exact this
      clear hrow H0 e
      go_wp2
      go_ret
      exact ⟨_, _, rfl, by simpa using Rd.of_block HR.out, hbl⟩
end Go.Proofs.Qxb6601843a
