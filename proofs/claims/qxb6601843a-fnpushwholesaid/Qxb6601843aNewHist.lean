import Derived.Test.Qxb6601843aTags
import Derived.Test.Qxb6601843aAppRow
import Derived.Lib.MinMax
namespace Go.Proofs.Qxb6601843a
open Go.RowKit
attribute [local go_sem ↓] wp_app
def tagRun (z : Int) : RunV := ⟨z, none, 0, 0, none, 0, 0⟩
def tags (r : RowI) : List RunV := r.zs.map tagRun
structure ShapeL (ls : List Lv) (N : Nat) (R S : Nat → List RunV) : Prop where
  len : ls.length = N
  lv : ∀ q l, ls[q]? = some l → l.runs = R q ∧ l.spare = S q ∧ l.m = run0
def z7 : Array Value := #[.slice none 0 0, .int .i64 0, .slice none 0 0, .slice none 0 0, .int .i64 0, .int .i64 0, .slice none 0 0]
def levCells (n : Nat) : Array Value := ((List.replicate n lv0).flatMap Lv.cells).toArray
theorem made7 (n : Nat) : madeCells z7 (n * 7) = levCells n := by
  apply Array.toList_inj.1
  unfold levCells
  apply List.ext_getElem?
  intro i
  by_cases hi : i < n * 7
  · have e : i = i / 7 * 7 + i % 7 := by omega
    have h1 : ((List.replicate n lv0).flatMap Lv.cells)[i]? = lv0.cells[i % 7]? := by
      conv => lhs; rw [e]
      exact fm_get Lv.cells 7 Lv.len (List.replicate n lv0) (i / 7) (i % 7) lv0 (by rw [List.getElem?_replicate, if_pos (by omega)]) (by omega)
    rw [show (((List.replicate n lv0).flatMap Lv.cells).toArray.toList)[i]? = ((List.replicate n lv0).flatMap Lv.cells)[i]? from rfl, h1]
    have h2 : (madeCells z7 (n * 7)).toList[i]? = some z7[i % 7]! := by
      simp [madeCells, hi, z7]
    rw [h2]
    have : i % 7 = 0 ∨ i % 7 = 1 ∨ i % 7 = 2 ∨ i % 7 = 3 ∨ i % 7 = 4 ∨ i % 7 = 5 ∨ i % 7 = 6 := by omega
    rcases this with h | h | h | h | h | h | h <;> rw [h] <;> rfl
  · rw [List.getElem?_eq_none (by simp [madeCells]; omega), List.getElem?_eq_none (by simp [fm_length Lv.cells 7 Lv.len]; omega)]
theorem make78 (n : Nat) (h1 : n ≤ 100000) (w : World) : Sem.run Try.prog (Instr.makeSlice 78 (Value.int .i64 n) (Value.int .i64 n)) w =
   Result.ok (Value.slice (some { block := w.heap.size, off := 0 }) n n) (w.alloc (Obj.cells (levCells n) 75)) := by
  obtain ⟨i0, hi, hz0, hz1, hz2⟩ := info_parts Try.info75
  have := run_make (P := Try.prog) w 78 75 i0 _ Try.underlying78 hi hz0 .i64 .i64 n n (by omega) (by omega) (by rw [hz2]; omega) (by omega)
  rw [hz1] at this
  simp only [Value.cells, Int.toNat_natCast] at this
  rw [← made7]
  exact this
theorem hist_made (w : World) (n : Nat) (hn : n ≤ maxLen) (mg : Int) : Hist ((w.alloc (.cells #[.slice none 0 0, .slice (some ⟨w.heap.size + 1, 0, none⟩) n n, .int .u64 mg] 80)).alloc (.cells (levCells n) 75)) w.heap.size w.heap.size (some ⟨w.heap.size + 1, 0, none⟩) n (List.replicate n lv0) mg := by
  refine ⟨Nat.le_refl _, ?_, ?_, fun _ => 0, fun k l hk => ?_⟩
  · rw [Below.heap_alloc _ _ _ (by simp), List.length_replicate]; exact heap_alloc_new w _
  · have := World.ownsRow_lit (base := w.heap.size) (e := 75) (size := 7) (w.alloc (.cells #[.slice none 0 0, .slice (some ⟨w.heap.size + 1, 0, none⟩) n n, .int .u64 mg] 80)) (levCells n) n (by simp) hn (by simp [levCells, fm_length Lv.cells 7 Lv.len])
    simpa [levCells] using this
  · have : l = lv0 := by
      rw [List.getElem?_replicate] at hk
      split at hk
      · exact (Option.some.inj hk).symm
      · cases hk
    subst this
    exact ⟨runRow.nil _ _, runRow.nil _ _, (fun a ha => nomatch ha), (fun a ha => nomatch ha)⟩
theorem shape_new (n : Nat) (R S : Nat → List RunV) (hR : ∀ q, R q = []) (hS : ∀ q, S q = []) : ShapeL (List.replicate n lv0) n R S := by
  refine ⟨by simp, fun q l hq => ?_⟩
  have : l = lv0 := by
    rw [List.getElem?_replicate] at hq
    split at hq
    · exact (Option.some.inj hq).symm
    · cases hq
  subst this
  exact ⟨(hR q).symm, (hS q).symm, rfl⟩
theorem ShapeL.congr {ls : List Lv} {N : Nat} {R S R' S' : Nat → List RunV} (h : ShapeL ls N R S) (hR : ∀ q, q < N → R q = R' q) (hS : ∀ q, q < N → S q = S' q) : ShapeL ls N R' S' :=
  ⟨h.len, fun q l hq => by
    have hlt : q < N := by rw [← h.len]; exact (List.getElem?_eq_some_iff.1 hq).1
    obtain ⟨a, b, c⟩ := h.lv q l hq
    exact ⟨a.trans (hR q hlt), b.trans (hS q hlt), c⟩⟩
theorem ShapeL.push {ls : List Lv} {N : Nat} {R S : Nat → List RunV} (h : ShapeL ls N R S) {k : Nat} {l : Lv} (hk : ls[k]? = some l) (ra : Option Addr) (rc : Nat) (r : RunV) :
    ShapeL (ls.set k { l with ra := ra, rc := rc, runs := l.runs ++ [r] }) N (fun q => if q = k then R k ++ [r] else R q) S := by
  refine ⟨by rw [List.length_set]; exact h.len, fun q x hq => ?_⟩
  by_cases e : k = q
  · subst e
    rw [List.getElem?_set_self (List.getElem?_eq_some_iff.1 hk).1] at hq
    cases hq
    obtain ⟨a, b, c⟩ := h.lv k l hk
    exact ⟨by simp [a], b, c⟩
  · rw [List.getElem?_set_ne e] at hq
    obtain ⟨a, b, c⟩ := h.lv q x hq
    exact ⟨by rw [if_neg (by omega)]; exact a, b, c⟩
theorem ShapeL.pushS {ls : List Lv} {N : Nat} {R S : Nat → List RunV} (h : ShapeL ls N R S) {k : Nat} {l : Lv} (hk : ls[k]? = some l) (sa : Option Addr) (sc : Nat) (r : RunV) :
    ShapeL (ls.set k { l with sa := sa, sc := sc, spare := l.spare ++ [r] }) N R (fun q => if q = k then S k ++ [r] else S q) := by
  refine ⟨by rw [List.length_set]; exact h.len, fun q x hq => ?_⟩
  by_cases e : k = q
  · subst e
    rw [List.getElem?_set_self (List.getElem?_eq_some_iff.1 hk).1] at hq
    cases hq
    obtain ⟨a, b, c⟩ := h.lv k l hk
    exact ⟨a, by simp [b], c⟩
  · rw [List.getElem?_set_ne e] at hq
    obtain ⟨a, b, c⟩ := h.lv q x hq
    exact ⟨a, by rw [if_neg (by omega)]; exact b, c⟩
/-- how far the loops have come: level k's list up to q, those below whole -/
def upTo (rows : List RowI) (k q : Nat) (p : Nat) : List RunV := if p < k then tags (rowAt rows p) else if p = k then (tags (rowAt rows k)).take q else []
theorem tags_len (r : RowI) : (tags r).length = r.zs.length := by simp [tags]
theorem upTo_step (rows : List RowI) (k q : Nat) (hk : k < rows.length) (hq : q < rows[k].zs.length) (p : Nat) : (if p = k then upTo rows k q k ++ [tagRun rows[k].zs[q]] else upTo rows k q p) = upTo rows k (q + 1) p := by
  by_cases e : p = k
  · subst e
    simp only [if_true, upTo, Nat.lt_irrefl, if_false]
    rw [rowAt_lt hk, List.take_succ_eq_append_getElem (by rw [tags_len]; exact hq)]
    simp [tags]
  · simp [upTo, e]
theorem upTo_next (rows : List RowI) (k q : Nat) (hq : (rowAt rows k).zs.length ≤ q) (p : Nat) : upTo rows k q p = upTo rows (k + 1) 0 p := by
  unfold upTo
  by_cases e : p < k
  · rw [if_pos e, if_pos (by omega)]
  · by_cases e2 : p = k
    · subst e2
      rw [if_neg e, if_pos rfl, if_pos (by omega), List.take_of_length_le (by rw [tags_len]; exact hq)]
    · rw [if_neg e, if_neg e2, if_neg (by omega)]
      split <;> simp
theorem upTo_full (rows : List RowI) (k : Nat) (hk : rows.length ≤ k) (p : Nat) : upTo rows k 0 p = tags (rowAt rows p) := by
  unfold upTo
  by_cases e : p < k
  · rw [if_pos e]
  · rw [if_neg e, rowAt_ge (q := p) (by omega)]
    split <;> simp [tags, rowNil]
set_option maxRecDepth 100000 in
set_option maxHeartbeats 1000000 in
theorem newHist_any (ra sa : Option Addr) (rn rc sn sc : Nat) (runs spares : List RowI) (hrn : runs.length = rn) (hsn : spares.length = sn) (hr1 : rn ≤ 32768) (hs1 : sn ≤ 32768) (N : Nat) (hN : max rn sn = N) (hpos : 0 < N) (mg : Int) (w : World) (hr : RRd w ra runs) (hs : RRd w sa spares)
    (hrl : ∀ r ∈ runs, r.zs.length ≤ 131072) (hsl : ∀ r ∈ spares, r.zs.length ≤ 131072) :
    Calls Try.prog 26 #[.slice ra rn rc, .slice sa sn sc, .int .u64 mg] w fun e w' => e = .returned (.pointer (some ⟨w.heap.size, 0, none⟩)) ∧ ∃ la lc ls, Hist w' w.heap.size w.heap.size la lc ls mg ∧ Below w.heap.size w w' ∧
      ShapeL ls N (fun q => tags (rowAt runs q)) (fun q => tags (rowAt spares q)) := by
  have hm := make78 N (by omega)
  have e1 : max (rn : Int) (sn : Int) = (N : Int) := by omega
  have n1 : N ≤ 32768 := by omega
  have n2 : rn ≤ N := by omega
  have n3 : sn ≤ N := by omega
  have HR : Hid (runs.length = rn) := hrn
  have HS : Hid (spares.length = sn) := hsn
  have H0 : Hid (Hist ((w.alloc (.cells #[.slice none 0 0, .slice (some ⟨w.heap.size + 1, 0, none⟩) N N, .int .u64 mg] 80)).alloc (.cells (levCells N) 75)) w.heap.size w.heap.size (some ⟨w.heap.size + 1, 0, none⟩) N (List.replicate N lv0) mg) := hist_made w N (by unfold maxLen; omega) mg
  clear hrn hsn hN
  go_enter Try.func26, Try.ntmps26
  go_wp2
  go_loopw [9] (fun i wr => ∃ (k : Nat) (ls : List Lv), k ≤ rn ∧ i = .int .i64 k ∧ Hist wr w.heap.size w.heap.size (some ⟨w.heap.size + 1, 0, none⟩) N ls mg ∧ Below w.heap.size w wr ∧ ShapeL ls N (upTo runs k 0) (fun _ => [])) (fun i _ => rn - (intOf i).toNat)
  case atStart => exact ⟨0, List.replicate N lv0, Nat.zero_le _, rfl, H0.out, ((Below.refl _ _).alloc (Nat.le_refl _) _).alloc (by simp) _, shape_new N _ _ (fun q => by simp [upTo]) (fun _ => rfl)⟩
  case round =>
    obtain ⟨k, ls, hk, rfl, H, hbl, hsh⟩ := hrel
    clear H0
    by_cases hlt : k < rn
    · have hlt' : k < runs.length := by rw [HR.out]; exact hlt
      obtain ⟨b, off, ea, hbw, hc⟩ := hr.at hlt'
      subst ea
      have hcell : ∀ wr : World, Below w.heap.size w wr → wr.cell? ⟨b, off + k, none⟩ = some (.slice runs[k].a runs[k].zs.length runs[k].c) := fun wr hbl => (hbl.cell (p := ⟨b, off + k, none⟩) hbw).trans (hc k hlt')
      have hrow := hr.2 _ (List.getElem_mem hlt')
      have hlen := hrl _ (List.getElem_mem hlt')
      have HU : Hid (∀ (q : Nat) (hq : q < runs[k].zs.length) p, (if p = k then upTo runs k q k ++ [tagRun runs[k].zs[q]] else upTo runs k q p) = upTo runs k (q + 1) p) := fun q hq p => upTo_step runs k q hlt' hq p
      have HK : Hid (rowAt runs k = runs[k]) := rowAt_lt hlt'
      generalize runs[k] = r at hcell hrow hlen HU HK
      have d0 := hcell wr hbl
      clear hc
      go_wp2
      clear d0
      go_loopw [10] (fun i wr => ∃ (q : Nat) (ls : List Lv), q ≤ r.zs.length ∧ i = .int .i64 q ∧ Hist wr w.heap.size w.heap.size (some ⟨w.heap.size + 1, 0, none⟩) N ls mg ∧ Below w.heap.size w wr ∧ ShapeL ls N (upTo runs k q) (fun _ => [])) (fun i _ => r.zs.length - (intOf i).toNat)
      case atStart => exact ⟨0, ls, Nat.zero_le _, rfl, H, hbl, hsh⟩
      case round =>
        clear H hbl hsh
        obtain ⟨q, ls, hq, rfl, H, hbl, hsh⟩ := hrel
        by_cases hqlt : q < r.zs.length
        · obtain ⟨b', off', ea', hbw', hc'⟩ := hrow.1.at (k := q) (by simpa using hqlt)
          have d0 : wr.cell? ⟨b, off + k, none⟩ = some (.slice (some ⟨b', off', none⟩) r.zs.length r.c) := by rw [hcell wr hbl, ea']
          have d1 : wr.cell? ⟨b', off' + q, none⟩ = some (.int .i64 r.zs[q]) := (hbl.cell (p := ⟨b', off' + q, none⟩) hbw').trans (hc' q _ (ints_get _ _ _ hqlt))
          have HUq : Hid (∀ p, (if p = k then upTo runs k q k ++ [tagRun r.zs[q]] else upTo runs k q p) = upTo runs k (q + 1) p) := fun p => HU.out q hqlt p
          generalize r.zs[q] = z at d1 HUq
          have hkl : k < ls.length := by rw [hsh.len]; omega
          have hl : ls[k]? = some ls[k] := List.getElem?_eq_getElem hkl
          have hlr := (hsh.lv k _ hl).1
          generalize ls[k] = l at hl hlr
          have hln : l.runs.length ≤ 131072 := by
            rw [hlr]; unfold upTo; rw [if_neg (Nat.lt_irrefl _), if_pos rfl, HK.out, List.length_take, tags_len]; omega
          have bw : Below wr.heap.size wr (wr.alloc (.cells #[.int .i64 z, .slice none 0 0, .slice none 0 0] 53)).drew := ((Below.refl _ _).alloc (Nat.le_refl _) _).drew
          obtain ⟨gg, cap, w1, hap, p1, p2, p3, H3, F3⟩ := append_runs (wr.alloc (.cells #[.int .i64 z, .slice none 0 0, .slice none 0 0] 53)).drew _ _ _ _ _ _ (H.below bw) k l hl (by omega) (tagRun z) wr.heap.size (heap_alloc_new wr _)
          have hb3 : Below w.heap.size w (w1.setCell ⟨w.heap.size + 1, k * 7, none⟩ (.slice (some ⟨gg, 0, none⟩) (l.runs.length + 1) cap)) := (hbl.trans (bw.mono hbl.size)).trans (F3.below (H.below bw))
          have c1 := H.c1
          have c0 : wr.cell? ⟨w.heap.size + 1, k * 7, none⟩ = some (.slice l.ra l.runs.length l.rc) := (by have := H.cell hl 0 (by omega); simpa [Lv.cells] using this)
          have l1 := H.lt
          have l2 := H.lev_lt
          have hsh3 := hsh.push hl (some ⟨gg, 0, none⟩) cap (tagRun z)
          have bk : b' < wr.heap.size := World.block_lt_of_cell? wr _ d1
          have bk2 : b < wr.heap.size := World.block_lt_of_cell? wr _ d0
          have i0 : (0 : Int) ≤ (k : Int) := by omega
          have i1 : (k : Int) < (ls.length : Int) := by omega
          have i2 : (k : Int) < (rn : Int) := by omega
          have i3 : (0 : Int) ≤ (q : Int) := by omega
          have i4 : (q : Int) < (r.zs.length : Int) := by omega
          have HL2 : Hid (ls[k]? = some l) := hl
          have HLR : Hid (_ = _) := hlr
          clear hcell hc' hl hlr ea' hsh bw HU
          go_wp2
          go_region
          go_wp2
          go_roundw
          case rel => exact ⟨q + 1, _, by omega, by go_num, H3, hb3, hsh3.congr (fun p _ => HUq.out p) (fun _ _ => rfl)⟩
          case measure => simp [intOf]; omega
        · have d0 := hcell wr hbl
          go_wp2
          go_roundw
          case rel => exact ⟨k + 1, ls, by omega, by go_num, H, hbl, hsh.congr (fun p _ => upTo_next runs k q (by rw [HK.out]; omega) p) (fun _ _ => rfl)⟩
          case measure => simp [intOf]; omega
    · have HSH : Hid (ShapeL ls N (fun q => tags (rowAt runs q)) (fun _ => [])) := hsh.congr (fun p _ => upTo_full runs k (by rw [HR.out]; omega) p) (fun _ _ => rfl)
      clear hsh
      go_wp2
      go_loopw [11] (fun i wr => ∃ (k : Nat) (ls : List Lv), k ≤ sn ∧ i = .int .i64 k ∧ Hist wr w.heap.size w.heap.size (some ⟨w.heap.size + 1, 0, none⟩) N ls mg ∧ Below w.heap.size w wr ∧ ShapeL ls N (fun q => tags (rowAt runs q)) (upTo spares k 0)) (fun i _ => sn - (intOf i).toNat)
      case atStart => exact ⟨0, ls, Nat.zero_le _, rfl, H, hbl, HSH.out.congr (fun _ _ => rfl) (fun q _ => by simp [upTo])⟩
      case round =>
        clear H hbl HSH
        obtain ⟨k, ls, hk, rfl, H, hbl, hsh⟩ := hrel
        by_cases hlt : k < sn
        · have hlt' : k < spares.length := by rw [HS.out]; exact hlt
          obtain ⟨b, off, ea, hbw, hc⟩ := hs.at hlt'
          subst ea
          have hcell : ∀ wr : World, Below w.heap.size w wr → wr.cell? ⟨b, off + k, none⟩ = some (.slice spares[k].a spares[k].zs.length spares[k].c) := fun wr hbl => (hbl.cell (p := ⟨b, off + k, none⟩) hbw).trans (hc k hlt')
          have hrow := hs.2 _ (List.getElem_mem hlt')
          have hlen := hsl _ (List.getElem_mem hlt')
          have HU : Hid (∀ (q : Nat) (hq : q < spares[k].zs.length) p, (if p = k then upTo spares k q k ++ [tagRun spares[k].zs[q]] else upTo spares k q p) = upTo spares k (q + 1) p) := fun q hq p => upTo_step spares k q hlt' hq p
          have HK : Hid (rowAt spares k = spares[k]) := rowAt_lt hlt'
          generalize spares[k] = r at hcell hrow hlen HU HK
          have d0 := hcell wr hbl
          clear hc
          go_wp2
          clear d0
          go_loopw [12] (fun i wr => ∃ (q : Nat) (ls : List Lv), q ≤ r.zs.length ∧ i = .int .i64 q ∧ Hist wr w.heap.size w.heap.size (some ⟨w.heap.size + 1, 0, none⟩) N ls mg ∧ Below w.heap.size w wr ∧ ShapeL ls N (fun q => tags (rowAt runs q)) (upTo spares k q)) (fun i _ => r.zs.length - (intOf i).toNat)
          case atStart => exact ⟨0, ls, Nat.zero_le _, rfl, H, hbl, hsh⟩
          case round =>
            clear H hbl hsh
            obtain ⟨q, ls, hq, rfl, H, hbl, hsh⟩ := hrel
            by_cases hqlt : q < r.zs.length
            · obtain ⟨b', off', ea', hbw', hc'⟩ := hrow.1.at (k := q) (by simpa using hqlt)
              have d0 : wr.cell? ⟨b, off + k, none⟩ = some (.slice (some ⟨b', off', none⟩) r.zs.length r.c) := by rw [hcell wr hbl, ea']
              have d1 : wr.cell? ⟨b', off' + q, none⟩ = some (.int .i64 r.zs[q]) := (hbl.cell (p := ⟨b', off' + q, none⟩) hbw').trans (hc' q _ (ints_get _ _ _ hqlt))
              have HUq : Hid (∀ p, (if p = k then upTo spares k q k ++ [tagRun r.zs[q]] else upTo spares k q p) = upTo spares k (q + 1) p) := fun p => HU.out q hqlt p
              generalize r.zs[q] = z at d1 HUq
              have hkl : k < ls.length := by rw [hsh.len]; omega
              have hl : ls[k]? = some ls[k] := List.getElem?_eq_getElem hkl
              have hlr := (hsh.lv k _ hl).2.1
              generalize ls[k] = l at hl hlr
              have hln : l.spare.length ≤ 131072 := by
                rw [hlr]; unfold upTo; rw [if_neg (Nat.lt_irrefl _), if_pos rfl, HK.out, List.length_take, tags_len]; omega
              have bw : Below wr.heap.size wr (wr.alloc (.cells #[.int .i64 z, .slice none 0 0, .slice none 0 0] 53)).drew := ((Below.refl _ _).alloc (Nat.le_refl _) _).drew
              obtain ⟨gg, cap, w1, hap, p1, p2, p3, H3, F3⟩ := append_spares (wr.alloc (.cells #[.int .i64 z, .slice none 0 0, .slice none 0 0] 53)).drew _ _ _ _ _ _ (H.below bw) k l hl (by omega) (tagRun z) wr.heap.size (heap_alloc_new wr _)
              have hb3 : Below w.heap.size w (w1.setCell ⟨w.heap.size + 1, k * 7 + 6, none⟩ (.slice (some ⟨gg, 0, none⟩) (l.spare.length + 1) cap)) := (hbl.trans (bw.mono hbl.size)).trans (F3.below (H.below bw))
              have c1 := H.c1
              have c0 : wr.cell? ⟨w.heap.size + 1, k * 7 + 6, none⟩ = some (.slice l.sa l.spare.length l.sc) := H.cell hl 6 (by omega)
              have l1 := H.lt
              have l2 := H.lev_lt
              have hsh3 := hsh.pushS hl (some ⟨gg, 0, none⟩) cap (tagRun z)
              have bk : b' < wr.heap.size := World.block_lt_of_cell? wr _ d1
              have bk2 : b < wr.heap.size := World.block_lt_of_cell? wr _ d0
              have i0 : (0 : Int) ≤ (k : Int) := by omega
              have i1 : (k : Int) < (ls.length : Int) := by omega
              have i2 : (k : Int) < (sn : Int) := by omega
              have i3 : (0 : Int) ≤ (q : Int) := by omega
              have i4 : (q : Int) < (r.zs.length : Int) := by omega
              have HL2 : Hid (ls[k]? = some l) := hl
              have HLR : Hid (_ = _) := hlr
              clear hcell hc' hl hlr ea' hsh bw HU
              go_wp2
              go_region
              go_wp2
              go_roundw
              case rel => exact ⟨q + 1, _, by omega, by go_num, H3, hb3, hsh3.congr (fun _ _ => rfl) (fun p _ => HUq.out p)⟩
              case measure => simp [intOf]; omega
            · have d0 := hcell wr hbl
              go_wp2
              go_roundw
              case rel => exact ⟨k + 1, ls, by omega, by go_num, H, hbl, hsh.congr (fun _ _ => rfl) (fun p _ => upTo_next spares k q (by rw [HK.out]; omega) p)⟩
              case measure => simp [intOf]; omega
        · have HSH : Hid (ShapeL ls N (fun q => tags (rowAt runs q)) (fun q => tags (rowAt spares q))) := hsh.congr (fun _ _ => rfl) (fun p _ => upTo_full spares k (by rw [HS.out]; omega) p)
          clear hsh
          go_wp2
          go_ret
          exact ⟨rfl, _, _, ls, H, hbl, HSH.out⟩
end Go.Proofs.Qxb6601843a
