import Derived.Test.Qxb6601843aTakeWhole
namespace Go.Proofs.Qxb6601843a
open Go.RowKit
def BytesOk2 (runs spares : List RowI) (e : Ending) : Prop := ∃ b, e = .returned (.bool b) ∧ (b = true → (∀ r ∈ runs, r.zs.length ≤ 1048576) ∧ ∀ r ∈ spares, r.zs.length ≤ 1048576)
set_option maxRecDepth 100000 in
set_option maxHeartbeats 1600000 in
theorem bytesOk38 (a1 a2 : Option Addr) (n1 c1 n2 c2 : Nat) (runs spares : List RowI) (hx1 : runs.length = n1) (hx2 : spares.length = n2) (mg k tag : Int) (w : World) (hr : RRd w a1 runs) (hs : RRd w a2 spares) :
    Calls Try.prog 38 #[.slice a1 n1 c1, .slice a2 n2 c2, .int .u64 mg, .int .i64 k, .int .i64 tag] w fun e w' => BytesOk2 runs spares e ∧ w' = w := by
  have HX1 : Hid (runs.length = n1) := hx1
  have HX2 : Hid (spares.length = n2) := hx2
  clear hx1 hx2
  by_cases hn : n1 ≤ 1048576
  · go_enter Try.func38, Try.ntmps38
    go_wp2
    go_loop [11, 12] (fun t i => ∃ (j : Nat) (s : Int), j ≤ n1 ∧ i = .int .i64 j ∧ 0 ≤ s ∧ s ≤ 1048576 ∧ t = .int .i64 s ∧ Short runs j) (fun _ i => n1 - (intOf i).toNat)
    case atStart => exact ⟨0, n1, Nat.zero_le _, rfl, by omega, by omega, rfl, fun p _ hp => absurd hp (Nat.not_lt_zero _)⟩
    case round =>
      obtain ⟨j, s, hj, rfl, hs0, hs1, rfl, hsh⟩ := hrel
      by_cases hlt : j < n1
      · have hlt' : j < runs.length := by rw [HX1.out]; exact hlt
        obtain ⟨b, off, ea, hbw, hc⟩ := hr.at hlt'
        subst ea
        have hcell := hc j hlt'
        have HSH : Hid (runs[j].zs.length ≤ 1048576 → Short runs (j + 1)) := fun h p hp hpj => by
          by_cases e : p = j
          · subst e; exact h
          · exact hsh p hp (by omega)
        clear hc
        generalize runs[j] = r at hcell HSH
        go_wp2
        · go_ret; exact ⟨⟨false, rfl, (fun h => nomatch h)⟩, rfl⟩
        · go_ret; exact ⟨⟨false, rfl, (fun h => nomatch h)⟩, rfl⟩
        · go_round
          case rel => exact ⟨j + 1, _, by omega, by go_num, by omega, by omega, rfl, HSH.out (by omega)⟩
          case measure => simp [intOf]; omega
      · have HR1 : Hid (∀ r ∈ runs, r.zs.length ≤ 1048576) := fun r hr' => by
          obtain ⟨p, hp, rfl⟩ := List.getElem_of_mem hr'
          exact hsh p hp (by have := HX1.out; omega)
        clear hsh
        by_cases hn2 : n2 ≤ 1048576
        · by_cases hsum : s + n2 ≤ 1048576
          · go_wp2
            go_loop [11, 13] (fun t i => ∃ (j : Nat) (s : Int), j ≤ n2 ∧ i = .int .i64 j ∧ 0 ≤ s ∧ s ≤ 1048576 ∧ t = .int .i64 s ∧ Short spares j) (fun _ i => n2 - (intOf i).toNat)
            case atStart => exact ⟨0, s + n2, Nat.zero_le _, rfl, by omega, by omega, rfl, fun p _ hp => absurd hp (Nat.not_lt_zero _)⟩
            case round =>
              obtain ⟨j2, s2, hj2, rfl, hs20, hs21, rfl, hsh2⟩ := hrel
              by_cases hlt2 : j2 < n2
              · have hlt' : j2 < spares.length := by rw [HX2.out]; exact hlt2
                obtain ⟨b, off, ea, hbw, hc⟩ := hs.at hlt'
                subst ea
                have hcell := hc j2 hlt'
                have HSH : Hid (spares[j2].zs.length ≤ 1048576 → Short spares (j2 + 1)) := fun h p hp hpj => by
                  by_cases e : p = j2
                  · subst e; exact h
                  · exact hsh2 p hp (by omega)
                clear hc
                generalize spares[j2] = r at hcell HSH
                go_wp2
                · go_ret; exact ⟨⟨false, rfl, (fun h => nomatch h)⟩, rfl⟩
                · go_ret; exact ⟨⟨false, rfl, (fun h => nomatch h)⟩, rfl⟩
                · go_round
                  case rel => exact ⟨j2 + 1, _, by omega, by go_num, by omega, by omega, rfl, HSH.out (by omega)⟩
                  case measure => simp [intOf]; omega
              · have HR2 : Hid (∀ r ∈ spares, r.zs.length ≤ 1048576) := fun r hr' => by
                  obtain ⟨p, hp, rfl⟩ := List.getElem_of_mem hr'
                  exact hsh2 p hp (by have := HX2.out; omega)
                clear hsh2
                go_wp2
                go_ret
                exact ⟨⟨true, rfl, fun _ => ⟨HR1.out, HR2.out⟩⟩, rfl⟩
          · go_wp2
            go_ret
            exact ⟨⟨false, rfl, (fun h => nomatch h)⟩, rfl⟩
        · go_wp2
          go_ret
          exact ⟨⟨false, rfl, (fun h => nomatch h)⟩, rfl⟩
  · go_enter Try.func38, Try.ntmps38
    go_wp2
    go_ret
    exact ⟨⟨false, rfl, (fun h => nomatch h)⟩, rfl⟩
set_option maxHeartbeats 800000 in
theorem runTags_at {w : World} {base hb : Nat} {la : Option Addr} {lc : Nat} {ls : List Lv} {mg : Int} (h : Hist w base hb la lc ls mg) (kk : Int) (k : Nat) (ek : kk = (k : Int)) (l : Lv) (hl : ls[k]? = some l) (hn : l.runs.length ≤ 10000000) :
    Calls Try.prog 42 #[.pointer (some ⟨hb, 0, none⟩), .int .i64 kk] w fun e w' => e = .returned (.slice (some ⟨w.heap.size, 0, none⟩) l.runs.length l.runs.length) ∧ Rd w' (some ⟨w.heap.size, 0, none⟩) ((l.runs.map RunV.n).map (Value.int .i64)) ∧ Below w.heap.size w w' := by
  subst ek
  have hlt : k < ls.length := (List.getElem?_eq_some_iff.1 hl).1
  obtain ⟨lb, rfl, _⟩ := h.form (by omega)
  obtain ⟨ow, ho⟩ := h.rows
  have hrow := (ho k l hl).1
  have c1 := h.c1
  have c6 : w.cell? ⟨lb, k * 7, none⟩ = some (.slice l.ra l.runs.length l.rc) := (by have := h.cell hl 0 (by omega); simpa [Lv.cells] using this)
  have l1 := h.lt
  have l2 := h.lev_lt
  have HC : Hid (∀ q (hq : q < l.runs.length), ∃ sb, l.ra = some ⟨sb, 0, none⟩ ∧ sb < w.heap.size ∧ w.cell? ⟨sb, q * 3, none⟩ = some (.int .i64 l.runs[q].n)) := by
    intro q hq
    rcases hrow.form with ⟨_, _, h3⟩ | ⟨sb, h3, _, h4, _⟩
    · rw [h3] at hq; simp at hq
    · refine ⟨sb, h3, h4, ?_⟩
      unfold runRow at hrow
      rw [h3] at hrow
      have := hrow.cellAt (q * 3) (by omega)
      rw [this]
      have := fm_get RunV.cells 3 RunV.len l.runs q 0 l.runs[q] (List.getElem?_eq_getElem hq) (by omega)
      rw [Nat.add_zero] at this
      rw [this]; rfl
  have hm := make42 l.runs.length hn
  have H0 : Hid ((w.alloc (Obj.cells (madeCells #[.int .i64 0] l.runs.length) 3)).heap[w.heap.size]? = some (.cells (part ((l.runs.map RunV.n).map (Value.int .i64)) (.int .i64 0) 0) 3 (0, 0))) := by rw [part_zero, List.length_map, List.length_map]; exact heap_alloc_new w _
  clear hl ho hrow
  generalize hL : l.runs.length = L at hn c6 hm H0 ⊢
  have HL : Hid (l.runs.length = L) := hL
  clear hL
  go_enter Try.func42, Try.ntmps42
  go_wp2
  go_loopw [6] (fun i wr => ∃ q : Nat, q ≤ L ∧ i = .int .i64 q ∧ wr.heap[w.heap.size]? = some (.cells (part ((l.runs.map RunV.n).map (Value.int .i64)) (.int .i64 0) q) 3 (0, 0)) ∧ Below w.heap.size w wr) (fun i _ => L - (intOf i).toNat)
  case atStart => exact ⟨0, Nat.zero_le _, rfl, H0.out, (Below.refl _ _).alloc (Nat.le_refl _) _⟩
  case round =>
    obtain ⟨q, hq, rfl, hrow, hbl⟩ := hrel
    by_cases hlt2 : q < L
    · have hlt' : q < l.runs.length := by rw [HL.out]; exact hlt2
      obtain ⟨sb, es, hsb, hcell⟩ := HC.out q hlt'
      have d1 : wr.cell? ⟨hb, 1, none⟩ = some (.slice (some ⟨lb, 0, none⟩) ls.length lc) := (hbl.cell (p := ⟨hb, 1, none⟩) l1).trans c1
      have d2 : wr.cell? ⟨lb, k * 7, none⟩ = some (.slice (some ⟨sb, 0, none⟩) L l.rc) := (hbl.cell (p := ⟨lb, k * 7, none⟩) l2).trans (by rw [c6, es])
      have d3 : wr.cell? ⟨sb, q * 3, none⟩ = some (.int .i64 l.runs[q].n) := (hbl.cell (p := ⟨sb, q * 3, none⟩) hsb).trans hcell
      have hcN := part_cell hrow (k := q) (by simpa using hlt')
      have hz := frozen_of_row wr _ q _ _ hrow
      have HR := part_store' hrow (.int .i64 l.runs[q].n) (by simp [hlt'])
      have HB : Below w.heap.size w (wr.setCell ⟨w.heap.size, q, none⟩ (.int .i64 l.runs[q].n)) := hbl.setCell (Nat.le_refl _) _
      generalize l.runs[q].n = z at d3 HR HB
      clear hcell es c6 c1 hrow H0
      go_wp2
      go_roundw
      case rel => exact ⟨q + 1, by omega, by go_num, HR, HB⟩
      case measure => simp [intOf]; omega
    · have e : q = L := by omega
      have HR : Hid (wr.heap[w.heap.size]? = some (.cells ((l.runs.map RunV.n).map (Value.int .i64)).toArray 3 (0, 0))) := by
        have := hrow
        rw [e, show L = ((l.runs.map RunV.n).map (Value.int .i64)).length from by rw [List.length_map, List.length_map, HL.out], part_full] at this
        exact this
      clear hrow H0 e
      go_wp2
      go_ret
      exact ⟨rfl, by simpa using Rd.of_block HR.out, hbl⟩

/-! ### push, by shapes -/
structure ShapeM (ls : List Lv) (N : Nat) (R S : Nat → List RunV) (M : Nat → RunV) : Prop where
  len : ls.length = N
  lv : ∀ q l, ls[q]? = some l → l.runs = R q ∧ l.spare = S q ∧ l.m = M q
def pushR (runs : List RowI) (k : Nat) (tag : Int) (q : Nat) : List RunV := if q = k then tags (rowAt runs k) ++ [tagRun tag] else tags (rowAt runs q)
def pushS (spares : List RowI) (k q : Nat) : List RunV := if q = k + 1 then (tags (rowAt spares (k + 1))).dropLast else tags (rowAt spares q)
theorem push_shape {runs spares : List RowI} {N k : Nat} {ls ls' : List Lv} {mg mg' tag : Int} (hN : max runs.length spares.length = N) (hk : k < N)
    (h : ShapeL ls N (fun q => tags (rowAt runs q)) (fun q => tags (rowAt spares q))) {l : Lv} (hl : ls[k]? = some l) (hp : PushRel ls mg k l (tagRun tag) ls' mg') :
    ((rowAt runs k).zs.length ≠ 1 → mg' = mg ∧ ShapeM ls' N (pushR runs k tag) (fun q => tags (rowAt spares q)) (fun _ => run0)) ∧
    ((rowAt runs k).zs.length = 1 → mg' = orBit mg k ∧ ∃ rr, ShapeM ls' (if k + 1 = N then N + 1 else N) (pushR runs k tag) (pushS spares k) (fun q => if q = k then rr else run0) ∧
      ((rowAt spares (k + 1)).zs.length = 0 → freshRun rr (pieces (k + 1))) ∧ (0 < (rowAt spares (k + 1)).zs.length → rr = tagRun ((rowAt spares (k + 1)).zs.getD ((rowAt spares (k + 1)).zs.length - 1) 0))) := by
  have hrl : l.runs.length = (rowAt runs k).zs.length := by rw [(h.lv k l hl).1, tags_len]
  obtain ⟨ra, rc, hp⟩ := hp
  have h1 := h.push hl ra rc (tagRun tag)
  have hR : ∀ q, (if q = k then tags (rowAt runs k) ++ [tagRun tag] else tags (rowAt runs q)) = pushR runs k tag q := fun q => rfl
  have h1' : ShapeL (ls.set k { l with ra := ra, rc := rc, runs := l.runs ++ [tagRun tag] }) N (pushR runs k tag) (fun q => tags (rowAt spares q)) := h1
  refine ⟨fun hne => ?_, fun he => ?_⟩
  · rcases hp with ⟨_, rfl, rfl⟩ | ⟨e, _⟩
    · exact ⟨rfl, h1'.len, h1'.lv⟩
    · omega
  · rcases hp with ⟨e, _⟩ | ⟨_, rr, rfl, rfl, hR⟩
    · omega
    · have e1 : k + 1 = N → pushR runs k tag (k + 1) = [] := by
        intro e
        rw [pushR, if_neg (by omega), rowAt_ge (by omega)]; rfl
      have e2 : k + 1 = N → tags (rowAt spares (k + 1)) = [] := by
        intro e
        rw [rowAt_ge (by omega)]; rfl
      have h2 := shape_take h1' (k := k + 1) (by omega) e1 e2
      obtain ⟨f1, f2⟩ := shape_takeR h1' (k := k + 1) (by omega) e2 hR
      refine ⟨rfl, rr, ⟨by rw [List.length_set]; exact h2.len, fun q x hq => ?_⟩, fun h0 => f1 ?_, fun h0 => f2 _ ?_⟩
      · by_cases e : k = q
        · subst e
          have hlt : k < (takeL (ls.set k { l with ra := ra, rc := rc, runs := l.runs ++ [tagRun tag] }) (k + 1)).length := by rw [h2.len]; split <;> omega
          rw [List.getElem?_set_self hlt] at hq
          cases hq
          obtain ⟨a, b, c⟩ := h.lv k l hl
          refine ⟨?_, ?_, by simp⟩
          · rw [pushR, if_pos rfl]; show l.runs ++ _ = _; rw [a]
          · rw [pushS, if_neg (by omega)]; exact b
        · rw [List.getElem?_set_ne e] at hq
          obtain ⟨a, b, c⟩ := h2.lv q x hq
          exact ⟨a, b, by rw [if_neg (by omega)]; exact c⟩
      · have : (rowAt spares (k + 1)).zs = [] := List.length_eq_zero_iff.1 h0
        simp [tags, this]
      · rw [List.getLast?_eq_getElem?, tags_len, List.getElem?_eq_getElem (by rw [tags_len]; omega)]
        simp [tags, List.getD, List.getElem?_eq_getElem (show (rowAt spares (k + 1)).zs.length - 1 < (rowAt spares (k + 1)).zs.length by omega)]
theorem pushR_n (runs : List RowI) (k : Nat) (tag : Int) (q : Nat) : (pushR runs k tag q).map RunV.n = if q = k then (rowAt runs k).zs ++ [tag] else (rowAt runs q).zs := by
  unfold pushR
  by_cases e : q = k
  · rw [if_pos e, if_pos e, List.map_append, tags_n]; rfl
  · rw [if_neg e, if_neg e, tags_n]
theorem pushS_n (spares : List RowI) (k q : Nat) : (pushS spares k q).map RunV.n = if q = k + 1 then (rowAt spares (k + 1)).zs.take ((rowAt spares (k + 1)).zs.length - 1) else (rowAt spares q).zs := by
  unfold pushS
  by_cases e : q = k + 1
  · rw [if_pos e, if_pos e, List.map_dropLast, tags_n, List.dropLast_eq_take]
  · rw [if_neg e, if_neg e, tags_n]
end Go.Proofs.Qxb6601843a
