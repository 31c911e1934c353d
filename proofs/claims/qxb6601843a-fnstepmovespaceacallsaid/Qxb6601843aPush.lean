import Derived.Test.Qxb6601843aTake
import Derived.Test.Qxb6601843aApp
namespace Go.Proofs.Qxb6601843a
open Go.RowKit
attribute [local go_sem ↓] wp_app
theorem Try.info53 : (Try.prog.info? 53).map (fun i => (i.zero, i.size, i.bytes)) = some (some (.agg #[.int .i64 0, .slice none 0 0, .slice none 0 0]), 3, 56) := by kernel_rfl
def takeL (ls : List Lv) (k : Nat) : List Lv := match ls[k]? with
  | none => ls ++ [lv0]
  | some l => ls.set k { l with spare := l.spare.dropLast }
def takeR (ls : List Lv) (k : Nat) (r : RunV) : Prop := match ls[k]? with
  | none => freshRun r (pieces k)
  | some l => match l.spare.getLast? with
    | none => freshRun r (pieces k)
    | some s => r = s
theorem set_same {α : Type} (ls : List α) (k : Nat) (x : α) (h : ls[k]? = some x) : ls.set k x = ls := by
  apply List.ext_getElem?
  intro i
  by_cases e : k = i
  · subst e; rw [List.getElem?_set_self (List.getElem?_eq_some_iff.1 h).1, h]
  · rw [List.getElem?_set_ne e]
theorem take_any (w : World) (base hb : Nat) (la : Option Addr) (lc : Nat) (ls : List Lv) (mg : Int) (h : Hist w base hb la lc ls mg) (k : Nat) (hk : k ≤ ls.length) (hk2 : k ≤ 20) :
    Calls Try.prog 47 #[.pointer (some ⟨hb, 0, none⟩), .int .i64 k] w fun e w' => ∃ (r : RunV) (la' : Option Addr) (lc' : Nat), e = .returned (.agg #[.int .i64 r.n, .slice r.ta r.tl r.tc, .slice r.sa r.sl r.sc]) ∧
      Hist w' base hb la' lc' (takeL ls k) mg ∧ Fr w w' hb la ls la' (takeL ls k) ∧ takeR ls k r := by
  by_cases e : k = ls.length
  · subst e
    refine (take_new w base hb la lc ls mg h hk2).mono ?_
    rintro e w' ⟨r, la', lc', rfl, h1, h2, h3⟩
    exact ⟨r, la', lc', rfl, by simpa [takeL] using h1, by simpa [takeL] using h2, by simpa [takeR] using h3⟩
  · have hlt : k < ls.length := by omega
    obtain ⟨lb, rfl, _⟩ := h.form (by omega)
    have hl : ls[k]? = some ls[k] := List.getElem?_eq_getElem hlt
    generalize ls[k] = l at hl
    rcases List.eq_nil_or_concat l.spare with hs | ⟨rs, r, hs⟩
    · refine (take_fresh w base hb lb lc ls mg h k hk2 l hl hs).mono ?_
      rintro e w' ⟨r, rfl, h1, h2, h3⟩
      have e1 : takeL ls k = ls := by
        simp only [takeL, hl, hs]
        exact set_same ls k _ (by rw [hl]; cases l; simp only [] at hs; subst hs; rfl)
      rw [e1]
      exact ⟨r, _, _, rfl, h1, h2, by simp [takeR, hl, hs, h3]⟩
    · rw [List.concat_eq_append] at hs
      refine (take_spare w base hb lb lc ls mg h k l hl rs r hs).mono ?_
      rintro e w' ⟨rfl, h1, h2⟩
      exact ⟨r, _, _, rfl, by simpa [takeL, hl, hs] using h1, by simpa [takeL, hl, hs] using h2, by simp [takeR, hl, hs]⟩

theorem take_any' (w : World) (base hb : Nat) (la : Option Addr) (lc : Nat) (ls : List Lv) (mg : Int) (h : Hist w base hb la lc ls mg) (kk : Int) (k : Nat) (ek : kk = (k : Int)) (hk : k ≤ ls.length) (hk2 : k ≤ 20) :
    Calls Try.prog 47 #[.pointer (some ⟨hb, 0, none⟩), .int .i64 kk] w fun e w' => ∃ (r : RunV) (la' : Option Addr) (lc' : Nat), e = .returned (.agg #[.int .i64 r.n, .slice r.ta r.tl r.tc, .slice r.sa r.sl r.sc]) ∧
      Hist w' base hb la' lc' (takeL ls k) mg ∧ Fr w w' hb la ls la' (takeL ls k) ∧ takeR ls k r := by
  subst ek; exact take_any w base hb la lc ls mg h k hk hk2

def runObj (r : RunV) : Obj := .cells #[.int .i64 r.n, .slice r.ta r.tl r.tc, .slice r.sa r.sl r.sc] 53

theorem push_facts (w : World) (base hb lb : Nat) (lc : Nat) (ls : List Lv) (mg : Int) (h : Hist w base hb (some ⟨lb, 0, none⟩) lc ls mg) (k : Nat) (l : Lv) (hl : ls[k]? = some l) (hn : l.runs.length ≤ 1000000) (r : RunV) (A : Obj) :
    ∃ gg cap w1, appRun Try.prog 73 73 (.slice l.ra l.runs.length l.rc) (.slice (some ⟨w.heap.size + 1, 0, none⟩) 1 1) ((w.alloc A).alloc (.cells #[.int .i64 r.n, .slice r.ta r.tl r.tc, .slice r.sa r.sl r.sc] 53)).drew = .ok (.slice (some ⟨gg, 0, none⟩) (l.runs.length + 1) cap) w1 ∧
      w1.cell? ⟨hb, 1, none⟩ = some (.slice (some ⟨lb, 0, none⟩) ls.length lc) ∧ w1.cell? ⟨lb, k * 7, none⟩ = some (.slice l.ra l.runs.length l.rc) ∧ w1.frozen? ⟨lb, k * 7, none⟩ = false ∧
      Hist (w1.setCell ⟨lb, k * 7, none⟩ (.slice (some ⟨gg, 0, none⟩) (l.runs.length + 1) cap)) base hb (some ⟨lb, 0, none⟩) lc (ls.set k { l with ra := some ⟨gg, 0, none⟩, rc := cap, runs := l.runs ++ [r] }) mg ∧
      Fr w (w1.setCell ⟨lb, k * 7, none⟩ (.slice (some ⟨gg, 0, none⟩) (l.runs.length + 1) cap)) hb (some ⟨lb, 0, none⟩) ls (some ⟨lb, 0, none⟩) (ls.set k { l with ra := some ⟨gg, 0, none⟩, rc := cap, runs := l.runs ++ [r] }) := by
  obtain ⟨i0, hi, hz0, hz1, hz2⟩ := info_parts Try.info53
  have hb1 := h.lt
  have hle := h.hle
  have hlb := h.lev_lt
  have bl : Below w.heap.size w ((w.alloc A).alloc (.cells #[.int .i64 r.n, .slice r.ta r.tl r.tc, .slice r.sa r.sl r.sc] 53)).drew := (World.below2 w _ _).drew
  have H2 := h.below bl
  obtain ⟨ow, ho⟩ := H2.rows
  have hrow := (ho k l hl).1
  unfold runRow at hrow
  have nhb : some hb ≠ (Value.slice l.ra l.runs.length l.rc).ownBlock := by
    cases hla : l.ra with
    | none => simp [Value.ownBlock]
    | some x => intro e; exact (h.row_ne_hb hl).1 x hla (by simpa [Value.ownBlock] using e.symm)
  have nlb : some lb ≠ (Value.slice l.ra l.runs.length l.rc).ownBlock := by
    cases hla : l.ra with
    | none => simp [Value.ownBlock]
    | some x => intro e; exact (h.row_ne_lev hl ⟨lb, 0, none⟩ rfl).1 x hla (by simpa [Value.ownBlock] using e.symm)
  obtain ⟨gg, cap, w1, hrun, hown1, hgrow, hat, hlt1⟩ := run_append_lies (P := Try.prog) ((w.alloc A).alloc (.cells #[.int .i64 r.n, .slice r.ta r.tl r.tc, .slice r.sa r.sl r.sc] 53)).drew 73 73 base 53 i0 _ 3 56 Try.underlying73 hi hz0 hz1 hz2 rfl (by omega) (.slice l.ra l.runs.length l.rc) l.runs.length (l.runs.flatMap RunV.cells) hrow
        ⟨w.heap.size + 1, 0, none⟩ 1 1 r.cells (by rfl) (World.news_of_block (cs := r.cells.toArray) (t := 53) (fr := (0, 0)) (heap_alloc2_new w _ _)) r.one
        (by omega) (by unfold maxLen; omega) (by omega) (by simp; omega) (w.heap.size + 2) (by simp)
  have szd : ((w.alloc A).alloc (.cells #[.int .i64 r.n, .slice r.ta r.tl r.tc, .slice r.sa r.sl r.sc] 53)).drew.heap.size = w.heap.size + 2 := by simp
  have ob : ∀ N, Off hb (some ⟨lb, 0, none⟩) ls N → some N ≠ (Value.slice l.ra l.runs.length l.rc).ownBlock := by
    intro N hN
    cases hla : l.ra with
    | none => simp [Value.ownBlock]
    | some x => intro e; exact (hN.2.2 k l hl).1 x hla (by simpa [Value.ownBlock] using e.symm)
  refine ⟨gg, cap, w1, hrun, ?_, ?_, ?_, H2.setRuns hl hgrow hown1 (hat.imp id (fun e => by rw [szd]; omega)), ?_⟩
  · rw [hgrow.cell_far _ H2.lt nhb]; exact H2.c1
  · rw [hgrow.cell_far _ H2.lev_lt nlb]; have := H2.cell hl 0 (by omega); simpa [Lv.cells] using this
  · rw [hgrow.frozen_far _ H2.lev_lt nlb]; exact H2.lfree _
  · have b1 : Fr w w1 hb (some ⟨lb, 0, none⟩) ls (some ⟨lb, 0, none⟩) ls := (Fr.of_below bl).trans (Fr.of_grown hgrow ob)
    have b2 := b1.trans (Fr.of_grown (grownBy_set w1 lb (k * 7) (.slice (some ⟨gg, 0, none⟩) (l.runs.length + 1) cap)) (fun N hN e => hN.2.1 _ rfl (by simpa using e.symm)))
    refine b2.turn (fun N hN ho' => ⟨ho'.1, ho'.2.1, ho'.2.2.set (fun x hx => ?_) (ho'.2.2 k l hl).2⟩)
    cases hx
    show gg ≠ N
    rcases hat with hat | hat
    · intro e; rw [e] at hat; exact ob N ho' hat.symm
    · omega

set_option maxHeartbeats 800000 in
theorem push_one (w : World) (base hb lb : Nat) (lc : Nat) (ls : List Lv) (mg : Int) (h : Hist w base hb (some ⟨lb, 0, none⟩) lc ls mg) (k : Nat) (l : Lv) (hl : ls[k]? = some l) (hn : l.runs.length ≤ 1000000) (hn1 : l.runs.length ≠ 1) (r : RunV) :
    Calls Try.prog 48 #[.pointer (some ⟨hb, 0, none⟩), .int .i64 k, .agg #[.int .i64 r.n, .slice r.ta r.tl r.tc, .slice r.sa r.sl r.sc]] w fun e w' => e = .returned (.tuple #[]) ∧ ∃ ra rc,
      Hist w' base hb (some ⟨lb, 0, none⟩) lc (ls.set k { l with ra := ra, rc := rc, runs := l.runs ++ [r] }) mg ∧ Fr w w' hb (some ⟨lb, 0, none⟩) ls (some ⟨lb, 0, none⟩) (ls.set k { l with ra := ra, rc := rc, runs := l.runs ++ [r] }) := by
  obtain ⟨gg, cap, w1, hap, d1, d2, d3, H3, F3⟩ := push_facts w base hb lb lc ls mg h k l hl hn r (.cells #[.int .i64 r.n, .slice r.ta r.tl r.tc, .slice r.sa r.sl r.sc] 53)
  have c1 := h.c1
  have hlt : k < ls.length := (List.getElem?_eq_some_iff.1 hl).1
  have c0 : w.cell? ⟨lb, k * 7, none⟩ = some (.slice l.ra l.runs.length l.rc) := by have := h.cell hl 0 (by omega); simpa [Lv.cells] using this
  have hb1 := h.lt
  have hlb := h.lev_lt
  have hne := h.ne_lev
  have hd : ((l.runs.length : Int) + 1 == 2) = false := by simp; omega
  clear hl
  go_enter Try.func48, Try.ntmps48
  go_wp2_with fail
  go_region
  go_wp2
  go_end0
  exact ⟨rfl, _, _, H3, F3⟩

theorem takeL_get (ls : List Lv) (k j : Nat) (hj : j < ls.length) (hne : j ≠ k) : (takeL ls k)[j]? = ls[j]? := by
  unfold takeL
  split
  · rw [List.getElem?_append_left hj]
  · rw [List.getElem?_set_ne (by omega)]
theorem takeL_len (ls : List Lv) (k : Nat) (hk : k ≤ ls.length) : (takeL ls k).length = if k = ls.length then ls.length + 1 else ls.length := by
  unfold takeL
  split
  · rename_i h
    have : k = ls.length := by have := List.getElem?_eq_none_iff.1 h; omega
    simp [this]
  · rename_i h
    have := (List.getElem?_eq_some_iff.1 h).1
    rw [List.length_set, if_neg (by omega)]
/-- what the walk of push wants behind the take -/
theorem push_facts2 (w : World) (base hb : Nat) (la : Option Addr) (lc : Nat) (ls : List Lv) (mg : Int) (h : Hist w base hb la lc ls mg) (k : Nat) (l : Lv) (hl : ls[k]? = some l) (r : RunV) (mg' : Int) :
    ∃ lb, la = some ⟨lb, 0, none⟩ ∧ hb < w.heap.size ∧ lb < w.heap.size ∧ hb ≠ lb ∧ k < ls.length ∧ w.cell? ⟨hb, 1, none⟩ = some (.slice (some ⟨lb, 0, none⟩) ls.length lc) ∧ w.cell? ⟨hb, 2, none⟩ = some (.int .u64 mg) ∧ w.frozen? ⟨hb, 2, none⟩ = false ∧
      w.cell? ⟨lb, k * 7 + 1, none⟩ = some (.int .i64 l.m.n) ∧ w.cell? ⟨lb, k * 7 + 2, none⟩ = some (.slice l.m.ta l.m.tl l.m.tc) ∧ w.cell? ⟨lb, k * 7 + 3, none⟩ = some (.slice l.m.sa l.m.sl l.m.sc) ∧
      (∀ j, w.frozen? ⟨lb, j, none⟩ = false) ∧
      Hist ((((w.setCell ⟨lb, k * 7 + 1, none⟩ (.int .i64 r.n)).setCell ⟨lb, k * 7 + 2, none⟩ (.slice r.ta r.tl r.tc)).setCell ⟨lb, k * 7 + 3, none⟩ (.slice r.sa r.sl r.sc)).setCell ⟨hb, 2, none⟩ (.int .u64 mg')) base hb la lc (ls.set k { l with m := r }) mg' ∧
      Fr w ((((w.setCell ⟨lb, k * 7 + 1, none⟩ (.int .i64 r.n)).setCell ⟨lb, k * 7 + 2, none⟩ (.slice r.ta r.tl r.tc)).setCell ⟨lb, k * 7 + 3, none⟩ (.slice r.sa r.sl r.sc)).setCell ⟨hb, 2, none⟩ (.int .u64 mg')) hb la ls la (ls.set k { l with m := r }) := by
  have hlt : k < ls.length := (List.getElem?_eq_some_iff.1 hl).1
  obtain ⟨lb, rfl, _⟩ := h.form (by omega)
  obtain ⟨s1, s2⟩ := h.setMerged hl r
  obtain ⟨t1, t2⟩ := s1.setMg mg'
  refine ⟨lb, rfl, h.lt, h.lev_lt, h.ne_lev, hlt, h.c1, h.c2, h.free 2, h.cell hl 1 (by omega), h.cell hl 2 (by omega), h.cell hl 3 (by omega), h.lfree, t1, ?_⟩
  refine (Fr.of_grown s2 (fun N hN e => hN.2.1 _ rfl (by simpa using e.symm))).trans ((Fr.of_grown t2 (fun N hN e => hN.1 (by simpa using e))).turn ?_)
  exact fun N hN ho => ⟨ho.1, ho.2.1, ho.2.2.set (ho.2.2 k l hl).1 (ho.2.2 k l hl).2⟩

def orBit (mg : Int) (k : Nat) : Int := bits BinOp.or IntKind.u64 mg (IntKind.u64.wrap (2 ^ k))

set_option maxHeartbeats 800000 in
theorem push_two (w : World) (base hb lb : Nat) (lc : Nat) (ls : List Lv) (mg : Int) (h : Hist w base hb (some ⟨lb, 0, none⟩) lc ls mg) (k : Nat) (hk : k ≤ 19) (l : Lv) (hl : ls[k]? = some l) (hn1 : l.runs.length = 1) (r : RunV) :
    Calls Try.prog 48 #[.pointer (some ⟨hb, 0, none⟩), .int .i64 k, .agg #[.int .i64 r.n, .slice r.ta r.tl r.tc, .slice r.sa r.sl r.sc]] w fun e w' => e = .returned (.tuple #[]) ∧ ∃ ra rc rr la' lc',
      Hist w' base hb la' lc' ((takeL (ls.set k { l with ra := ra, rc := rc, runs := l.runs ++ [r] }) (k + 1)).set k { l with ra := ra, rc := rc, runs := l.runs ++ [r], m := rr }) (orBit mg k) ∧
      Fr w w' hb (some ⟨lb, 0, none⟩) ls la' ((takeL (ls.set k { l with ra := ra, rc := rc, runs := l.runs ++ [r] }) (k + 1)).set k { l with ra := ra, rc := rc, runs := l.runs ++ [r], m := rr }) ∧
      takeR (ls.set k { l with ra := ra, rc := rc, runs := l.runs ++ [r] }) (k + 1) rr := by
  obtain ⟨gg, cap, w1, hap, d1, d2, d3, H3, F3⟩ := push_facts w base hb lb lc ls mg h k l hl (by omega) r (.cells #[.int .i64 r.n, .slice r.ta r.tl r.tc, .slice r.sa r.sl r.sc] 53)
  have c1 := h.c1
  have hlt : k < ls.length := (List.getElem?_eq_some_iff.1 hl).1
  have c0 : w.cell? ⟨lb, k * 7, none⟩ = some (.slice l.ra l.runs.length l.rc) := by have := h.cell hl 0 (by omega); simpa [Lv.cells] using this
  have hb1 := h.lt
  have hlb := h.lev_lt
  have hne := h.ne_lev
  have hd : ((l.runs.length : Int) + 1 == 2) = true := by simp; omega
  have HN : Hid (l.runs.length = 1) := hn1
  have hk1 : (ls.set k { l with ra := some ⟨gg, 0, none⟩, rc := cap, runs := l.runs ++ [r] })[k]? = some { l with ra := some ⟨gg, 0, none⟩, rc := cap, runs := l.runs ++ [r] } := List.getElem?_set_self hlt
  have hlen : (ls.set k { l with ra := some ⟨gg, 0, none⟩, rc := cap, runs := l.runs ++ [r] }).length = ls.length := List.length_set
  generalize hls1 : ls.set k { l with ra := some ⟨gg, 0, none⟩, rc := cap, runs := l.runs ++ [r] } = ls1 at H3 F3 hk1 hlen
  have HS : Hid (ls.set k { l with ra := some ⟨gg, 0, none⟩, rc := cap, runs := l.runs ++ [r] } = ls1) := hls1
  have HK1 : Hid (ls1[k]? = some { l with ra := some ⟨gg, 0, none⟩, rc := cap, runs := l.runs ++ [r] }) := hk1
  have HL : Hid (ls1.length = ls.length) := hlen
  clear hl hn1 hk1 hlen hls1
  go_enter Try.func48, Try.ntmps48
  go_wp2_with fail
  go_region
  go_wp2_with (go_at_call 47; refine (take_any' _ base hb _ lc ls1 mg H3 _ (k + 1) (by omega) (by have := HL.out; omega) (by omega)).mono ?_; rintro e w2 ⟨rr, la', lc', rfl, H4, F4, R4⟩; obtain ⟨lb', rfl, q1, q2, q3, q4, q5, q6, q7, q8, q9, q10, q11, q12, q13⟩ := push_facts2 w2 base hb la' lc' _ mg H4 k _ ((takeL_get ls1 (k + 1) k (by have := HL.out; omega) (by omega)).trans HK1.out) rr (orBit mg k))
  go_region
  go_wp2
  go_region
  go_wp2
  go_end0
  refine ⟨rfl, some ⟨gg, 0, none⟩, cap, rr, some ⟨lb', 0, none⟩, lc', ?_, ?_, ?_⟩
  · rw [HS.out]; exact q12.below (((Below.refl _ _).alloc (Nat.le_refl _) _).drew.drew)
  · rw [HS.out]; exact (F3.trans F4).trans (q13.trans (Fr.of_below (((Below.refl _ _).alloc (Nat.le_refl _) _).drew.drew)))
  · rw [HS.out]; exact R4
end Go.Proofs.Qxb6601843a
