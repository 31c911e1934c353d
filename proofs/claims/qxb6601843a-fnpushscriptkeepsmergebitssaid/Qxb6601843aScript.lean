import Derived.Test.Qxb6601843aReads
import Derived.Test.Qxb6601843aClone
namespace Go.Proofs.Qxb6601843a
open Go.RowKit
theorem hist_empty (w : World) (mg : Int) : Hist (w.alloc (.cells #[.slice none 0 0, .slice none 0 0, .int .u64 mg] 80)) w.heap.size w.heap.size none 0 [] mg :=
  ⟨Nat.le_refl _, heap_alloc_new w _, World.ownsRow_nil _ _ _ _, fun _ => 0, fun k l h => by simp at h⟩
set_option maxHeartbeats 400000 in
theorem newHist_nil (w : World) : Calls Try.prog 26 #[.slice none 0 0, .slice none 0 0, .int .u64 0] w fun e w' => e = .returned (.pointer (some ⟨w.heap.size, 0, none⟩)) ∧ Hist w' w.heap.size w.heap.size none 0 [] 0 ∧ Below w.heap.size w w' := by
  go_enter Try.func26, Try.ntmps26
  go_wp2
  refine wp_loop_rounds 1 ?_
  rw [rounds_succ]
  go_wp2
  refine wp_loop_rounds 1 ?_
  rw [rounds_succ]
  go_wp2
  go_ret
  exact ⟨rfl, hist_empty w 0, (Below.refl _ _).alloc (Nat.le_refl _) _⟩

/-! ### the plain side of the script -/
def LvOk (q : Nat) (l : Lv) : Prop := l.spare = [] ∧ l.runs.length ≤ 2 ∧ l.m.n = 0 ∧ l.m.tl = 0 ∧ l.m.tc = if l.runs.length = 2 then pieces (q + 1) else 0
structure Script (ls : List Lv) (mg : Nat) : Prop where
  len : ls.length ≤ 21
  lv : ∀ q l, ls[q]? = some l → LvOk q l
  bit : ∀ q, mg.testBit q = true ↔ ∃ l, ls[q]? = some l ∧ l.runs.length = 2
theorem script0 : Script [] 0 := ⟨by simp, by simp, by simp⟩
theorem lv0_ok (q : Nat) : LvOk q lv0 := ⟨rfl, by simp [lv0], rfl, rfl, by simp [lv0, run0]⟩
theorem Script.take {ls : List Lv} {mg : Nat} (h : Script ls mg) {k : Nat} (hk : k ≤ ls.length) (hk2 : k ≤ 20) : Script (takeL ls k) mg ∧ (takeL ls k) = (if k = ls.length then ls ++ [lv0] else ls) := by
  by_cases e : k = ls.length
  · have e1 : takeL ls k = ls ++ [lv0] := by simp [takeL, e]
    rw [e1, if_pos e]
    refine ⟨⟨by simp; omega, fun q l hq => ?_, fun q => ?_⟩, rfl⟩
    · rcases Nat.lt_or_ge q ls.length with hlt | hge
      · rw [List.getElem?_append_left hlt] at hq; exact h.lv q l hq
      · rw [List.getElem?_append_right hge] at hq
        cases hd : q - ls.length with
        | zero => rw [hd] at hq; simp at hq; subst hq; exact lv0_ok q
        | succ n => rw [hd] at hq; simp at hq
    · rw [h.bit q]
      constructor
      · rintro ⟨l, hl, h2⟩
        exact ⟨l, by rw [List.getElem?_append_left (List.getElem?_eq_some_iff.1 hl).1]; exact hl, h2⟩
      · rintro ⟨l, hl, h2⟩
        rcases Nat.lt_or_ge q ls.length with hlt | hge
        · rw [List.getElem?_append_left hlt] at hl; exact ⟨l, hl, h2⟩
        · rw [List.getElem?_append_right hge] at hl
          cases hd : q - ls.length with
          | zero => rw [hd] at hl; simp at hl; subst hl; simp [lv0] at h2
          | succ n => rw [hd] at hl; simp at hl
  · have hlt : k < ls.length := by omega
    have hl : ls[k]? = some ls[k] := List.getElem?_eq_getElem hlt
    have e1 : takeL ls k = ls := by
      have := (h.lv k _ hl).1
      generalize ls[k] = l at hl this
      simp only [takeL, hl, this]
      exact set_same ls k _ (by rw [hl]; cases l; simp only [] at this; subst this; rfl)
    rw [e1, if_neg e]
    exact ⟨h, rfl⟩
theorem Script.takeR {ls : List Lv} {mg : Nat} (h : Script ls mg) {k : Nat} {r : RunV} (hr : takeR ls k r) : freshRun r (pieces k) := by
  unfold Go.Proofs.Qxb6601843a.takeR at hr
  split at hr
  · exact hr
  · rename_i l hl
    rw [(h.lv k l hl).1] at hr
    exact hr
theorem orBit_nat (mg k : Nat) (hm : mg < 18446744073709551616) (hk : k ≤ 19) : orBit (mg : Int) k = ((mg ||| 2 ^ k : Nat) : Int) := by
  have hp : 2 ^ k ≤ 2 ^ 19 := Nat.pow_le_pow_right (by omega) hk
  have e : IntKind.u64.wrap (2 ^ k) = ((2 ^ k : Nat) : Int) := by
    have e : (2 ^ k : Int) = ((2 ^ k : Nat) : Int) := by simp
    rw [e]
    generalize 2 ^ k = p at hp
    simp only [IntKind.wrap, IntKind.signed, IntKind.bits]
    simp
    omega
  unfold orBit
  rw [e]
  exact u64_or_nat mg (2 ^ k) hm (by omega)
theorem get_add (ls : List Lv) (q : Nat) : (ls ++ [lv0])[q]? = if q = ls.length then some lv0 else ls[q]? := by
  by_cases e : q = ls.length
  · simp [e]
  · rw [if_neg e]
    rcases Nat.lt_or_ge q ls.length with hlt | hge
    · rw [List.getElem?_append_left hlt]
    · rw [List.getElem?_append_right hge, List.getElem?_eq_none (by simp; omega), List.getElem?_eq_none hge]
theorem Script.push {ls : List Lv} {mg : Nat} (h : Script ls mg) (hm : mg < 18446744073709551616) {k : Nat} (hk : k ≤ 19) {l : Lv} (hl : ls[k]? = some l) (h2 : l.runs.length < 2) {r : RunV} {ls' : List Lv} {mg' : Int} (hp : PushRel ls mg k l r ls' mg') :
    ∃ m : Nat, mg' = (m : Int) ∧ Script ls' m ∧ ls.length ≤ ls'.length ∧ ls'.length ≤ ls.length + 1 := by
  obtain ⟨ra, rc, hp | ⟨h1, rr, rfl, rfl, hR⟩⟩ := hp
  · obtain ⟨h1, rfl, rfl⟩ := hp
    have hlt : k < ls.length := (List.getElem?_eq_some_iff.1 hl).1
    have ho := h.lv k l hl
    have h0 : l.runs.length = 0 := by omega
    refine ⟨mg, rfl, ⟨by simpa using h.len, fun q x hq => ?_, fun q => ?_⟩, by simp, by simp⟩
    · by_cases e : k = q
      · subst e
        rw [List.getElem?_set_self hlt] at hq
        cases hq
        refine ⟨ho.1, by simp; omega, ho.2.2.1, ho.2.2.2.1, ?_⟩
        rw [show ({ l with ra := ra, rc := rc, runs := l.runs ++ [r] } : Lv).m.tc = l.m.tc from rfl, ho.2.2.2.2, if_neg (by omega), if_neg (by simp; omega)]
      · rw [List.getElem?_set_ne e] at hq; exact h.lv q x hq
    · rw [h.bit q]
      by_cases e : k = q
      · subst e
        rw [List.getElem?_set_self hlt, hl]
        simp; omega
      · rw [List.getElem?_set_ne e]
  · have hlt : k < ls.length := (List.getElem?_eq_some_iff.1 hl).1
    have ho := h.lv k l hl
    have hlen := h.len
    generalize hl1 : ({ l with ra := ra, rc := rc, runs := l.runs ++ [r] } : Lv) = l1 at *
    have hl2 : ({ l with ra := ra, rc := rc, runs := l.runs ++ [r], m := rr } : Lv) = { l1 with m := rr } := by rw [← hl1]
    rw [hl2]
    have r1 : l1.runs.length = 2 := by rw [← hl1]; simp; omega
    have s1 : l1.spare = [] := by rw [← hl1]; exact ho.1
    have hk1 : ∀ x, (ls.set k l1)[k + 1]? = some x → x.spare = [] := by
      intro x hx
      rw [List.getElem?_set_ne (by omega)] at hx
      exact (h.lv (k + 1) x hx).1
    have hfr : freshRun rr (pieces (k + 1)) := by
      unfold Go.Proofs.Qxb6601843a.takeR at hR
      split at hR
      · exact hR
      · rename_i x hx
        rw [hk1 x hx] at hR
        exact hR
    have hT : takeL (ls.set k l1) (k + 1) = if k + 1 = ls.length then ls.set k l1 ++ [lv0] else ls.set k l1 := by
      by_cases e : k + 1 = ls.length
      · rw [if_pos e]; simp [takeL, e]
      · rw [if_neg e]
        have hlt1 : k + 1 < (ls.set k l1).length := by simp; omega
        have hx : (ls.set k l1)[k + 1]? = some (ls.set k l1)[k + 1] := List.getElem?_eq_getElem hlt1
        have hs := hk1 _ hx
        generalize (ls.set k l1)[k + 1] = x at hx hs
        simp only [takeL, hx, hs]
        exact set_same _ _ _ (by rw [hx]; cases x; simp only [] at hs; subst hs; rfl)
    have G : ∀ q, ((takeL (ls.set k l1) (k + 1)).set k { l1 with m := rr })[q]? = if k = q then some { l1 with m := rr } else if k + 1 = ls.length ∧ q = ls.length then some lv0 else ls[q]? := by
      intro q
      by_cases e : k = q
      · subst e
        rw [if_pos rfl, List.getElem?_set_self]
        rw [takeL_len _ _ (by simp; omega)]
        split <;> simp <;> omega
      · rw [if_neg e, List.getElem?_set_ne e, hT]
        by_cases e2 : k + 1 = ls.length
        · rw [if_pos e2, get_add, List.length_set]
          by_cases e3 : q = ls.length
          · rw [if_pos e3, if_pos ⟨e2, e3⟩]
          · rw [if_neg e3, if_neg (fun h => e3 h.2), List.getElem?_set_ne e]
        · rw [if_neg e2, if_neg (fun h => e2 h.1), List.getElem?_set_ne e]
    have L : ((takeL (ls.set k l1) (k + 1)).set k { l1 with m := rr }).length = if k + 1 = ls.length then ls.length + 1 else ls.length := by
      rw [List.length_set, takeL_len _ _ (by simp; omega), List.length_set]
    refine ⟨mg ||| 2 ^ k, orBit_nat mg k hm hk, ⟨?_, fun q x hq => ?_, fun q => ?_⟩, ?_, ?_⟩
    · rw [L]; split <;> omega
    · rw [G q] at hq
      by_cases e : k = q
      · subst e
        rw [if_pos rfl] at hq
        cases hq
        obtain ⟨f1, f2, f3, f4, f5⟩ := hfr
        refine ⟨s1, by show l1.runs.length ≤ 2; omega, f1, f2, ?_⟩
        show rr.tc = if l1.runs.length = 2 then pieces (k + 1) else 0
        rw [if_pos r1]; exact f3
      · rw [if_neg e] at hq
        split at hq
        · cases hq; exact lv0_ok q
        · exact h.lv q x hq
    · rw [Nat.testBit_or, Nat.testBit_two_pow, G q]
      by_cases e : k = q
      · subst e
        simp [r1]
      · rw [if_neg e]
        have : (mg.testBit q || decide (k = q)) = mg.testBit q := by simp [e]
        rw [this, h.bit q]
        split
        · rename_i h3
          have : ls[q]? = none := List.getElem?_eq_none (by omega)
          rw [this]
          simp [lv0]
        · rfl
    · rw [L]; split <;> omega
    · rw [L]; split <;> omega
theorem Script.small {ls : List Lv} {mg : Nat} (h : Script ls mg) : mg < 2 ^ ls.length := by
  apply Nat.lt_pow_two_of_testBit
  intro i hi
  rcases hb : mg.testBit i with _ | _
  · rfl
  · obtain ⟨l, hl, _⟩ := (h.bit i).1 hb
    have := (List.getElem?_eq_some_iff.1 hl).1
    omega
theorem Script.u64 {ls : List Lv} {mg : Nat} (h : Script ls mg) : mg < 18446744073709551616 := by
  have h1 := h.small
  have h2 : 2 ^ ls.length ≤ 2 ^ 21 := Nat.pow_le_pow_right (by omega) h.len
  omega
theorem Script.step {ls : List Lv} {mg : Nat} (h : Script ls mg) {k : Nat} (hk : k ≤ 19) (hkl : k ≤ ls.length) (h2 : ∀ l, ls[k]? = some l → l.runs.length < 2) :
    ∃ l, (takeL ls k)[k]? = some l ∧ l.runs.length < 2 ∧ ∀ r ls' mg', PushRel (takeL ls k) mg k l r ls' mg' → ∃ m : Nat, mg' = (m : Int) ∧ Script ls' m ∧ ls.length ≤ ls'.length ∧ ls'.length ≤ ls.length + 1 := by
  obtain ⟨h1, e⟩ := h.take hkl (by omega)
  by_cases ek : k = ls.length
  · rw [if_pos ek] at e
    refine ⟨lv0, by rw [e, get_add, if_pos ek], by simp [lv0], fun r ls' mg' hp => ?_⟩
    have hl : (takeL ls k)[k]? = some lv0 := by rw [e, get_add, if_pos ek]
    obtain ⟨m, a, b, c, d⟩ := h1.push h1.u64 hk hl (by simp [lv0]) hp
    refine ⟨m, a, b, ?_, ?_⟩
    · rw [e] at c; simp at c; omega
    · obtain ⟨ra, rc, hp | ⟨hp, _⟩⟩ := hp
      · obtain ⟨_, rfl, _⟩ := hp
        rw [List.length_set, e]; simp
      · simp [lv0] at hp
  · rw [if_neg ek] at e
    rw [e]
    have hlt : k < ls.length := by omega
    have hl : ls[k]? = some ls[k] := List.getElem?_eq_getElem hlt
    exact ⟨ls[k], hl, h2 _ hl, fun r ls' mg' hp => h.push h.u64 hk hl (h2 _ hl) hp⟩
end Go.Proofs.Qxb6601843a
