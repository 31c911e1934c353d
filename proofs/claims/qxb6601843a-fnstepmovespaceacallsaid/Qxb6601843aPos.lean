import Derived.Test.Qxb6601843aRank
namespace Go.Proofs.Qxb6601843a
/-- how many of f's first n are below t, f sorted -/
def cntFn (f : Nat → Int) (t : Int) : Nat → Nat
  | 0 => 0
  | n + 1 => if f n < t then n + 1 else cntFn f t n
theorem cntFn_eq (f : Nat → Int) (t : Int) : ∀ (n c : Nat), c ≤ n → (∀ y, y < c → f y < t) → (∀ y, c ≤ y → y < n → t ≤ f y) → cntFn f t n = c
  | 0, c, h, _, _ => by simp [cntFn]; omega
  | n + 1, c, h, h1, h2 => by
    simp only [cntFn]
    by_cases e : c = n + 1
    · rw [if_pos (h1 n (by omega))]; exact e.symm
    · have := h2 n (by omega) (by omega)
      rw [if_neg (by omega)]
      exact cntFn_eq f t n c (by omega) h1 (fun y a b => h2 y a (by omega))
/-- the place of A's x-th price -/
def Two.pos (D : Two) (x : Nat) : Nat := x + cntFn D.tB (D.tA x) D.nb
theorem Two.pos_of {D : Two} {x c : Nat} (h : cntB D (D.tA x) c) : D.pos x = x + c := by
  unfold Two.pos
  rw [cntFn_eq D.tB (D.tA x) D.nb c h.1 h.2.1 h.2.2]
theorem cntFn_is (f : Nat → Int) (t : Int) : ∀ n, (∀ x y, x ≤ y → y < n → f x ≤ f y) → cntFn f t n ≤ n ∧ (∀ y, y < cntFn f t n → f y < t) ∧ ∀ y, cntFn f t n ≤ y → y < n → t ≤ f y
  | 0, _ => ⟨Nat.le_refl _, fun y hy => absurd hy (Nat.not_lt_zero _), fun y _ hy => absurd hy (Nat.not_lt_zero _)⟩
  | n + 1, hs => by
    simp only [cntFn]
    by_cases e : f n < t
    · rw [if_pos e]
      exact ⟨Nat.le_refl _, fun y hy => Int.lt_of_le_of_lt (hs y n (by omega) (by omega)) e, fun y h1 h2 => by omega⟩
    · rw [if_neg e]
      obtain ⟨a, b, c⟩ := cntFn_is f t n (fun x y h1 h2 => hs x y h1 (by omega))
      refine ⟨by omega, b, fun y h1 h2 => ?_⟩
      by_cases e2 : y = n
      · subst e2; omega
      · exact c y h1 (by omega)
theorem Two.front_mono (D : Two) : ∀ n m, n ≤ m → (D.front n).1 ≤ (D.front m).1 := by
  intro n m h
  induction m with
  | zero => have : n = 0 := by omega
            subst this; exact Nat.le_refl _
  | succ m ih =>
    by_cases e : n = m + 1
    · subst e; exact Nat.le_refl _
    · refine Nat.le_trans (ih (by omega)) ?_
      simp only [Two.front]
      split <;> simp only [] <;> omega
theorem Two.Ok.pos_lt {D : Two} (ok : D.Ok) {x n : Nat} (hx : x < D.na) : D.pos x < n ↔ x < (D.front n).1 := by
  obtain ⟨a, b, c⟩ := cntFn_is D.tB (D.tA x) D.nb ok.sB
  have hc : cntB D (D.tA x) (cntFn D.tB (D.tA x) D.nb) := ⟨a, b, c⟩
  obtain ⟨hf, hp⟩ := ok.rankA x _ hx hc
  have hm := (D.moveA hf hp).1
  have e := Two.pos_of hc
  rw [← e] at hf hm
  constructor
  · intro h
    have := D.front_mono (D.pos x + 1) n h
    rw [hm] at this
    exact this
  · intro h
    apply Classical.byContradiction
    intro h'
    have := D.front_mono n (D.pos x) (by omega)
    rw [hf] at this
    simp only [] at this
    omega
theorem Two.Ok.pos_range {D : Two} (ok : D.Ok) {x : Nat} (hx : x < D.na) : D.pos x < D.size := by
  obtain ⟨a, _, _⟩ := cntFn_is D.tB (D.tA x) D.nb ok.sB
  unfold Two.pos Two.size
  omega
end Go.Proofs.Qxb6601843a
