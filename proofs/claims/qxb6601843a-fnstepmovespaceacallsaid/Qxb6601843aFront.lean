/-
  The stable merge of two sorted rows, plainly: the front after n moves, what lies at place n, its sums. No Go here.
-/
import Derived.WalkKit
namespace Go.Proofs.Qxb6601843a

structure Two where
  na : Nat
  nb : Nat
  tA : Nat → Int
  pA : Nat → Int
  tB : Nat → Int
  pB : Nat → Int

/-- the next move is A's -/
abbrev Two.pick (D : Two) (i j : Nat) : Prop := i < D.na ∧ (D.nb ≤ j ∨ D.tA i ≤ D.tB j)

def Two.front (D : Two) : Nat → Nat × Nat
  | 0 => (0, 0)
  | n + 1 => if D.pick (D.front n).1 (D.front n).2 then ((D.front n).1 + 1, (D.front n).2) else ((D.front n).1, (D.front n).2 + 1)

def Two.eT (D : Two) (n : Nat) : Int := if D.pick (D.front n).1 (D.front n).2 then D.tA (D.front n).1 else D.tB (D.front n).2
def Two.eP (D : Two) (n : Nat) : Int := if D.pick (D.front n).1 (D.front n).2 then D.pA (D.front n).1 else D.pB (D.front n).2

/-- the sum of the first n -/
def psum (f : Nat → Int) : Nat → Int
  | 0 => 0
  | n + 1 => psum f n + f n

theorem psum_bound (f : Nat → Int) : ∀ n, (∀ q, q < n → -2147483648 ≤ f q ∧ f q ≤ 2147483647) → -2147483648 * n ≤ psum f n ∧ psum f n ≤ 2147483647 * n
  | 0, _ => by simp [psum]
  | n + 1, h => by
    have := psum_bound f n (fun q hq => h q (by omega))
    have := h n (by omega)
    simp only [psum]
    omega

def Two.size (D : Two) : Nat := D.na + D.nb

theorem Two.front_add (D : Two) : ∀ n, (D.front n).1 + (D.front n).2 = n
  | 0 => rfl
  | n + 1 => by
    have := D.front_add n
    simp only [Two.front]
    split <;> simp only [] <;> omega

theorem Two.front_le (D : Two) : ∀ n, n ≤ D.size → (D.front n).1 ≤ D.na ∧ (D.front n).2 ≤ D.nb
  | 0, _ => ⟨Nat.zero_le _, Nat.zero_le _⟩
  | n + 1, h => by
    have h1 := D.front_le n (by omega)
    have h2 := D.front_add n
    unfold Two.size at h
    simp only [Two.front]
    split
    · rename_i hp
      have := hp.1
      exact ⟨by simp only []; omega, h1.2⟩
    · rename_i hp
      refine ⟨h1.1, ?_⟩
      simp only []
      apply Classical.byContradiction
      intro hc
      have e : (D.front n).2 = D.nb := by omega
      exact hp ⟨by omega, .inl (by omega)⟩

structure Two.Ok (D : Two) : Prop where
  sA : ∀ x y, x ≤ y → y < D.na → D.tA x ≤ D.tA y
  sB : ∀ x y, x ≤ y → y < D.nb → D.tB x ≤ D.tB y
  la : D.na ≤ 65536
  lb : D.nb ≤ 65536
  bA : ∀ x, x < D.na → -2147483648 ≤ D.pA x ∧ D.pA x ≤ 2147483647
  bB : ∀ x, x < D.nb → -2147483648 ≤ D.pB x ∧ D.pB x ≤ 2147483647

/-- the front parts the rows -/
theorem Two.Ok.parts {D : Two} (ok : D.Ok) : ∀ n, n ≤ D.size → (∀ x y, x < (D.front n).1 → (D.front n).2 ≤ y → y < D.nb → D.tA x ≤ D.tB y) ∧ (∀ x y, y < (D.front n).2 → (D.front n).1 ≤ x → x < D.na → D.tB y < D.tA x)
  | 0, _ => ⟨fun x y h => absurd h (Nat.not_lt_zero _), fun x y h => absurd h (Nat.not_lt_zero _)⟩
  | n + 1, h => by
    obtain ⟨h1, h2⟩ := Two.Ok.parts ok n (by omega)
    have hl := D.front_le n (by omega)
    have hs := D.front_add n
    unfold Two.size at h
    simp only [Two.front]
    split
    · rename_i hp
      refine ⟨fun x y hx hy hyn => ?_, fun x y hy hx hxn => h2 x y hy (by simp only [] at hx; omega) hxn⟩
      simp only [] at hx hy
      by_cases e : x < (D.front n).1
      · exact h1 x y e hy hyn
      · have e : x = (D.front n).1 := by omega
        subst e
        rcases hp.2 with h' | h'
        · omega
        · exact Int.le_trans h' (ok.sB _ _ hy hyn)
    · rename_i hp
      refine ⟨fun x y hx hy hyn => h1 x y hx (by simp only [] at hy; omega) hyn, fun x y hy hx hxn => ?_⟩
      simp only [] at hx hy
      by_cases e : y < (D.front n).2
      · exact h2 x y e hx hxn
      · have e : y = (D.front n).2 := by omega
        subst e
        have : ¬ (D.nb ≤ (D.front n).2 ∨ D.tA (D.front n).1 ≤ D.tB (D.front n).2) := fun h' => hp ⟨by omega, h'⟩
        have h3 : D.tB (D.front n).2 < D.tA (D.front n).1 := by
          apply Classical.byContradiction; intro hc; exact this (.inr (by omega))
        exact Int.lt_of_lt_of_le h3 (ok.sA _ _ hx hxn)

/-- c is how many of B's times lie below t -/
def cntB (D : Two) (t : Int) (c : Nat) : Prop := c ≤ D.nb ∧ (∀ y, y < c → D.tB y < t) ∧ ∀ y, c ≤ y → y < D.nb → t ≤ D.tB y
def cntA (D : Two) (t : Int) (c : Nat) : Prop := c ≤ D.na ∧ (∀ x, x < c → D.tA x ≤ t) ∧ ∀ x, c ≤ x → x < D.na → t < D.tA x

section
variable {D : Two} (ok : D.Ok)
include ok
theorem Two.Ok.rankA (x c : Nat) (hx : x < D.na) (hc : cntB D (D.tA x) c) : D.front (x + c) = (x, c) ∧ D.pick x c := by
  obtain ⟨c1, c2, c3⟩ := hc
  have hn : x + c ≤ D.size := by unfold Two.size; omega
  obtain ⟨h1, h2⟩ := ok.parts (x + c) hn
  have hs := D.front_add (x + c)
  have hl := D.front_le (x + c) hn
  generalize hf : D.front (x + c) = f at *
  obtain ⟨i, j⟩ := f
  simp only [] at *
  have ei : i = x := by
    rcases Nat.lt_trichotomy i x with h | h | h
    · have a := c3 c (Nat.le_refl _) (by omega)
      have b := h2 x c (by omega) (by omega) hx
      omega
    · exact h
    · have a := c2 j (by omega)
      have b := h1 x j h (Nat.le_refl _) (by omega)
      omega
  subst ei
  have ej : j = c := by omega
  subst ej
  refine ⟨rfl, hx, ?_⟩
  by_cases h : D.nb ≤ j
  · exact .inl h
  · exact .inr (c3 j (Nat.le_refl _) (by omega))

theorem Two.Ok.rankB (y c : Nat) (hy : y < D.nb) (hc : cntA D (D.tB y) c) : D.front (y + c) = (c, y) ∧ ¬ D.pick c y := by
  obtain ⟨c1, c2, c3⟩ := hc
  have hn : y + c ≤ D.size := by unfold Two.size; omega
  obtain ⟨h1, h2⟩ := ok.parts (y + c) hn
  have hs := D.front_add (y + c)
  have hl := D.front_le (y + c) hn
  generalize hf : D.front (y + c) = f at *
  obtain ⟨i, j⟩ := f
  simp only [] at *
  have ej : j = y := by
    rcases Nat.lt_trichotomy j y with h | h | h
    · have a := c3 c (Nat.le_refl _) (by omega)
      have b := h1 c y (by omega) (by omega) hy
      omega
    · exact h
    · have a := c2 i (by omega)
      have b := h2 i y h (Nat.le_refl _) (by omega)
      omega
  subst ej
  have ei : i = c := by omega
  subst ei
  refine ⟨rfl, fun hp => ?_⟩
  obtain ⟨p1, p2⟩ := hp
  have a := c3 i (Nat.le_refl _) p1
  rcases p2 with h | h <;> omega

theorem Two.Ok.cntA_of (n : Nat) (hn : n < D.size) (hp : D.pick (D.front n).1 (D.front n).2) : cntB D (D.tA (D.front n).1) (D.front n).2 := by
  obtain ⟨h1, h2⟩ := ok.parts n (by omega)
  have hl := D.front_le n (by omega)
  refine ⟨hl.2, fun y hy => h2 _ y hy (Nat.le_refl _) hp.1, fun y hy hyn => ?_⟩
  rcases hp.2 with h | h
  · omega
  · exact Int.le_trans h (ok.sB _ _ hy hyn)

theorem Two.Ok.cntB_of (n : Nat) (hn : n < D.size) (hp : ¬ D.pick (D.front n).1 (D.front n).2) : (D.front n).2 < D.nb ∧ cntA D (D.tB (D.front n).2) (D.front n).1 := by
  obtain ⟨h1, h2⟩ := ok.parts n (by omega)
  have hl := D.front_le n (by omega)
  have hs := D.front_add n
  unfold Two.size at hn
  have hj : (D.front n).2 < D.nb := by
    apply Classical.byContradiction
    intro hc
    exact hp ⟨by omega, .inl (by omega)⟩
  refine ⟨hj, hl.1, fun x hx => h1 x _ hx (Nat.le_refl _) hj, fun x hx hxn => ?_⟩
  have : D.tB (D.front n).2 < D.tA (D.front n).1 := by
    apply Classical.byContradiction; intro hc; exact hp ⟨by omega, .inr (by omega)⟩
  exact Int.lt_of_lt_of_le this (ok.sA _ _ hx hxn)

theorem Two.Ok.bE (n : Nat) (hn : n < D.size) : -2147483648 ≤ D.eP n ∧ D.eP n ≤ 2147483647 := by
  unfold Two.eP
  split
  · rename_i hp; exact ok.bA _ hp.1
  · rename_i hp; exact ok.bB _ (ok.cntB_of n hn hp).1

end

theorem Two.sums (D : Two) : ∀ n, psum D.eP n = psum D.pA (D.front n).1 + psum D.pB (D.front n).2
  | 0 => rfl
  | n + 1 => by
    have := D.sums n
    simp only [psum, Two.eP, Two.front]
    split <;> simp only [psum] <;> omega

theorem Two.moveA (D : Two) {n i j : Nat} (hf : D.front n = (i, j)) (hp : D.pick i j) : D.front (n + 1) = (i + 1, j) ∧ D.eT n = D.tA i ∧ psum D.eP (n + 1) = psum D.eP n + D.pA i := by
  refine ⟨?_, ?_, ?_⟩
  · simp only [Two.front, hf]; rw [if_pos hp]
  · simp only [Two.eT, hf]; rw [if_pos hp]
  · simp only [psum, Two.eP, hf]; rw [if_pos hp]
theorem Two.moveB (D : Two) {n i j : Nat} (hf : D.front n = (i, j)) (hp : ¬ D.pick i j) : D.front (n + 1) = (i, j + 1) ∧ D.eT n = D.tB j ∧ psum D.eP (n + 1) = psum D.eP n + D.pB j := by
  refine ⟨?_, ?_, ?_⟩
  · simp only [Two.front, hf]; rw [if_neg hp]
  · simp only [Two.eT, hf]; rw [if_neg hp]
  · simp only [psum, Two.eP, hf]; rw [if_neg hp]
end Go.Proofs.Qxb6601843a
