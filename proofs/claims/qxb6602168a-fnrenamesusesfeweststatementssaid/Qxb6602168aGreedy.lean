namespace Go.Proofs.Qxb6602168a
/-! ### the plain law: the greedy split of moves (lists of bytes) -/
abbrev Bs := List UInt8
def sep : Bs := [44, 32]
/-- f 0, f 1 .. f (k-1), joined by sep -/
def jn (f : Nat → Bs) : Nat → Bs
  | 0 => []
  | k + 1 => (if 0 < k then jn f k ++ sep else jn f k) ++ f k
theorem jn_congr {f g : Nat → Bs} : ∀ k, (∀ i, i < k → f i = g i) → jn f k = jn g k
  | 0, _ => rfl
  | k + 1, h => by
    have e := jn_congr k (fun i hi => h i (by omega))
    simp only [jn, e, h k (Nat.lt_succ_self k)]
def at_ (ss : List Bs) (i : Nat) : Bs := ss.getD i []
def jl (ss : List Bs) : Bs := jn (at_ ss) ss.length
theorem at_lt {ss : List Bs} {i : Nat} (h : i < ss.length) : at_ ss i = ss[i] := by simp [at_, List.getD, h]
theorem jl_snoc (ss : List Bs) (x : Bs) : jl (ss ++ [x]) = (if 0 < ss.length then jl ss ++ sep else jl ss) ++ x := by
  unfold jl
  rw [List.length_append, List.length_singleton]
  have e : jn (at_ (ss ++ [x])) ss.length = jn (at_ ss) ss.length := jn_congr _ (fun i hi => by simp [at_, List.getD, List.getElem?_append_left hi])
  have e2 : at_ (ss ++ [x]) ss.length = x := by simp [at_, List.getD]
  simp only [jn, e, e2]
/-- the statements' bodies made so far, and the body in hand -/
structure St where
  ss : List Bs
  b : Bs
def St.full (lim : Int) (s : St) (x : Bs) : Bool := decide (0 < s.b.length) && decide (lim < (13 + s.b.length + 2 + x.length : Nat))
def St.step (lim : Int) (s : St) (x : Bs) : St :=
  if s.full lim x = true then ⟨s.ss ++ [s.b], x⟩ else ⟨s.ss, if 0 < s.b.length then s.b ++ sep ++ x else x⟩
def gst (lim : Int) (m : Nat → Bs) : Nat → St
  | 0 => ⟨[], []⟩
  | k + 1 => (gst lim m k).step lim (m k)
def St.out (s : St) : List Bs := if 0 < s.b.length then s.ss ++ [s.b] else s.ss
def St.count (s : St) : Nat := s.ss.length + if 0 < s.b.length then 1 else 0
theorem St.out_length (s : St) : s.out.length = s.count := by unfold St.out St.count; split <;> simp
/-! ### what the first law asks -/
structure GOk (lim : Int) (m : Nat → Bs) (k : Nat) (s : St) : Prop where
  zero : k = 0 → s.ss = [] ∧ s.b = []
  pos : 0 < k → 0 < s.b.length
  join : jl s.out = jn m k
  cnt : s.count ≤ k
  ne : ∀ x ∈ s.ss, 0 < x.length
  fit : (∀ i, i < k → (13 + (m i).length : Nat) ≤ lim) → (∀ x ∈ s.ss, (13 + x.length : Nat) ≤ lim) ∧ (0 < k → (13 + s.b.length : Nat) ≤ lim)
theorem GOk.init (lim : Int) (m : Nat → Bs) : GOk lim m 0 (gst lim m 0) :=
  ⟨fun _ => ⟨rfl, rfl⟩, fun h => absurd h (Nat.lt_irrefl 0), rfl, Nat.le_refl 0, (by intro x hx; exact nomatch hx), fun _ => ⟨(by intro x hx; exact nomatch hx), fun h => absurd h (Nat.lt_irrefl 0)⟩⟩
theorem GOk.next {lim : Int} {m : Nat → Bs} {k : Nat} {s : St} (h : GOk lim m k s) (hm : 0 < (m k).length) : GOk lim m (k + 1) (s.step lim (m k)) := by
  by_cases hf : s.full lim (m k) = true
  · have e : s.step lim (m k) = ⟨s.ss ++ [s.b], m k⟩ := by unfold St.step; rw [if_pos hf]
    rw [e]
    have hb : 0 < s.b.length := by
      simp only [St.full, Bool.and_eq_true, decide_eq_true_eq] at hf
      exact hf.1
    have hk : 0 < k := Nat.pos_of_ne_zero fun e => by have := (h.zero e).2; simp [this] at hb
    have hj := h.join
    have hc := h.cnt
    unfold St.out at hj
    unfold St.count at hc
    rw [if_pos hb] at hj hc
    refine ⟨fun e => absurd e (Nat.succ_ne_zero k), fun _ => hm, ?_, ?_, ?_, ?_⟩
    · unfold St.out
      rw [if_pos hm]
      show jl ((s.ss ++ [s.b]) ++ [m k]) = _
      rw [jl_snoc, if_pos (by simp), hj]
      simp [jn, hk]
    · unfold St.count
      rw [if_pos hm]
      simp
      omega
    · intro x hx
      rw [List.mem_append] at hx
      rcases hx with hx | hx
      · exact h.ne x hx
      · rw [List.mem_singleton] at hx; subst hx; exact hb
    · intro hall
      have h1 := h.fit (fun i hi => hall i (by omega))
      refine ⟨?_, fun _ => hall k (Nat.lt_succ_self k)⟩
      intro x hx
      rw [List.mem_append] at hx
      rcases hx with hx | hx
      · exact h1.1 x hx
      · rw [List.mem_singleton] at hx; subst hx; exact h1.2 hk
  · have e : s.step lim (m k) = ⟨s.ss, if 0 < s.b.length then s.b ++ sep ++ m k else m k⟩ := by unfold St.step; rw [if_neg hf]
    rw [e]
    by_cases hb : 0 < s.b.length
    · rw [if_pos hb]
      have hk : 0 < k := Nat.pos_of_ne_zero fun e => by have := (h.zero e).2; simp [this] at hb
      have hl : 0 < (s.b ++ sep ++ m k).length := by rw [List.length_append]; omega
      have hj := h.join
      have hc := h.cnt
      unfold St.out at hj
      unfold St.count at hc
      rw [if_pos hb] at hj hc
      refine ⟨fun e => absurd e (Nat.succ_ne_zero k), fun _ => hl, ?_, ?_, h.ne, ?_⟩
      · unfold St.out
        rw [if_pos hl]
        show jl (s.ss ++ [s.b ++ sep ++ m k]) = _
        rw [jl_snoc] at hj ⊢
        simp only [jn, if_pos hk, ← hj, List.append_assoc]
      · unfold St.count
        rw [if_pos hl]
        show s.ss.length + 1 ≤ k + 1
        omega
      · intro hall
        have h1 := h.fit (fun i hi => hall i (by omega))
        refine ⟨h1.1, fun _ => ?_⟩
        have hn : ¬ (lim < (13 + s.b.length + 2 + (m k).length : Nat)) := fun e => hf (by simp only [St.full, Bool.and_eq_true, decide_eq_true_eq]; exact ⟨hb, e⟩)
        show ((13 + (s.b ++ sep ++ m k).length : Nat) : Int) ≤ lim
        have e2 : (s.b ++ sep ++ m k).length = s.b.length + 2 + (m k).length := by simp [sep]; omega
        rw [e2]
        omega
    · rw [if_neg hb]
      have hk : k = 0 := Nat.eq_zero_of_not_pos fun hk => hb (h.pos hk)
      have hz := (h.zero hk).1
      refine ⟨fun e => absurd e (Nat.succ_ne_zero k), fun _ => hm, ?_, ?_, h.ne, ?_⟩
      · unfold St.out
        rw [if_pos hm]
        show jl (s.ss ++ [m k]) = _
        rw [jl_snoc, hz, hk]
        simp [jn, jl]
      · unfold St.count
        rw [if_pos hm]
        show s.ss.length + 1 ≤ k + 1
        rw [hz]
        simp
      · intro hall
        refine ⟨?_, fun _ => hall k (Nat.lt_succ_self k)⟩
        show ∀ x ∈ s.ss, _
        rw [hz]
        intro x hx
        exact nomatch hx
theorem gok (lim : Int) (m : Nat → Bs) (n : Nat) (hm : ∀ i, i < n → 0 < (m i).length) : ∀ k, k ≤ n → GOk lim m k (gst lim m k)
  | 0, _ => GOk.init lim m
  | k + 1, h => (gok lim m n hm k (by omega)).next (hm k (by omega))
/-! ### what the second law asks: no split has fewer -/
def pre (m : Nat → Bs) : Nat → Nat
  | 0 => 0
  | k + 1 => pre m k + (m k).length
theorem pre_mono (m : Nat → Bs) {i j : Nat} (h : i ≤ j) : pre m i ≤ pre m j := by
  induction j with
  | zero => have : i = 0 := by omega
            subst this; exact Nat.le_refl _
  | succ j ih =>
    by_cases e : i = j + 1
    · subst e; exact Nat.le_refl _
    · have := ih (by omega); simp only [pre]; omega
def lenr (m : Nat → Bs) (s e : Nat) : Nat := 13 + (pre m e - pre m s) + 2 * (e - s - 1)
def Fit (lim : Int) (m : Nat → Bs) (j i : Nat) : Prop := i = j + 1 ∨ (lenr m j i : Int) ≤ lim
theorem Fit.left {lim : Int} {m : Nat → Bs} {j j' i : Nat} (h : Fit lim m j i) (h1 : j ≤ j') (h2 : j' < i) : Fit lim m j' i := by
  rcases h with h | h
  · left; omega
  · right
    have a := pre_mono m h1
    have b := pre_mono m (Nat.le_of_lt h2)
    unfold lenr at h ⊢
    omega
theorem Fit.right {lim : Int} {m : Nat → Bs} {j i i' : Nat} (h : Fit lim m j i) (h1 : j < i') (h2 : i' ≤ i) : Fit lim m j i' := by
  rcases h with h | h
  · left; omega
  · right
    have a := pre_mono m h2
    have b := pre_mono m (Nat.le_of_lt h1)
    unfold lenr at h ⊢
    omega
def G (lim : Int) (m : Nat → Bs) (k : Nat) : Nat := (gst lim m k).count
/-- s: where the statement in hand begins -/
structure Greedy (lim : Int) (m : Nat → Bs) (k s : Nat) : Prop where
  lt : s < k
  len : (gst lim m k).b.length + 13 = lenr m s k
  fit : Fit lim m s k
  cnt : G lim m k = G lim m s + 1
  same : ∀ j, s < j → j ≤ k → G lim m j = G lim m k
  best : ∀ j, j < k → Fit lim m j k → G lim m k ≤ G lim m j + 1
theorem greedy (lim : Int) (m : Nat → Bs) (n : Nat) (hm : ∀ i, i < n → 0 < (m i).length) : ∀ k, k < n → ∃ s, Greedy lim m (k + 1) s
  | 0, h0 => by
    have h := hm 0 h0
    have e : gst lim m 1 = ⟨[], m 0⟩ := by simp [gst, St.step, St.full]
    have g1 : G lim m 1 = 1 := by unfold G; rw [e]; simp [St.count]; exact List.length_pos_iff.1 h
    have g0 : G lim m 0 = 0 := by simp [G, gst, St.count]
    refine ⟨0, by omega, ?_, .inl rfl, by rw [g1, g0], fun j h1 h2 => by rw [show j = 0 + 1 by omega], fun j hj _ => ?_⟩
    · rw [e]; simp [lenr, pre]; omega
    · rw [show j = 0 by omega, g0, g1]; omega
  | k + 1, hk => by
    obtain ⟨s, g⟩ := greedy lim m n hm k (by omega)
    have hl := g.len
    have hx := hm (k + 1) hk
    have hlt := g.lt
    have hb : 0 < (gst lim m (k + 1)).b.length := by
      have := (gok lim m n hm (k + 1) (by omega)).pos (by omega)
      exact this
    have hlr : lenr m s (k + 2) = (gst lim m (k + 1)).b.length + 13 + 2 + (m (k + 1)).length := by
      have a := pre_mono m (Nat.le_of_lt hlt)
      unfold lenr at hl ⊢
      simp only [pre] at hl a ⊢
      omega
    have hcn : G lim m (k + 1) = (gst lim m (k + 1)).ss.length + 1 := by unfold G St.count; rw [if_pos hb]
    by_cases hf : (gst lim m (k + 1)).full lim (m (k + 1)) = true
    · have e : gst lim m (k + 2) = ⟨(gst lim m (k + 1)).ss ++ [(gst lim m (k + 1)).b], m (k + 1)⟩ := by
        show St.step _ _ _ = _
        unfold St.step; rw [if_pos hf]
      have hn : ¬ Fit lim m s (k + 2) := by
        simp only [St.full, Bool.and_eq_true, decide_eq_true_eq] at hf
        rintro (h | h)
        · omega
        · have := hf.2; omega
      have hc2 : G lim m (k + 2) = G lim m (k + 1) + 1 := by
        rw [hcn]; unfold G; rw [e]; unfold St.count; rw [if_pos hx]; simp
      refine ⟨k + 1, by omega, ?_, .inl rfl, hc2, fun j h1 h2 => by rw [show j = k + 2 by omega], fun j hj hfj => ?_⟩
      · rw [e]; simp only [lenr, pre]; omega
      · by_cases e1 : j = k + 1
        · subst e1; exact Nat.le_of_eq hc2
        · have hsj : s < j := by
            apply Nat.lt_of_not_le
            intro hle
            exact hn (hfj.left hle (by omega))
          have := g.same j hsj (by omega)
          show G lim m (k + 2) ≤ _
          omega
    · have e : gst lim m (k + 2) = ⟨(gst lim m (k + 1)).ss, (gst lim m (k + 1)).b ++ sep ++ m (k + 1)⟩ := by
        show St.step _ _ _ = _
        unfold St.step; rw [if_neg hf, if_pos hb]
      have hn : ¬ (lim < (13 + (gst lim m (k + 1)).b.length + 2 + (m (k + 1)).length : Nat)) := fun e => hf (by simp only [St.full, Bool.and_eq_true, decide_eq_true_eq]; exact ⟨hb, e⟩)
      have e2 : ((gst lim m (k + 1)).b ++ sep ++ m (k + 1)).length = (gst lim m (k + 1)).b.length + 2 + (m (k + 1)).length := by simp [sep]; omega
      have hc2 : G lim m (k + 2) = G lim m (k + 1) := by
        rw [hcn]; unfold G; rw [e]; unfold St.count; rw [if_pos (by show 0 < List.length _; rw [e2]; omega)]
      refine ⟨s, by omega, ?_, .inr (by rw [hlr]; omega), by rw [hc2]; exact g.cnt, fun j h1 h2 => ?_, fun j hj hfj => ?_⟩
      · rw [e, hlr]; show List.length _ + 13 = _; rw [e2]; omega
      · by_cases e1 : j = k + 2
        · subst e1; rfl
        · exact (g.same j h1 (by omega)).trans hc2.symm
      · show G lim m (k + 2) ≤ _
        by_cases e1 : j = k + 1
        · subst e1; omega
        · have := g.best j (by omega) (hfj.right (by omega) (by omega))
          omega
/-- the inner loop's law: at j (to be tried next is j - 1, in Nat: j tries are left) -/
structure Inner (lim : Int) (m : Nat → Bs) (i best j : Nat) : Prop where
  gr : ∃ s, Greedy lim m i s
  ge : G lim m i ≤ best
  hit : best = G lim m i ∨ ∃ s, s < j ∧ Greedy lim m i s
theorem Inner.init {lim : Int} {m : Nat → Bs} {n i : Nat} (hm : ∀ i, i < n → 0 < (m i).length) (hi : i < n) : Inner lim m (i + 1) (G lim m i + 1) i := by
  obtain ⟨s, g⟩ := greedy lim m n hm i hi
  refine ⟨⟨s, g⟩, g.best i (Nat.lt_succ_self i) (.inl rfl), ?_⟩
  by_cases e : s = i
  · subst e; left; exact g.cnt.symm
  · right; exact ⟨s, by have := g.lt; omega, g⟩
theorem Inner.stop {lim : Int} {m : Nat → Bs} {i best j : Nat} (h : Inner lim m i best (j + 1)) (hj : j + 1 < i) (hl : lim < (lenr m j i : Int)) : best = G lim m i := by
  rcases h.hit with e | ⟨s, hs, g⟩
  · exact e
  · exfalso
    rcases g.fit.left (show s ≤ j by omega) (by omega) with e | e <;> omega
theorem Inner.next {lim : Int} {m : Nat → Bs} {i best j : Nat} (h : Inner lim m i best (j + 1)) (hj : j + 1 < i) (hl : ¬ lim < (lenr m j i : Int)) : Inner lim m i (if G lim m j + 1 < best then G lim m j + 1 else best) j := by
  have hge := h.ge
  have hb : G lim m i ≤ G lim m j + 1 := by
    obtain ⟨s, g⟩ := h.gr
    exact g.best j (by omega) (.inr (by omega))
  refine ⟨h.gr, by split <;> omega, ?_⟩
  rcases h.hit with e | ⟨s, hs, g⟩
  · left; split <;> omega
  · by_cases e : s = j
    · subst e
      left
      have := g.cnt
      split <;> omega
    · right; exact ⟨s, by omega, g⟩
theorem Inner.done {lim : Int} {m : Nat → Bs} {i best : Nat} (h : Inner lim m i best 0) : best = G lim m i := by
  rcases h.hit with e | ⟨s, hs, _⟩
  · exact e
  · exact absurd hs (Nat.not_lt_zero _)
end Go.Proofs.Qxb6602168a
