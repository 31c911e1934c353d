import Derived.Test.Qxb6601843aSmall
import Derived.Deep.DeepCutAuto
namespace Go.Proofs.Qxb6601843a
open Go.RowKit
attribute [local go_sem ↓] wp_app
theorem hideL {p : Prop} (h : p) : Hid p := h
/-- the first k pieces of a row of n, as zzPieces lays them -/
def PS (w : World) (ty : TypeId) (kd : IntKind) (n k : Nat) (xs : List Value) (f : Nat → Int) : Prop :=
  ∀ c, c < k → ∃ g, xs[c]? = some (.slice (some ⟨g, 0, none⟩) (min 1024 (n - c * 1024)) (min 1024 (n - c * 1024))) ∧ PRow w g ty kd (min 1024 (n - c * 1024)) (fun o => o < min 1024 (n - c * 1024)) (fun o => f (c * 1024 + o))
theorem PS.grown {w w' : World} {ty : TypeId} {kd : IntKind} {n k : Nat} {xs : List Value} {f : Nat → Int} (h : PS w ty kd n k xs f) {row : Option Nat} (hg : w.grownBy w' row) (hr : ∀ X, row = some X → ∃ cs t fr, w.heap[X]? = some (.cells cs t fr) ∧ t ≠ ty) : PS w' ty kd n k xs f := by
  intro c hc
  obtain ⟨g, h1, cs, h2, h3, h4⟩ := h c hc
  refine ⟨g, h1, cs, (hg.block g (Array.getElem?_eq_some_iff.1 h2).1 (fun e => ?_)).trans h2, h3, h4⟩
  obtain ⟨cs', t, fr, h5, h6⟩ := hr g e.symm
  rw [h2] at h5
  cases h5
  exact h6 rfl
theorem PS.below {w w' : World} {ty : TypeId} {kd : IntKind} {n k : Nat} {xs : List Value} {f : Nat → Int} (h : PS w ty kd n k xs f) (hb : Below w.heap.size w w') : PS w' ty kd n k xs f := h.grown (grown_none hb) (fun _ e => nomatch e)
theorem PS.add {w : World} {ty : TypeId} {kd : IntKind} {n k : Nat} {xs : List Value} {f : Nat → Int} (h : PS w ty kd n k xs f) (hl : xs.length = k) {g : Nat} (hp : PRow w g ty kd (min 1024 (n - k * 1024)) (fun o => o < min 1024 (n - k * 1024)) (fun o => f (k * 1024 + o))) :
    PS w ty kd n (k + 1) (xs ++ [.slice (some ⟨g, 0, none⟩) (min 1024 (n - k * 1024)) (min 1024 (n - k * 1024))]) f := by
  intro c hc
  by_cases e : c < k
  · obtain ⟨g', h1, h2⟩ := h c e
    exact ⟨g', by rw [List.getElem?_append_left (by omega)]; exact h1, h2⟩
  · have e : c = k := by omega
    subst e
    exact ⟨g, by rw [List.getElem?_append_right (by omega), hl]; simp, hp⟩
theorem PS.pcs {w : World} {B : Nat} {ty oty : TypeId} {kd : IntKind} {n k tc : Nat} {ta : Option Addr} {xs : List Value} {f : Nat → Int} (h : PS w ty kd n k xs f) (ho : w.ownsRow B oty 1 (.slice ta k tc) k xs) (hk : n ≤ k * 1024) : Pcs w ta k kd (fun c => min 1024 (n - c * 1024)) n f := by
  intro p hp
  obtain ⟨g, h1, h2⟩ := h (p / 1024) (by omega)
  obtain ⟨tb, cap, hv, _, _⟩ := ho.form (by omega)
  simp at hv
  obtain ⟨rfl, rfl⟩ := hv
  have hc := h2.cell (p % 1024) (by show p % 1024 < min 1024 (n - p / 1024 * 1024); omega)
  refine ⟨by omega, by show p % 1024 < min 1024 (n - p / 1024 * 1024); omega, tb, g, rfl, ?_, ?_⟩
  · rw [ho.cellAt _ (by omega), h1]
  · rw [hc]
    have : p / 1024 * 1024 + p % 1024 = p := by omega
    rw [this]
/-- the pieces so far -/
structure LayS (w wr : World) (n k : Nat) (ta : Option Addr) (tc : Nat) (sa : Option Addr) (sc : Nat) (tf pf : Nat → Int) : Prop where
  bl : Below w.heap.size w wr
  ex : ∃ xs ys, wr.ownsRow w.heap.size 22 1 (.slice ta k tc) k xs ∧ wr.ownsRow w.heap.size 72 1 (.slice sa k sc) k ys ∧ PS wr 21 .i32 n k xs tf ∧ PS wr 2 .i64 n k ys (fun p => psum pf (p + 1))
theorem LayS.start (w : World) (n : Nat) (tf pf : Nat → Int) : LayS w w n 0 none 0 none 0 tf pf :=
  ⟨Below.refl _ _, [], [], World.ownsRow_nil _ _ _ _, World.ownsRow_nil _ _ _ _, fun _ h => absurd h (Nat.not_lt_zero _), fun _ h => absurd h (Nat.not_lt_zero _)⟩
theorem own_kept2 {w w' : World} {B B2 : Nat} {e e2 : TypeId} {sz sz2 : Nat} {v v2 : Value} {m m2 : Nat} {xs xs2 : List Value} (h : w.ownsRow B e sz v m xs) (h2 : w.ownsRow B2 e2 sz2 v2 m2 xs2) (hne : e2 ≠ e) (hg : w.grownBy w' v2.ownBlock) : w'.ownsRow B e sz v m xs := by
  refine h.kept hg ?_
  rcases h2.2 with ⟨rfl, _⟩ | ⟨x, cap, cur, rfl, _, hx, _⟩
  · cases hv : v.ownBlock with
    | none => exact .inl rfl
    | some X => exact .inr (by simp [Value.ownBlock])
  · right
    intro e'
    exact own_ty h hx hne (by rw [e']; simp [Value.ownBlock])
theorem prow_kept2 {w w' : World} {N : Nat} {ty : TypeId} {kd : IntKind} {len : Nat} {P : Nat → Prop} {f : Nat → Int} (h : PRow w N ty kd len P f) {B2 : Nat} {e2 : TypeId} {sz2 : Nat} {v2 : Value} {m2 : Nat} {xs2 : List Value} (h2 : w.ownsRow B2 e2 sz2 v2 m2 xs2) (hne : ty ≠ e2) (hg : w.grownBy w' v2.ownBlock) : PRow w' N ty kd len P f := by
  have hlt := h.lt
  obtain ⟨cs, h1, h3, h4⟩ := h
  exact ⟨cs, (hg.block N hlt (own_ty h2 h1 hne)).trans h1, h3, h4⟩
theorem ps_kept2 {w w' : World} {ty : TypeId} {kd : IntKind} {n k : Nat} {xs : List Value} {f : Nat → Int} (h : PS w ty kd n k xs f) {B2 : Nat} {e2 : TypeId} {sz2 : Nat} {v2 : Value} {m2 : Nat} {xs2 : List Value} (h2 : w.ownsRow B2 e2 sz2 v2 m2 xs2) (hne : ty ≠ e2) (hg : w.grownBy w' v2.ownBlock) : PS w' ty kd n k xs f := by
  intro c hc
  obtain ⟨g, h1, h3⟩ := h c hc
  exact ⟨g, h1, prow_kept2 h3 h2 hne hg⟩
/-- the two appends of a round -/
theorem LayS.add {w wk wi : World} {n k : Nat} {ta : Option Addr} {tc : Nat} {sa : Option Addr} {sc : Nat} {tf pf : Nat → Int} (S : LayS w wk n k ta tc sa sc tf pf) (hn : n ≤ 65536) (hk : k * 1024 < n) (hi : Below wk.heap.size wk wi) {N1 N2 l : Nat} (hl : l = min 1024 (n - k * 1024)) 
    (r1 : PRow wi N1 21 .i32 l (fun o => o < l) (fun o => tf (k * 1024 + o))) (r2 : PRow wi N2 2 .i64 l (fun o => o < l) (fun o => psum pf (k * 1024 + o + 1))) :
    ∃ g1 t1 w1, appRun Try.prog 26 26 (.slice ta k tc) (.slice (some ⟨wi.heap.size, 0, none⟩) 1 1) (wi.alloc (.cells #[.slice (some ⟨N1, 0, none⟩) l l] 22)) = .ok (.slice (some ⟨g1, 0, none⟩) (k + 1) t1) w1 ∧
    ∃ g2 t2 w2, appRun Try.prog 27 27 (.slice sa k sc) (.slice (some ⟨w1.heap.size, 0, none⟩) 1 1) (w1.alloc (.cells #[.slice (some ⟨N2, 0, none⟩) l l] 72)) = .ok (.slice (some ⟨g2, 0, none⟩) (k + 1) t2) w2 ∧
      LayS w w2 n (k + 1) (some ⟨g1, 0, none⟩) t1 (some ⟨g2, 0, none⟩) t2 tf pf := by
  subst hl
  obtain ⟨bl, xs, ys, o1, o2, p1, p2⟩ := S
  have hxs : xs.length = k := by have := o1.1; simpa using this
  have hys : ys.length = k := by have := o2.1; simpa using this
  have hsz := bl.size
  have hsi := hi.size
  have ba : Below wi.heap.size wi (wi.alloc (.cells #[.slice (some ⟨N1, 0, none⟩) (min 1024 (n - k * 1024)) (min 1024 (n - k * 1024))] 22)) := (Below.refl _ _).alloc (Nat.le_refl _) _
  have b1 := hi.trans (ba.mono hsi)
  have O1 : (wi.alloc (.cells #[.slice (some ⟨N1, 0, none⟩) (min 1024 (n - k * 1024)) (min 1024 (n - k * 1024))] 22)).ownsRow w.heap.size 22 1 (.slice ta k tc) k xs := o1.kept (grown_none b1) (by cases ta <;> simp [Value.ownBlock])
  have O2 : (wi.alloc (.cells #[.slice (some ⟨N1, 0, none⟩) (min 1024 (n - k * 1024)) (min 1024 (n - k * 1024))] 22)).ownsRow w.heap.size 72 1 (.slice sa k sc) k ys := o2.kept (grown_none b1) (by cases sa <;> simp [Value.ownBlock])
  obtain ⟨g1, t1, w1, ha1, ho1, hg1⟩ := app26 _ w.heap.size ta k tc xs O1 wi.heap.size (.slice (some ⟨N1, 0, none⟩) (min 1024 (n - k * 1024)) (min 1024 (n - k * 1024))) (heap_alloc_new wi _) rfl (by simp; omega) (by omega)
  have P1 := ps_kept2 (p1.below b1) O1 (by decide) hg1
  have P2 := ps_kept2 (p2.below b1) O1 (by decide) hg1
  have Q1 := prow_kept2 (r1.below ba r1.lt) O1 (by decide) hg1
  have Q2 := prow_kept2 (r2.below ba r2.lt) O1 (by decide) hg1
  have B1 : Below w.heap.size w w1 := (bl.trans (b1.mono hsz)).trans (below_grownR hg1 (fun k hk => (O1.lt k hk).1) (by simp; omega))
  have O2' := own_kept2 O2 O1 (by decide) hg1
  have ba2 : Below w1.heap.size w1 (w1.alloc (.cells #[.slice (some ⟨N2, 0, none⟩) (min 1024 (n - k * 1024)) (min 1024 (n - k * 1024))] 72)) := (Below.refl _ _).alloc (Nat.le_refl _) _
  have hs1 := B1.size
  have U1 : (w1.alloc (.cells #[.slice (some ⟨N2, 0, none⟩) (min 1024 (n - k * 1024)) (min 1024 (n - k * 1024))] 72)).ownsRow w.heap.size 22 1 (.slice (some ⟨g1, 0, none⟩) (k + 1) t1) (k + 1) (xs ++ [.slice (some ⟨N1, 0, none⟩) (min 1024 (n - k * 1024)) (min 1024 (n - k * 1024))]) := ho1.alloc _
  have U2 : (w1.alloc (.cells #[.slice (some ⟨N2, 0, none⟩) (min 1024 (n - k * 1024)) (min 1024 (n - k * 1024))] 72)).ownsRow w.heap.size 72 1 (.slice sa k sc) k ys := O2'.alloc _
  obtain ⟨g2, t2, w2, ha2, ho2, hg2⟩ := app27 _ w.heap.size sa k sc ys U2 w1.heap.size (.slice (some ⟨N2, 0, none⟩) (min 1024 (n - k * 1024)) (min 1024 (n - k * 1024))) (heap_alloc_new w1 _) rfl (by simp; omega) (by omega)
  refine ⟨g1, t1, w1, ha1, g2, t2, w2, ha2, ⟨?_, _, _, own_kept2 U1 U2 (by decide) hg2, ho2, ?_, ?_⟩⟩
  · exact (B1.trans (ba2.mono hs1)).trans (below_grownR hg2 (fun k hk => (U2.lt k hk).1) (by simp; omega))
  · exact (ps_kept2 (P1.below ba2) U2 (by decide) hg2).add hxs (prow_kept2 (Q1.below ba2 Q1.lt) U2 (by decide) hg2)
  · exact (ps_kept2 (P2.below ba2) U2 (by decide) hg2).add hys (prow_kept2 (Q2.below ba2 Q2.lt) U2 (by decide) hg2)
set_option maxRecDepth 20000 in
set_option maxHeartbeats 4000000 in
theorem pieces_any (a1 a2 : Option Addr) (n c1 c2 : Nat) (tf pf : Nat → Int) (w : World) (h1 : FRd w a1 .i32 n tf) (h2 : FRd w a2 .i32 n pf) (hn : n ≤ 65536) (hbd : ∀ p, p < n → -2147483648 ≤ pf p ∧ pf p ≤ 2147483647) :
    Calls Try.prog 12 #[.slice a1 n c1, .slice a2 n c2] w fun e w' => ∃ ta tl tc sa sl sc, e = .returned (.tuple #[.slice ta tl tc, .slice sa sl sc]) ∧ Pcs w' ta tl .i32 (fun c => min 1024 (n - c * 1024)) n tf ∧ Pcs w' sa sl .i64 (fun c => min 1024 (n - c * 1024)) n (fun p => psum pf (p + 1)) ∧ Below w.heap.size w w' := by
  have HBD : Hid (∀ p, p < n → -2147483648 ≤ pf p ∧ pf p ≤ 2147483647) := hbd
  clear hbd
  go_enter Try.func12, Try.ntmps12
  go_wp2
  go_loopw [6, 7, 8, 9] (fun t s sum st wr => ∃ (k : Nat) (ta : Option Addr) (tc : Nat) (sa : Option Addr) (sc : Nat), k * 1024 ≤ n + 1023 ∧ t = .slice ta k tc ∧ s = .slice sa k sc ∧ sum = .int .i64 (psum pf (min n (k * 1024))) ∧ st = .int .i64 (k * 1024 : Nat) ∧ LayS w wr n k ta tc sa sc tf pf) (fun _ _ _ st _ => n - (intOf st).toNat)
  case atStart => exact ⟨0, none, 0, none, 0, by omega, rfl, rfl, by simp [psum], rfl, LayS.start w n tf pf⟩
  case round =>
    obtain ⟨k, ta, tc, sa, sc, hk, rfl, rfl, rfl, rfl, S⟩ := hrel
    by_cases hlt : k * 1024 < n
    · obtain ⟨st, hst⟩ : ∃ st, st = k * 1024 := ⟨_, rfl⟩
      obtain ⟨l, hl⟩ : ∃ l, l = min 1024 (n - k * 1024) := ⟨_, rfl⟩
      have hmin : min n (k * 1024) = st := by omega
      rw [hmin, ← hst]
      have HK : Hid (st = k * 1024) := hst
      have HL : Hid (l = min 1024 (n - k * 1024)) := hl
      have hst1 : st < n := by omega
      have hl1 : st + l ≤ n := by omega
      have hl2 : l ≤ 1024 := by omega
      have hl3 : 0 < l := by omega
      have hE : Hid (st + l = min (st + 1024) n) := show _ = _ by omega
      clear hst hl hk hlt hmin
      have m1 := make22 l (by omega)
      have m2 := make72 l (by omega)
      go_upto_if 25 with fail
      go_cut [10, 25] (fun e _ wx => e = .int .i64 ((st : Int) + (l : Int)) ∧ wx = wr)
      case first =>
        by_cases hc : (n : Int) < (st : Int) + 1024
        · have hd : decide ((n : Int) < (st : Int) + 1024) = true := decide_eq_true hc
          go_wp2_with fail
          go_meet
          exact ⟨congrArg (Value.int .i64) (by have := hE.out; omega), rfl⟩
        · have hd : decide ((n : Int) < (st : Int) + 1024) = false := decide_eq_false hc
          go_wp2_with fail
          go_meet
          exact ⟨congrArg (Value.int .i64) (by have := hE.out; omega), rfl⟩
      case rest =>
        obtain ⟨rfl, hwc⟩ := hcut
        subst hwc
        have hsub : (st : Int) + (l : Int) - (st : Int) = (l : Int) := by omega
        have P1 : Hid (PRow ((wc.alloc (Obj.cells (madeCells #[.int .i32 0] l) 21)).alloc (Obj.cells (madeCells #[.int .i64 0] l) 2)) wc.heap.size 21 .i32 l (fun o => o < 0) (fun o => tf (st + o))) :=
          ((PRow.new wc 21 .i32 l (.int .i32 0) (fun o => tf (st + o))).below (B := wc.heap.size + 1) ((Below.refl _ _).alloc (by simp) _) (by omega)).mono (fun p hp => absurd hp (Nat.not_lt_zero _))
        have P2 : Hid (PRow ((wc.alloc (Obj.cells (madeCells #[.int .i32 0] l) 21)).alloc (Obj.cells (madeCells #[.int .i64 0] l) 2)) (wc.heap.size + 1) 2 .i64 l (fun o => o < 0) (fun o => psum pf (st + o + 1))) := by
          have := PRow.new (wc.alloc (Obj.cells (madeCells #[.int .i32 0] l) 21)) 2 .i64 l (.int .i64 0) (fun o => psum pf (st + o + 1))
          rw [show (wc.alloc (Obj.cells (madeCells #[.int .i32 0] l) 21)).heap.size = wc.heap.size + 1 by simp] at this
          exact this.mono (fun p hp => absurd hp (Nat.not_lt_zero _))
        have HB2 : Hid (Below wc.heap.size wc ((wc.alloc (Obj.cells (madeCells #[.int .i32 0] l) 21)).alloc (Obj.cells (madeCells #[.int .i64 0] l) 2))) := World.below2 wc _ _
        have hwS := S.bl
        go_wp2_with fail
        go_loopw [8, 13] (fun sum q wi => ∃ r : Nat, r ≤ l ∧ sum = .int .i64 (psum pf (st + r)) ∧ q = .int .i64 ((st : Int) + (r : Int)) ∧ PRow wi wc.heap.size 21 .i32 l (fun o => o < r) (fun o => tf (st + o)) ∧ PRow wi (wc.heap.size + 1) 2 .i64 l (fun o => o < r) (fun o => psum pf (st + o + 1)) ∧ Below wc.heap.size wc wi) (fun _ q _ => st + l - (intOf q).toNat)
        case atStart => exact ⟨0, Nat.zero_le _, rfl, by go_num, P1.out, P2.out, HB2.out⟩
        case round =>
          clear P1 P2 HB2 m1 m2
          obtain ⟨r, hr, rfl, rfl, R1, R2, hb⟩ := hrel
          by_cases hrl : r < l
          · obtain ⟨b1, o1, rfl, hw1, g1⟩ := h1.at (p := st + r) (by omega)
            obtain ⟨b2, o2, rfl, hw2, g2⟩ := h2.at (p := st + r) (by omega)
            have hb0 : Below w.heap.size w wr := hwS.trans (hb.mono hwS.size)
            have hsz := hwS.size
            have k1 : wr.cell? ⟨b1, o1 + (st + r), none⟩ = some (.int .i32 (tf (st + r))) := (hb0.cell (p := ⟨b1, _, none⟩) hw1).trans (g1 (st + r) (by omega))
            have k2 : wr.cell? ⟨b2, o2 + (st + r), none⟩ = some (.int .i32 (pf (st + r))) := (hb0.cell (p := ⟨b2, _, none⟩) hw2).trans (g2 (st + r) (by omega))
            clear g1 g2
            obtain ⟨⟨u1, d1⟩, f1⟩ := R1.dst r hrl
            obtain ⟨⟨u2, d2⟩, f2⟩ := R2.dst r hrl
            have hv := HBD.out (st + r) (by omega)
            have hq := psum_bound pf (st + r) (fun q hq => HBD.out q (by omega))
            have S1 := hideL (((R1.put r hrl).mono (P' := fun o => o < r + 1) (fun p hp => by by_cases e : p = r; exact .inr e; exact .inl (by omega))).keep (X := wc.heap.size + 1) (by omega) r (.int .i64 (psum pf (st + r) + pf (st + r))))
            have S2 := hideL (((R2.keep (X := wc.heap.size) (by omega) r (.int .i32 (tf (st + r)))).put r hrl).mono (P' := fun o => o < r + 1) (fun p hp => by by_cases e : p = r; exact .inr e; exact .inl (by omega)))
            have S3 := hideL ((hb.setCell (p := ⟨wc.heap.size, r, none⟩) (Nat.le_refl _) (.int .i32 (tf (st + r)))).setCell (p := ⟨wc.heap.size + 1, r, none⟩) (by show wc.heap.size ≤ wc.heap.size + 1; omega) (.int .i64 (psum pf (st + r) + pf (st + r))))
            have hidx : (st : Int) + (r : Int) - (st : Int) = (r : Int) := by omega
            clear R1 R2 hb hb0 h1 h2
            go_wp2
            go_roundw
            case rel => exact ⟨r + 1, by omega, rfl, by go_num, S1.out, S2.out, S3.out⟩
            case measure => simp [intOf]; omega
          · have e : r = l := by omega
            subst e
            have R1' : PRow wr wc.heap.size 21 .i32 r (fun o => o < r) (fun o => tf (k * 1024 + o)) := by rw [← HK.out]; exact R1
            have R2' : PRow wr (wc.heap.size + 1) 2 .i64 r (fun o => o < r) (fun o => psum pf (k * 1024 + o + 1)) := by rw [← HK.out]; exact R2
            obtain ⟨g1, t1, w1, ha1, g2, t2, w2, ha2, S'⟩ := S.add hn (by have := HK.out; omega) hb HL.out R1' R2'
            have hkk := HK.out
            have HSM : Hid (st + r = min n ((k + 1) * 1024)) := show _ = _ by have := hE.out; omega
            have HKK := hideL hkk
            clear R1 R2 R1' R2' hkk S
            go_wp2
            go_roundw
            case rel => exact ⟨k + 1, _, t1, _, t2, by have := HKK.out; omega, rfl, rfl, by rw [HSM.out], congrArg (Value.int .i64) (by have := HKK.out; omega), S'⟩
            case measure => simp [intOf]; omega
    · obtain ⟨bl, xs, ys, o1, o2, p1, p2⟩ := S
      have C1 := hideL (p1.pcs o1 (by omega))
      have C2 := hideL (p2.pcs o2 (by omega))
      clear o1 o2 p1 p2
      go_wp2
      exact bodyPost_ret (v := .tuple #[.slice ta k tc, .slice sa k sc]) (by simp [results, Try.results12, go_sem]) rfl ⟨ta, k, tc, sa, k, sc, rfl, C1.out, C2.out, bl⟩
end Go.Proofs.Qxb6601843a
