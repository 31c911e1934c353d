import Derived.Test.Qxb6601843aMerges
import Derived.Test.Qxb6601843aPos
import Derived.Test.Qxb6601843aLevelK
namespace Go.Proofs.Qxb6601843a
open Go.RowKit
theorem PRow.kept {w w' : World} {N : Nat} {ty : TypeId} {kd : IntKind} {len : Nat} {P : Nat → Prop} {f : Nat → Int} (h : PRow w N ty kd len P f) {KP : Nat → Prop} (hk : K.Keep KP w w') (hN : KP N) : PRow w' N ty kd len P f := by
  obtain ⟨cs, h1, h2, h3⟩ := h
  exact ⟨cs, (hk.block N hN (Array.getElem?_eq_some_iff.1 h1).1).trans h1, h2, h3⟩
/-- the world of FnStepMovesPaceACall between two calls of step: n prices are moved -/
structure PaceSt (D : Two) (w8 wr : World) (KP : Nat → Prop) (N1 N3 lv : Nat) (RA RB : RunV) (n : Nat) : Prop where
  k0 : ∀ k, k < w8.heap.size → KP k
  k1 : KP N1
  k2 : KP (N1 + 1)
  k3 : KP N3
  kp : K.Keep KP w8 wr
  et : PRow wr N1 21 .i32 D.size (fun q => q < D.size) D.eT
  ep : PRow wr (N1 + 1) 21 .i32 D.size (fun q => q < D.size) D.eP
  pa : PRow wr N3 3 .i64 D.na (fun p => p < D.na) (fun x => (D.pos x : Int))
  st : K.StepSt wr KP lv w8.heap.size RA RB D n
section
variable {D : Two} {w8 wr w' : World} {KP : Nat → Prop} {N1 N3 lv : Nat} {RA RB : RunV} {n n' m : Nat}
theorem PaceSt.step (h : PaceSt D w8 wr KP N1 N3 lv RA RB n) (hk : K.Keep KP wr w') (hs : K.StepSt w' KP lv w8.heap.size RA RB D n') : PaceSt D w8 w' KP N1 N3 lv RA RB n' :=
  ⟨h.k0, h.k1, h.k2, h.k3, h.kp.trans hk, h.et.kept hk h.k1, h.ep.kept hk h.k2, h.pa.kept hk h.k3, hs⟩
theorem PaceSt.draw (h : PaceSt D w8 wr KP N1 N3 lv RA RB n) (e : w' = wr.drewN m) : PaceSt D w8 w' KP N1 N3 lv RA RB n := by
  subst e
  exact h.step ((K.Keep.refl _ _).drewN m) (h.st.drewN m)
theorem PaceSt.below (h : PaceSt D w8 wr KP N1 N3 lv RA RB n) : Below w8.heap.size w8 wr := h.kp.below h.k0 (Nat.le_refl _)
end
theorem LevM_draw {w w' : World} {KP : Nat → Prop} {lb rb : Nat} {RA RB : RunV} {mn i j : Int} {ta : Option Addr} {tl tc : Nat} {sa : Option Addr} {sl sc PL : Nat} {gt gs : List Nat} {nt ns : Nat} {ft fs : Nat → Int} {m : Nat} (h : K.LevM w KP lb rb RA RB mn i j ta tl tc sa sl sc PL gt gs nt ns ft fs) (e : w' = w.drewN m) :
    K.LevM w' KP lb rb RA RB mn i j ta tl tc sa sl sc PL gt gs nt ns ft fs := by
  subst e; exact h.drewN m
/-- the start: the level as it was made, then the rows et, ep, posA -/
theorem pace_start {D : Two} {w8 w9 wB : World} {N3 lv : Nat} {RA RB : RunV} {ta : Option Addr} {tc : Nat} {sa : Option Addr} {sc : Nat} (B9 : Below w8.heap.size w8 w9) (L : LevM w9 w8.heap.size lv w8.heap.size RA RB 0 0 0 ta 0 tc sa 0 sc (min 1024 D.size) [] [] 0 0 D.eT (fun p => psum D.eP (p + 1)))
    (hb : Below w9.heap.size w9 wB) (h3 : w9.heap.size ≤ N3)
    (et : PRow wB w9.heap.size 21 .i32 D.size (fun q => q < D.size) D.eT) (ep : PRow wB (w9.heap.size + 1) 21 .i32 D.size (fun q => q < D.size) D.eP) (pa : PRow wB N3 3 .i64 D.na (fun p => p < D.na) (fun x => (D.pos x : Int))) :
    PaceSt D w8 wB (K.Kept w8.heap.size w9.heap.size wB.heap.size) w9.heap.size N3 lv RA RB 0 := by
  refine ⟨fun k hk => .inl hk, .inr ⟨Nat.le_refl _, et.lt⟩, .inr ⟨Nat.le_succ _, ep.lt⟩, .inr ⟨h3, pa.lt⟩, K.Keep.of_below (B9.trans (hb.mono B9.size)), et, ep, pa, ?_⟩
  have := K.toK L hb
  exact ⟨ta, tc, sa, sc, [], [], this⟩
end Go.Proofs.Qxb6601843a
