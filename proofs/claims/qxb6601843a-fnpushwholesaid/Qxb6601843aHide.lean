import Derived.Test.Qxb6601843aPushShape
namespace Go.Proofs.Qxb6601843a
open Go.RowKit
theorem hide {p : Prop} (h : p) : Hid p := h
theorem unhide {p : Prop} (h : Hid p) : p := h
theorem RRd.below' {w1 w2 w' : World} {a : Option Addr} {rows : List RowI} (h : RRd w1 a rows) (h2 : Below w1.heap.size w1 w2) {B : Nat} (hb : Below B w2 w') (hB : w2.heap.size = B) : RRd w' a rows :=
  (h.below h2).below (by rw [hB]; exact hb)
end Go.Proofs.Qxb6601843a
