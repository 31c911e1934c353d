/-
  What a []string that came in gives to the walks.
-/
import Derived.Test.Qxb6602168aSmall
import Derived.OpenShut
import Derived.SliceStrings
namespace Go.Proofs.Qxb6602168a
open Go.RowKit
theorem addr_plain {w : World} {a : Addr} {j : Nat} {u v : Value} (h0 : w.cell? (a.add 0) = some u) (h : w.cell? (a.add j) = some v) : ∃ b off, a = ⟨b, off, none⟩ ∧ w.cell? ⟨b, off + j, none⟩ = some v := by
  obtain ⟨b, off, spot⟩ := a
  have hs := World.cell?_spot h0
  have : spot = none := by simpa [Addr.add] using hs
  subst this
  exact ⟨b, off, rfl, by rw [← Go.WideShapes.add_plain]; exact h⟩
theorem rows_of_trod {H : Type} {enc : TypeId × Value → H} {W : World} {fuel : Nat} {a : Option Addr} {len cap : Nat} {x : DataW H × List MemPlace} (h : DataW.trod enc Try.prog W 0 (fun _ => true) true fuel 22 [.slice a len cap] = some x) :
    ∃ rows : List ByteArray, rows.length = len ∧ (a = none → len = 0 ∧ cap = 0) ∧ SRd W a len (fun i => rows.getD i ByteArray.empty) := by
  rcases Go.ChangeShapes.open_strings Try.underlying22 Try.underlying9 (by kernel_rfl) h with ⟨hcs, _⟩ | ⟨x', l, c, ss, hcs, _, hl, hm, hs, _, hc, _⟩
  · simp at hcs
    obtain ⟨rfl, rfl, rfl⟩ := hcs
    exact ⟨[], rfl, fun _ => ⟨rfl, rfl⟩, fun p hp => absurd hp (Nat.not_lt_zero _)⟩
  · simp at hcs
    obtain ⟨rfl, rfl, rfl⟩ := hcs
    simp at hs
    refine ⟨ss.take len, by rw [List.length_take]; omega, (fun h => nomatch h), fun p hp => ?_⟩
    have h1 := hc p (by omega)
    obtain ⟨b, off, rfl, h2⟩ := addr_plain (hc 0 (by omega)) h1
    refine ⟨b, off, rfl, h2.trans ?_⟩
    simp [List.getD, List.getElem?_take_of_lt hp]
end Go.Proofs.Qxb6602168a
