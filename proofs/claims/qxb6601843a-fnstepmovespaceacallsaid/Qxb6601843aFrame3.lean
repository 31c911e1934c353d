/-
  What a []int32 that came in gives to the walks.
-/
import Derived.Test.Qxb6601843aPieces
import Derived.WideShapes
namespace Go.Proofs.Qxb6601843a
open Go.RowKit
theorem addr_plain32 {w : World} {a : Addr} {j : Nat} {u v : Value} (h0 : w.cell? (a.add 0) = some u) (h : w.cell? (a.add j) = some v) : ∃ b off, a = ⟨b, off, none⟩ ∧ w.cell? ⟨b, off + j, none⟩ = some v := by
  obtain ⟨b, off, spot⟩ := a
  have hs := World.cell?_spot h0
  have : spot = none := by simpa [Addr.add] using hs
  subst this
  exact ⟨b, off, rfl, by rw [← Go.WideShapes.add_plain]; exact h⟩
theorem row32 {w : World} {a : Option Addr} {len cap : Nat} {zs : List Int} (h : (a = none ∧ len = 0 ∧ cap = 0 ∧ zs = []) ∨
  ∃ x, a = some x ∧ len ≤ cap ∧ cap ≤ maxLen ∧ zs.length = cap ∧ (∀ i, i < zs.length → w.cell? (x.add i) = some (.int .i32 (zs.getD i 0))) ∧ ∀ n ∈ zs, (Lit.int .i32 n).wf = true) :
    FRd w a .i32 len (fun p => zs.getD p 0) ∧ (a = none → len = 0 ∧ cap = 0) ∧ ∀ p, p < len → -2147483648 ≤ zs.getD p 0 ∧ zs.getD p 0 ≤ 2147483647 := by
  rcases h with ⟨rfl, rfl, rfl, rfl⟩ | ⟨x, rfl, h1, h2, h3, h4, h5⟩
  · exact ⟨fun p hp => absurd hp (Nat.not_lt_zero _), fun _ => ⟨rfl, rfl⟩, fun p hp => absurd hp (Nat.not_lt_zero _)⟩
  · refine ⟨fun p hp => ?_, (fun e => nomatch e), fun p hp => ?_⟩
    · obtain ⟨b, off, rfl, hc⟩ := addr_plain32 (h4 0 (by omega)) (h4 p (by omega))
      exact ⟨b, off, rfl, hc⟩
    · have hlt : p < zs.length := by omega
      have e : zs.getD p 0 = zs[p] := by simp [List.getD, hlt]
      have hw := h5 zs[p] (List.getElem_mem hlt)
      rw [e]
      simp only [Lit.wf, Bool.and_eq_true, decide_eq_true_eq] at hw
      have m1 : IntKind.i32.min = -2147483648 := by decide
      have m2 : IntKind.i32.max = 2147483647 := by decide
      rw [m1, m2] at hw
      exact hw
end Go.Proofs.Qxb6601843a
