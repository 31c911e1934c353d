/-
  What a [][]int that came in gives to the walks.
-/
import Derived.Test.Qxb6601843aShape
import Derived.OpenShut
import Derived.Deep.Matrix
namespace Go.Proofs.Qxb6601843a
open Go.RowKit Go.Deep
theorem addr_plain {w : World} {a : Addr} {j : Nat} {u v : Value} (h0 : w.cell? (a.add 0) = some u) (h : w.cell? (a.add j) = some v) : ∃ b off, a = ⟨b, off, none⟩ ∧ w.cell? ⟨b, off + j, none⟩ = some v := by
  obtain ⟨b, off, spot⟩ := a
  have hs := World.cell?_spot h0
  have : spot = none := by simpa [Addr.add] using hs
  subst this
  exact ⟨b, off, rfl, by rw [← Go.WideShapes.add_plain]; exact h⟩
theorem rows_of_trod {H : Type} {enc : TypeId × Value → H} {W : World} {fuel : Nat} {a : Option Addr} {len cap : Nat} {x : DataW H × List MemPlace} (h : DataW.trod enc Try.prog W 0 (fun _ => true) true fuel 46 [.slice a len cap] = some x) :
    ∃ rows : List RowI, rows.length = len ∧ (a = none → len = 0 ∧ cap = 0) ∧ RRd W a rows := by
  rcases open_int_rows Try.underlying46 Try.underlying42 Try.underlying3 (by kernel_rfl) (by kernel_rfl) h with ⟨hcs, _⟩ | ⟨x', l, c, A, L, C, Z, hcs, _, hl, hm, _, hr⟩
  · simp at hcs
    obtain ⟨rfl, rfl, rfl⟩ := hcs
    exact ⟨[], rfl, fun _ => ⟨rfl, rfl⟩, Rd.nil _ _, fun r hr => by simp at hr⟩
  · simp at hcs
    obtain ⟨rfl, rfl, rfl⟩ := hcs
    have hlen : ∀ r, r < len → ((Z r).take (L r)).length = L r := fun r hr' => by
      obtain ⟨_, h1, _, h2, _⟩ := hr r (by omega)
      rw [List.length_take]; omega
    refine ⟨(List.range len).map fun r => ⟨A r, C r, (Z r).take (L r)⟩, by simp, (fun h => nomatch h), ?_, ?_⟩
    · intro j v hv
      have hj : j < len := by
        have := (List.getElem?_eq_some_iff.1 hv).1
        simpa using this
      obtain ⟨hc, _⟩ := hr j (by omega)
      obtain ⟨b, off, rfl, hc'⟩ := addr_plain (hr 0 (by omega)).1 hc
      refine ⟨b, off, rfl, hc'.trans ?_⟩
      rw [← hv]
      simp [hj, RowI.val, hlen j hj]
    · intro r hr'
      obtain ⟨j, hj, rfl⟩ := List.mem_map.1 hr'
      have hj' : j < len := by simpa using hj
      obtain ⟨_, h1, h2, h3, h4, h5, h6⟩ := hr j (by omega)
      refine ⟨?_, (fun ha => ?_), by show ((Z j).take (L j)).length ≤ C j; rw [hlen j hj']; exact h1⟩
      · intro i v hv
        have hi : i < L j := by
          have := (List.getElem?_eq_some_iff.1 hv).1
          simp at this; omega
        cases hA : A j with
        | none => have := h5 hA; omega
        | some a' =>
          obtain ⟨_, hc⟩ := h6 a' hA
          obtain ⟨b, off, rfl, hc'⟩ := addr_plain (hc 0 (by omega)) (hc i (by omega))
          refine ⟨b, off, rfl, hc'.trans ?_⟩
          rw [← hv, ints_get .i64 ((Z j).take (L j)) i (by rw [hlen j hj']; exact hi)]
          simp [List.getD, List.getElem?_eq_getElem (show i < (Z j).length by omega)]
      · have := h5 ha
        refine ⟨?_, this⟩
        show (Z j).take (L j) = []
        have : (Z j).length = 0 := by omega
        rw [List.length_eq_zero_iff.1 this]; simp
end Go.Proofs.Qxb6601843a
