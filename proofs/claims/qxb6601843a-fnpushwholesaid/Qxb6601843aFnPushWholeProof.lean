/-
  Rows.FnPushWholeSaid: the frame after the guide's shell, turned to these parameters.
-/
import Derived.Test.Qxb6601843aRows
import Derived.Test.Qxb6601843aPushWhole1
import Derived.Test.Qxb6601843aPushWhole2
import Derived.Test.Qxb6601843aFrame2
import Derived.WalkKit
import Derived.ProofKit
import Derived.OpenShut
import Derived.ShutString
import Derived.ChangeOld
import Derived.Below
namespace Go.Proofs.Qxb6601843a.fnPushWhole
open Go.ChangeShapes Go.WideShapes Go.ChangeAt Go.RowKit
set_option linter.unusedVariables false

theorem own : ownKnob Try.prog.godebug = none := by kernel_rfl
theorem laidOut : laidOutB Try.prog = true := by kernel_rfl

set_option maxRecDepth 100000 in
set_option maxHeartbeats 800000 in
theorem walk_long (a1 : Option Addr) (n1 c1 : Nat) (runs : List RowI) (hx1 : runs.length = n1) (hnil1 : a1 = none → n1 = 0 ∧ c1 = 0) (a2 : Option Addr) (n2 c2 : Nat) (spares : List RowI) (hx2 : spares.length = n2) (hnil2 : a2 = none → n2 = 0 ∧ c2 = 0) (mg k tag : Int) (w : World) (hr : RRd w a1 runs) (hs : RRd w a2 spares) (hn : ¬ (n1 ≤ 32768 ∧ n2 ≤ 32768 ∧ 3 * n1 + 3 * n2 ≤ 131072)) :
    Calls Try.prog 7 #[.slice a1 n1 c1, .slice a2 n2 c2, .int .u64 mg, .int .i64 k, .int .i64 tag] w fun e w' => e = .returned (.bool true) ∧ Below w.heap.size w w' := by
  have HX1 : Hid (runs.length = n1) := hx1
  have HX2 : Hid (spares.length = n2) := hx2
  clear hx1 hx2 hnil1 hnil2
  by_cases h1 : n1 ≤ 32768
  · by_cases h2 : n2 ≤ 32768
    · have h3 : ¬ 3 * n1 + 3 * n2 ≤ 131072 := fun h => hn ⟨h1, h2, h⟩
      clear hn
      go_enter Try.func7, Try.ntmps7
      go_wp2_with (go_at_call 38; refine (bytesOk38 a1 a2 n1 c1 n2 c2 runs spares HX1.out HX2.out mg k tag _ hr hs).mono ?_; rintro e w' ⟨⟨b, rfl, hbt⟩, hw⟩; have hw' := hw.symm; clear hw; subst hw'; cases b)
      · go_ret
        exact ⟨rfl, Below.refl _ _⟩
      · go_ret
        exact ⟨rfl, Below.refl _ _⟩
    · clear hn
      go_enter Try.func7, Try.ntmps7
      go_wp2_with (go_at_call 38; refine (bytesOk38 a1 a2 n1 c1 n2 c2 runs spares HX1.out HX2.out mg k tag _ hr hs).mono ?_; rintro e w' ⟨⟨b, rfl, hbt⟩, hw⟩; have hw' := hw.symm; clear hw; subst hw'; cases b)
      · go_ret
        exact ⟨rfl, Below.refl _ _⟩
      · go_ret
        exact ⟨rfl, Below.refl _ _⟩
  · clear hn
    go_enter Try.func7, Try.ntmps7
    go_wp2_with (go_at_call 38; refine (bytesOk38 a1 a2 n1 c1 n2 c2 runs spares HX1.out HX2.out mg k tag _ hr hs).mono ?_; rintro e w' ⟨⟨b, rfl, hbt⟩, hw⟩; have hw' := hw.symm; clear hw; subst hw'; cases b)
    · go_ret
      exact ⟨rfl, Below.refl _ _⟩
    · go_ret
      exact ⟨rfl, Below.refl _ _⟩

theorem walk (a1 : Option Addr) (n1 c1 : Nat) (runs : List RowI) (hx1 : runs.length = n1) (hnil1 : a1 = none → n1 = 0 ∧ c1 = 0) (a2 : Option Addr) (n2 c2 : Nat) (spares : List RowI) (hx2 : spares.length = n2) (hnil2 : a2 = none → n2 = 0 ∧ c2 = 0) (mg k tag : Int) (w : World) (hr : RRd w a1 runs) (hs : RRd w a2 spares) :
    Calls Try.prog 7 #[.slice a1 n1 c1, .slice a2 n2 c2, .int .u64 mg, .int .i64 k, .int .i64 tag] w fun e w' => e = .returned (.bool true) ∧ Below w.heap.size w w' := by
  by_cases hn : n1 ≤ 32768 ∧ n2 ≤ 32768 ∧ 3 * n1 + 3 * n2 ≤ 131072
  · by_cases hL : n1 < n2
    · exact pushWhole_main2 a1 a2 n1 c1 n2 c2 runs spares hx1 hx2 hnil1 hnil2 mg k tag w hr hs hn.1 hn.2.1 hn.2.2 hL
    · exact pushWhole_main1 a1 a2 n1 c1 n2 c2 runs spares hx1 hx2 hnil1 hnil2 mg k tag w hr hs hn.1 hn.2.1 hn.2.2 hL
  · exact walk_long a1 n1 c1 runs hx1 hnil1 a2 n2 c2 spares hx2 hnil2 mg k tag w hr hs hn

set_option maxRecDepth 100000 in
theorem lifted (os : Os) (started : os.Started) (H : Type) (enc : TypeId × Value → H) :
    ReturnsInHanded {} Try.checked os 7 .any (Rows.fnPushWholeSpec.pre6 enc Try.prog Try.f7 Rows.fnPushWholeRow.domain false) (Rows.fnPushWholeSpec.post enc Try.prog Try.f7 false true false false) := by
  refine returnsInHanded_of_change (C := Try.checked) own started (by kernel_rfl) Try.func7
    (ChangeSpec.witness6 (enc := enc) (C := Try.checked) false ⟨#[], #[.slice none 0 0, .slice none 0 0, .int .u64 0, .int .i64 0, .int .i64 0], []⟩ 8 (by kernel_rfl) (by kernel_rfl) (by kernel_rfl) (by kernel_rfl)) ?_
  intro W base args ds gs before hval0 hW hcnd _
  have hval : ∀ (j : Nat) t v, Try.f7.params[j]? = some t → args[j]? = some v → Value.okWide Try.prog W .any base t v := hval0
  have hW' := hW
  obtain ⟨p, q, hA0, hV, rfl, hfz, hnd⟩ := hW
  have hA : DataW.TrodAll enc Try.prog W 0 (fun _ => true) true Try.f7.params.toList args.toList ds p := hA0
  rw [Try.params7] at hA hval
  obtain ⟨v0, vs0, d0, ds0, p0, q0, hargs, rfl, rfl, h0, r0⟩ := trodAll_cons hA
  obtain ⟨v1, vs1, d1, ds1, p1, q1, rfl, rfl, rfl, h1, r1⟩ := trodAll_cons r0
  obtain ⟨v2, vs2, d2, ds2, p2, q2, rfl, rfl, rfl, h2, r2⟩ := trodAll_cons r1
  obtain ⟨v3, vs3, d3, ds3, p3, q3, rfl, rfl, rfl, h3, r3⟩ := trodAll_cons r2
  obtain ⟨v4, vs4, d4, ds4, p4, q4, rfl, rfl, rfl, h4, r4⟩ := trodAll_cons r3
  obtain ⟨rfl, rfl, rfl⟩ := trodAll_nil r4
  obtain rfl : args = #[v0, v1, v2, v3, v4] := by cases args; simp_all
  obtain ⟨rfl, rfl⟩ := trodVars_none hV
  obtain ⟨a0, len0, cap0, rfl⟩ := okWide_slice Try.underlying46 (hval 0 46 v0 rfl rfl)
  have k0 := h0
  have lt0 : ∀ x ∈ p0, x.block < W.heap.size := by obtain ⟨m, hm⟩ := k0; exact DataW.trod_lt m _ _ _ hm
  obtain ⟨rows0, e0, n0, w0⟩ : ∃ rows : List RowI, rows.length = len0 ∧ (a0 = none → len0 = 0 ∧ cap0 = 0) ∧ RRd W a0 rows := by
    obtain ⟨fuel, hf⟩ := h0
    exact rows_of_trod hf
  obtain ⟨a1, len1, cap1, rfl⟩ := okWide_slice Try.underlying46 (hval 1 46 v1 rfl rfl)
  have k1 := h1
  have lt1 : ∀ x ∈ p1, x.block < W.heap.size := by obtain ⟨m, hm⟩ := k1; exact DataW.trod_lt m _ _ _ hm
  obtain ⟨rows1, e1, n1, w1⟩ : ∃ rows : List RowI, rows.length = len1 ∧ (a1 = none → len1 = 0 ∧ cap1 = 0) ∧ RRd W a1 rows := by
    obtain ⟨fuel, hf⟩ := h1
    exact rows_of_trod hf
  obtain ⟨a2, rfl, rfl, rfl, w2⟩ := open_int Try.underlying51 (hval 2 51 v2 rfl rfl) h2
  obtain ⟨a3, rfl, rfl, rfl, w3⟩ := open_int Try.underlying3 (hval 3 3 v3 rfl rfl) h3
  obtain ⟨a4, rfl, rfl, rfl, w4⟩ := open_int Try.underlying3 (hval 4 3 v4 rfl rfl) h4
  clear hA0 hval0
  refine (walk a0 len0 cap0 rows0 e0 n0 a1 len1 cap1 rows1 e1 n1 a2 a3 a4 W w0 w1).mono fun e W' ⟨he, bel⟩ => ?_
  subst he
  exact ⟨_, rfl, _, _, _, [], _, [], hW', trodAll_mk1 (shut_bool Try.underlying4 _), (trodAll_cons_mk (Below.trod laidOut (by kernel_rfl) (of_decide_eq_true (by kernel_rfl)) k0 bel lt0) (trodAll_cons_mk (Below.trod laidOut (by kernel_rfl) (of_decide_eq_true (by kernel_rfl)) k1 bel lt1) (trodAll_cons_mk (shut_int Try.underlying51 w2) (trodAll_cons_mk (shut_int Try.underlying3 w3) (trodAll_cons_mk (shut_int Try.underlying3 w4) trodAll_mk0))))), rfl, bel.frame _, fun h => by cases h⟩

theorem over : Rows.fnPushWholeRow.holds Try.pinned (OpenSpec.ofChange Rows.fnPushWholeSpec) :=
  OpenClaim.holds_of_wide 7 Try.f7 rfl rfl rfl rfl rfl rfl rfl ⟨rfl, rfl, rfl, rfl, rfl⟩ rfl rfl rfl rfl rfl (by kernel_rfl) Try.func7 (by kernel_rfl)
    (of_decide_eq_true (by kernel_rfl)) (by unfold Func.isWrapper; first | (rw [if_pos (by decide +kernel)]; kernel_rfl) | (rw [if_neg (by decide +kernel)]; exact ⟨rfl, rfl⟩))
    (fun os started H enc _ => lifted os started H enc)

theorem proved : Rows.FnPushWholeSaid := over
#print axioms proved
end Go.Proofs.Qxb6601843a.fnPushWhole
