import Derived.Test.Qxb6602168aSmall
import Derived.Lib.SlBytesConst
namespace Go.Proofs.Qxb6602168a
open Go.RowKit
def appRun (P : Program) (t u ty : TypeId) (s x : Value) (w : World) : Result Value := (Builtin.append_ #[t, u] ty #[s, x]).run P w
theorem wp_app {P : Program} {dst : Option Tmp} {s x : Operand} {t u ty : TypeId} {pos : String} {after : Array Edge} {guard : Option (Nat × Bool)} {A : Act} {w : World} {K : Act → World → Prop} {Q : Exit → Act → World → Prop} :
    Oper.wp P ⟨dst, Op.call ⟨.builtin .append, #[s, x], #[t, u]⟩, ty, pos, after, guard⟩ A w K Q =
      Oper.upon P ⟨dst, Op.call ⟨.builtin .append, #[s, x], #[t, u]⟩, ty, pos, after, guard⟩ A K Q ((appRun P t u ty (A.eval s) (A.eval x) w).andThen fun v w' => .ok (.value v) w') := by
  unfold Oper.wp execOp appRun
  simp only [resolve, invoke, builtin, Sem.run_bind, Sem.run_pure, Result.andThen_ok, List.map_toArray, List.map_cons, List.map_nil]
def mkS (x : Bs) : ByteArray := ⟨x.toArray⟩
theorem bs_mkS (x : Bs) : bs (mkS x) = x := rfl
theorem mkS_size (x : Bs) : (mkS x).size = x.length := by rw [← bs_len]; rfl
def bcells (x : Bs) : List Value := x.map fun b => Value.int .u8 b.toNat
theorem bcells_len (x : Bs) : (bcells x).length = x.length := List.length_map _
theorem strCells_bs (s : ByteArray) : Lib.strCells s = bcells (bs s) := rfl
/-- a slice of bytes that the call owns -/
def BOwn (w : World) (base : Nat) (v : Value) (x : Bs) : Prop := w.ownsRow base 5 1 v x.length (bcells x)
/-- a slice of strings that the call owns -/
def TOwn (w : World) (base : Nat) (v : Value) (ss : List Bs) : Prop := w.ownsRow base 9 1 v ss.length (ss.map fun x => Value.string (mkS x))
theorem Try.info5 : (Try.prog.info? 5).map (fun i => (i.zero, i.size, i.bytes)) = some (some (.int .u8 0), 1, 1) := by kernel_rfl
theorem take_own {w : World} {base e g n cap : Nat} {xs : List Value} (h : w.ownsRow base e 1 (.slice (some ⟨g, 0, none⟩) n cap) n xs) {k : Nat} (hk : k ≤ n) : w.ownsRow base e 1 (.slice (some ⟨g, 0, none⟩) k cap) k (xs.take k) := by
  obtain ⟨h1, h2⟩ := h
  rcases h2 with ⟨h2, _⟩ | ⟨g', cap', cur, hv, hb, hh, hn, hm, hs, ht⟩
  · cases h2
  · cases hv
    refine ⟨by rw [List.length_take]; omega, .inr ⟨g, cap, cur, rfl, hb, hh, by omega, hm, hs, ?_⟩⟩
    rw [← ht, List.take_take]
    congr 1
    omega
section
variable {w w' : World} {base : Nat} {v : Value} {x : Bs} {ss : List Bs}
theorem own_ne {e e' : TypeId} {v v' : Value} {n n' : Nat} {xs xs' : List Value} {base base' : Nat} (h : w.ownsRow base e 1 v n xs) (h' : w.ownsRow base' e' 1 v' n' xs') (he : e ≠ e') : v.ownBlock = none ∨ v.ownBlock ≠ v'.ownBlock := by
  rcases h.2 with ⟨rfl, _⟩ | ⟨g, cap, cur, rfl, _, hh, _⟩
  · left; rfl
  · right
    rcases h'.2 with ⟨rfl, _⟩ | ⟨g', cap', cur', rfl, _, hh', _⟩
    · simp [Value.ownBlock]
    · intro e1
      have : g = g' := by simpa [Value.ownBlock] using e1
      subst this
      rw [hh] at hh'
      simp at hh'
      exact he hh'.2
theorem own_below {e n : Nat} {xs : List Value} (h : w.ownsRow base e 1 v n xs) (hb : Below w.heap.size w w') : w'.ownsRow base e 1 v n xs := by
  refine ⟨h.1, ?_⟩
  rcases h.2 with h2 | ⟨g, cap, cur, hv, h3, hh, h4⟩
  · exact .inl h2
  · exact .inr ⟨g, cap, cur, hv, h3, (hb.block g (Array.getElem?_eq_some_iff.1 hh).1).trans hh, h4⟩
theorem below_grownO {B : Nat} {o : Option Nat} {a b : World} (h : a.grownBy b o) (hB : ∀ N, o = some N → B ≤ N) (hs : B ≤ a.heap.size) : Below B a b :=
  ⟨h.os, h.tape, h.output, h.size, fun k hk => h.block k (by omega) (fun e => by have := hB k e.symm; omega)⟩
/-- append(b, s...) -/
theorem app_str (h : BOwn w base v x) (s : ByteArray) (hl : x.length + s.size ≤ 100000000) (hx : 0 < x.length + s.size) (hb : base ≤ w.heap.size) :
    ∃ g cap w', appRun Try.prog 28 9 28 v (.string s) w = .ok (.slice (some ⟨g, 0, none⟩) (x.length + s.size) cap) w' ∧ BOwn w' base (.slice (some ⟨g, 0, none⟩) (x.length + s.size) cap) (x ++ bs s) ∧ w.grownBy w' v.ownBlock := by
  obtain ⟨i, hi, hz0, hz1, hz2⟩ := info_parts Try.info5
  obtain ⟨v', w', h1, h2, h3, _⟩ := Lib.run_append_own_string (P := Try.prog) w base 28 9 28 5 i Try.underlying28 Try.underlying9 hi hz0 hz1 hz2 v x.length (bcells x) h s (by simp only [maxLen]; omega) (by omega) hb
  have h2' := h2
  rcases h2.2 with ⟨_, h4⟩ | ⟨g, cap, cur, rfl, _⟩
  · omega
  · refine ⟨g, cap, w', h1, ?_, h3⟩
    unfold BOwn
    rw [strCells_bs] at h2'
    rw [show (x ++ bs s).length = x.length + s.size by rw [List.length_append, bs_len], show bcells (x ++ bs s) = bcells x ++ bcells (bs s) by simp [bcells]]
    exact h2'
/-- string(b) -/
theorem conv_own {g n cap : Nat} (h : BOwn w base (.slice (some ⟨g, 0, none⟩) n cap) x) (hn : x.length = n) : (convert 28 9 (.slice (some ⟨g, 0, none⟩) n cap)).run Try.prog w = .ok (.string (mkS x)) w := by
  have hc := h.cells (g := g) rfl
  have := run_convert_bytes_arg (P := Try.prog) w 28 5 Try.underlying28 Try.underlying5 g 0 n cap (x.map fun b => (b.toNat : Int)) (by simpa using hn) (fun i hi => by
    have := hc i (.int .u8 ((x.map fun b => (b.toNat : Int)).getD i 0)) (by
      have hl : i < x.length := by omega
      simp [bcells, hl, List.getD])
    rw [Nat.zero_add]
    have e : (⟨g, 0, none⟩ : Addr).add i = ⟨g, i, none⟩ := by unfold Addr.add; split <;> simp_all
    rw [← e]; exact this) 9 Try.underlying9
  rw [this]
  congr 2
  unfold strOfNums mkS
  congr 1
  rw [List.map_map, show ((fun n : Int => UInt8.ofNat n.toNat) ∘ fun b : UInt8 => (b.toNat : Int)) = id by funext b; simp, List.map_id]
end
def head : Bs := [82, 69, 78, 65, 77, 69, 32, 84, 65, 66, 76, 69, 32]
/-- the row of []byte("RENAME TABLE "), as it is made -/
def Marked (w : World) (base : Nat) (v : Value) : Prop := ∃ g, v = .slice (some ⟨g, 0, none⟩) 13 13 ∧ base ≤ g ∧ w.heap[g]? = some (.cells (bcells head).toArray 5 (13, 14))
theorem app_marked {w : World} {base : Nat} {v : Value} (h : Marked w base v) (s : ByteArray) (hl : s.size ≤ 10000000) (hx : 0 < s.size) (hb : base ≤ w.heap.size) :
    ∃ g cap w', appRun Try.prog 28 9 28 v (.string s) w = .ok (.slice (some ⟨g, 0, none⟩) (13 + s.size) cap) w' ∧ BOwn w' base (.slice (some ⟨g, 0, none⟩) (13 + s.size) cap) (head ++ bs s) ∧ w.grownBy w' v.ownBlock := by
  obtain ⟨g, rfl, hbg, hg⟩ := h
  obtain ⟨i, hi, hz0, hz1, hz2⟩ := info_parts Try.info5
  have hr := Lib.run_append_grow_string (P := Try.prog) w 28 9 28 5 i (.int .u8 0) Try.underlying28 Try.underlying9 hi hz0 ⟨g, 0, none⟩ 13 13 (bcells head) (by rw [hz1]; rfl) (fun j u hj => by
    have e : (⟨g, 0, none⟩ : Addr).add j = ⟨g, j, none⟩ := by unfold Addr.add; split <;> simp_all
    rw [e, cell_of_row w g j _ _ _ hg]
    simpa using hj) s (by omega) (by omega) (by rw [hz2]; exact growslice_fits (by omega) (by omega))
  have hge := grownCap_ge w (13 + s.size) 13 5
  have hcm : grownCap w (13 + s.size) 13 5 ≤ maxLen := grownCap_le_maxLen w (13 + s.size) 13 5 (by simp only [maxLen]; omega)
  have hlen : (bcells head ++ Lib.strCells s).length = (13 + s.size) * 1 := by rw [List.length_append, Lib.strCells_length, Nat.mul_one]; rfl
  refine ⟨_, _, _, hr, ?_, ⟨rfl, rfl, rfl, by simp, fun k hk _ => heap_alloc_old w.drew _ hk⟩⟩
  unfold BOwn
  rw [show (head ++ bs s).length = 13 + s.size by rw [List.length_append, bs_len]; rfl, show bcells (head ++ bs s) = bcells head ++ Lib.strCells s by rw [strCells_bs]; simp [bcells]]
  refine ⟨hlen, .inr ⟨w.heap.size, _, _, rfl, hb, heap_alloc_new w.drew _, hge, hcm, ?_, ?_⟩⟩
  · have hz1 : (Value.int IntKind.u8 0).cells.size = 1 := rfl
    have hh : (bcells head).length = 13 := rfl
    simp only [Array.size_append, List.size_toArray, size_zeroCells, hz1, hh, Lib.strCells_length]
    omega
  · simp only [Array.toList_append, List.append_assoc]
    rw [← List.append_assoc, ← hlen]
    exact List.take_left
/-- q, as renames carries it -/
def QOwn (w : World) (base : Nat) (v : Value) (b : Bs) : Prop := BOwn w base v (head ++ b) ∨ (b = [] ∧ Marked w base v)
theorem QOwn.form {w : World} {base : Nat} {v : Value} {b : Bs} (h : QOwn w base v b) : ∃ g cap, v = .slice (some ⟨g, 0, none⟩) (13 + b.length) cap ∧ base ≤ g ∧ g < w.heap.size ∧ 13 ≤ cap := by
  rcases h with h | ⟨rfl, g, rfl, h1, h2⟩
  · have hl : (head ++ b).length = 13 + b.length := by rw [List.length_append]; rfl
    unfold BOwn at h
    rw [hl] at h
    rcases h.2 with ⟨_, h1⟩ | ⟨g, cap, cur, rfl, h1, h2, h3, _⟩
    · omega
    · exact ⟨g, cap, rfl, h1, (Array.getElem?_eq_some_iff.1 h2).1, by omega⟩
  · exact ⟨g, 13, rfl, h1, (Array.getElem?_eq_some_iff.1 h2).1, Nat.le_refl _⟩
theorem QOwn.full {w : World} {base : Nat} {v : Value} {b : Bs} (h : QOwn w base v b) (hb : 0 < b.length) : BOwn w base v (head ++ b) := by
  rcases h with h | ⟨rfl, _⟩
  · exact h
  · simp at hb
theorem pre_psz (S : Nat → ByteArray) : ∀ k, pre (fun i => bs (S i)) k = psz S k
  | 0 => rfl
  | k + 1 => by simp only [pre, psz, pre_psz S k, bs_len]
theorem psz_mono (S : Nat → ByteArray) {i j : Nat} (h : i ≤ j) : psz S i ≤ psz S j := by
  rw [← pre_psz, ← pre_psz]; exact pre_mono _ h
theorem gst_len (lim : Int) (m : Nat → Bs) : ∀ k, (gst lim m k).b.length ≤ pre m k + 2 * k ∧ (gst lim m k).ss.length ≤ k
  | 0 => ⟨Nat.zero_le _, Nat.zero_le _⟩
  | k + 1 => by
    have h := gst_len lim m k
    simp only [gst, St.step, pre]
    split
    · simp; omega
    · split
      · simp [sep]; omega
      · simp; omega
/-- append(ss, x) -/
theorem app_one {w : World} {base : Nat} {v : Value} {ss : List Bs} (h : TOwn w base v ss) (x : Bs) (hl : ss.length ≤ 1000000) (hb : base ≤ w.heap.size) :
    ∃ g cap w', appRun Try.prog 22 22 22 v (.slice (some ⟨w.heap.size, 0, none⟩) 1 1) (w.alloc (Obj.cells #[.string (mkS x)] 9)) = .ok (.slice (some ⟨g, 0, none⟩) (ss.length + 1) cap) w' ∧
      TOwn w' base (.slice (some ⟨g, 0, none⟩) (ss.length + 1) cap) (ss ++ [x]) ∧ (w.alloc (Obj.cells #[.string (mkS x)] 9)).grownBy w' v.ownBlock := by
  obtain ⟨i, hi, hz0, hz1, hz2⟩ := info_parts Try.info9
  obtain ⟨g, cap, w', h1, h2, h3, _⟩ := run_append_lies (P := Try.prog) (w.alloc (Obj.cells #[.string (mkS x)] 9)) 22 22 base 9 i _ 1 16 Try.underlying22 hi hz0 hz1 hz2 rfl (by omega) v ss.length _ (h.alloc _) ⟨w.heap.size, 0, none⟩ 1 1 [.string (mkS x)] rfl
    (fun j u hj => by
      have : j = 0 := by
        have := (List.getElem?_eq_some_iff.1 hj).1
        simpa using this
      subst this
      have e : (⟨w.heap.size, 0, none⟩ : Addr).add 0 = ⟨w.heap.size, 0, none⟩ := by simp [Addr.add]
      rw [e, cell_of_row _ _ 0 _ _ _ (heap_alloc_new w _)]
      simpa using hj)
    (by intro u hu; simp at hu; subst hu; rfl) (by omega) (by simp only [maxLen]; omega) (by omega) (by simp; omega) _ rfl
  refine ⟨g, cap, w', h1, ?_, h3⟩
  unfold TOwn
  rw [List.length_append, List.map_append]
  exact h2
theorem q_cut {w : World} {base g cap : Nat} {b : Bs} (h : BOwn w base (.slice (some ⟨g, 0, none⟩) (13 + b.length) cap) (head ++ b)) : BOwn w base (.slice (some ⟨g, 0, none⟩) 13 cap) head := by
  unfold BOwn at *
  have e : (head ++ b).length = 13 + b.length := by rw [List.length_append]; rfl
  rw [e] at h
  have := take_own h (show 13 ≤ 13 + b.length by omega)
  have e2 : (bcells (head ++ b)).take 13 = bcells head := by simp [bcells, head]
  rw [e2] at this
  exact this
theorem step_full {lim : Int} {ss : List Bs} {bd : Bs} {s : ByteArray} (hb : 0 < bd.length) (hf : lim < ((13 + bd.length : Nat) : Int) + 2 + (s.size : Int)) : St.step lim ⟨ss, bd⟩ (bs s) = ⟨ss ++ [bd], bs s⟩ := by
  unfold St.step
  rw [if_pos]
  simp only [St.full, Bool.and_eq_true, decide_eq_true_eq, bs_len]
  exact ⟨hb, by omega⟩
theorem step_more {lim : Int} {ss : List Bs} {bd : Bs} {s : ByteArray} (hb : 0 < bd.length) (hf : ¬ lim < ((13 + bd.length : Nat) : Int) + 2 + (s.size : Int)) : St.step lim ⟨ss, bd⟩ (bs s) = ⟨ss, bd ++ sep ++ bs s⟩ := by
  unfold St.step
  rw [if_neg, if_pos hb]
  simp only [St.full, Bool.and_eq_true, decide_eq_true_eq, bs_len]
  rintro ⟨_, h⟩
  omega
theorem step_first {lim : Int} {ss : List Bs} {bd : Bs} {s : ByteArray} (hb : ¬ 0 < bd.length) : St.step lim ⟨ss, bd⟩ (bs s) = ⟨ss, bs s⟩ := by
  unfold St.step
  rw [if_neg, if_neg hb]
  simp only [St.full, Bool.and_eq_true, decide_eq_true_eq]
  rintro ⟨h, _⟩
  exact hb h
theorem app_first {w : World} {base : Nat} {v : Value} (h : QOwn w base v []) (s : ByteArray) (hl : s.size ≤ 10000000) (hx : 0 < s.size) (hb : base ≤ w.heap.size) :
    ∃ g cap w', appRun Try.prog 28 9 28 v (.string s) w = .ok (.slice (some ⟨g, 0, none⟩) (13 + s.size) cap) w' ∧ BOwn w' base (.slice (some ⟨g, 0, none⟩) (13 + s.size) cap) (head ++ bs s) ∧ w.grownBy w' v.ownBlock := by
  rcases h with h | ⟨_, h⟩
  · rw [List.append_nil] at h
    exact app_str h s (by show 13 + _ ≤ _; omega) (by omega) hb
  · exact app_marked h s hl hx hb
theorem QOwn.own_ne {w : World} {base : Nat} {v v5 : Value} {b : Bs} {ss : List Bs} (h : QOwn w base v b) (ht : TOwn w base v5 ss) : v5.ownBlock = none ∨ v5.ownBlock ≠ v.ownBlock := by
  rcases h with h | ⟨_, g, rfl, _, hg⟩
  · exact Qxb6602168a.own_ne ht h (by decide)
  · rcases ht.2 with ⟨rfl, _⟩ | ⟨g', cap, cur, rfl, _, hh, _⟩
    · left; rfl
    · right
      intro e1
      have : g' = g := by simpa [Value.ownBlock] using e1
      subst this
      rw [hh] at hg
      simp at hg
theorem QOwn.lt {w : World} {base : Nat} {v : Value} {b : Bs} (h : QOwn w base v b) : ∀ N, v.ownBlock = some N → base ≤ N := by
  intro N hN
  obtain ⟨g, cap, rfl, h1, _⟩ := h.form
  simp [Value.ownBlock] at hN
  omega
structure RenSt (w wr : World) (lim : Int) (m : Nat → Bs) (k : Nat) (v5 v6 : Value) : Prop where
  t : TOwn wr w.heap.size v5 ((gst lim m k).ss.map (head ++ ·))
  q : QOwn wr w.heap.size v6 (gst lim m k).b
  bl : Below w.heap.size w wr
attribute [local go_sem ↓] wp_app
set_option maxHeartbeats 2000000 in
set_option maxRecDepth 20000 in
theorem ren_any (a : Option Addr) (n c : Nat) (S : Nat → ByteArray) (lim : Int) (w : World) (hr : SRd w a n S) (hn : n ≤ 65536) (hp : psz S n ≤ 1048576) (hne : ∀ i, i < n → 0 < (S i).size) :
    Calls Try.prog 14 #[.slice a n c, .int .i64 lim] w fun e w' => ∃ v, e = .returned v ∧ TOwn w' w.heap.size v ((gst lim (fun i => bs (S i)) n).out.map (head ++ ·)) ∧ Below w.heap.size w w' := by
  have HNE := hideE hne
  clear hne
  have hcv := fun (w : World) (C : Array Value) (n c : Nat) => Lib.run_convert_bytes_const (P := Try.prog) w 28 5 C n c Try.underlying28 Try.underlying5
  have R0 : Hid (RenSt w (w.alloc (Obj.cells (bcells head).toArray 5 (13, 14))) lim (fun i => bs (S i)) 0 (.slice none 0 0) (.slice (some ⟨w.heap.size, 0, none⟩) 13 13)) :=
    ⟨World.ownsRow_nil _ _ _ _, .inr ⟨rfl, w.heap.size, rfl, Nat.le_refl _, heap_alloc_new w _⟩, (Below.refl _ _).alloc (Nat.le_refl _) _⟩
  go_enter Try.func14, Try.ntmps14
  go_wp2_with fail
  go_loopw [5, 6, 13] (fun v5 v6 i wr => ∃ k : Nat, k ≤ n ∧ i = .int .i64 k ∧ RenSt w wr lim (fun i => bs (S i)) k v5 v6) (fun _ _ i _ => n - (intOf i).toNat)
  case atStart => exact ⟨0, Nat.zero_le _, rfl, R0.out⟩
  case round =>
    clear R0 hcv
    obtain ⟨k, hk, rfl, R⟩ := hrel
    by_cases hlt : k < n
    · obtain ⟨b, off, ea, hbw, hc⟩ := hr.at hlt
      subst ea
      have hcell : wr.cell? ⟨b, off + k, none⟩ = some (.string (S k)) := (R.bl.cell (p := ⟨b, off + k, none⟩) hbw).trans (hc k hlt)
      clear hc
      obtain ⟨gl1, gl2⟩ := gst_len lim (fun i => bs (S i)) k
      have hpk := psz_mono S (show k + 1 ≤ n by omega)
      rw [pre_psz] at gl1
      simp only [psz] at hpk
      have HG : Hid (gst lim (fun i => bs (S i)) (k + 1) = (gst lim (fun i => bs (S i)) k).step lim (bs (S k))) := rfl
      obtain ⟨rt, rq, rb⟩ := R
      generalize hbase : w.heap.size = base at rt rq
      generalize gst lim (fun i => bs (S i)) k = st at *
      obtain ⟨ss, bd⟩ := st
      dsimp only at rt rq gl1 gl2
      obtain ⟨g, cap, rfl, hgb, hgl, hcap⟩ := rq.form
      have hcell5 : ∃ a5 c5, u5 = .slice a5 ss.length c5 := by
        rcases rt.2 with ⟨rfl, h0⟩ | ⟨g5, c5, cur, rfl, _⟩
        · exact ⟨none, 0, by simp at h0; simp [h0]⟩
        · exact ⟨some ⟨g5, 0, none⟩, c5, by simp⟩
      obtain ⟨a5, c5, rfl⟩ := hcell5
      have hbd : base ≤ wr.heap.size := by subst hbase; exact rb.size
      by_cases hb0 : 0 < bd.length
      · have rq' := rq.full hb0
        clear rq
        by_cases hfull : lim < ((13 + bd.length : Nat) : Int) + 2 + ((S k).size : Int)
        · have hcv := conv_own rq' (by rw [List.length_append]; rfl)
          obtain ⟨g5, c5', w2, ap1, T2, G2⟩ := app_one rt (head ++ bd) (by simp; omega) hbd
          rw [List.length_map] at ap1 T2
          have Q2 : BOwn w2 base (.slice (some ⟨g, 0, none⟩) (13 + bd.length) cap) (head ++ bd) := (rq'.alloc _).kept G2 (own_ne rq' rt (by decide))
          have B2 : Below base wr w2 := ((Below.refl base wr).alloc hbd _).trans (below_grownO G2 (fun N hN => (rt.lt N hN).1) (by simp; omega))
          have hbd2 : base ≤ w2.heap.size := by have := B2.size; omega
          have Q3 := q_cut Q2
          obtain ⟨g6, c6, w3, ap2, Q4, G3⟩ := app_str Q3 (S k) (by show 13 + _ ≤ _; omega) (by show 0 < 13 + _; omega) hbd2
          have T3 := T2.kept G3 (own_ne T2 Q3 (by decide))
          have B3 : Below base w w3 := (by rw [← hbase]; exact rb : Below base w wr).trans (B2.trans (below_grownO G3 (fun N hN => (Q3.lt N hN).1) hbd2))
          have R3 : Hid (RenSt w w3 lim (fun i => bs (S i)) (k + 1) (.slice (some ⟨g5, 0, none⟩) (ss.length + 1) c5') (.slice (some ⟨g6, 0, none⟩) (head.length + (S k).size) c6)) := by
            refine ⟨?_, ?_, by rw [hbase]; exact B3⟩
            · rw [HG.out, step_full hb0 hfull, hbase, List.map_append]; exact T3
            · rw [HG.out, step_full hb0 hfull, hbase]; exact .inl Q4
          have ap2' : appRun Try.prog 28 9 28 (.slice (some ⟨g, 0, none⟩) 13 cap) (.string (S k)) w2 = .ok (.slice (some ⟨g6, 0, none⟩) (13 + (S k).size) c6) w3 := ap2
          clear ap2 Q4 T3 Q3 Q2 T2 G3 G2 rq' rt HG B2 B3
          go_wp2_with fail
          go_roundw
          case rel => exact ⟨k + 1, by omega, by go_num, R3.out⟩
          case measure => simp [intOf]; omega
        · obtain ⟨g6, c6, w2, ap1, Q2, G2⟩ := app_str rq' ⟨#[44, 32]⟩ (by rw [List.length_append]; show 13 + _ + 2 ≤ _; omega) (by rw [List.length_append]; show 0 < 13 + _ + 2; omega) hbd
          have T2 := rt.kept G2 (own_ne rt rq' (by decide))
          have B2 : Below base wr w2 := below_grownO G2 (fun N hN => (rq'.lt N hN).1) hbd
          have hbd2 : base ≤ w2.heap.size := by have := B2.size; omega
          obtain ⟨g7, c7, w3, ap2, Q3, G3⟩ := app_str Q2 (S k) (by rw [List.length_append, List.length_append, bs_len]; show 13 + _ + 2 + _ ≤ _; omega) (by rw [List.length_append, List.length_append, bs_len]; show 0 < 13 + _ + 2 + _; omega) hbd2
          have T3 := T2.kept G3 (own_ne T2 Q2 (by decide))
          have B3 : Below base w w3 := (by rw [← hbase]; exact rb : Below base w wr).trans (B2.trans (below_grownO G3 (fun N hN => (Q2.lt N hN).1) hbd2))
          have e1 : (head ++ bd).length + ByteArray.size ⟨#[44, 32]⟩ = 13 + bd.length + 2 := by rw [List.length_append]; rfl
          have e2 : ((head ++ bd) ++ bs ⟨#[44, 32]⟩).length + (S k).size = 13 + bd.length + 2 + (S k).size := by rw [List.length_append, bs_len, e1]
          rw [e1] at ap1 Q2 ap2
          rw [e2] at ap2 Q3
          have R3 : Hid (RenSt w w3 lim (fun i => bs (S i)) (k + 1) (.slice a5 ss.length c5) (.slice (some ⟨g7, 0, none⟩) (13 + bd.length + 2 + (S k).size) c7)) := by
            refine ⟨?_, ?_, by rw [hbase]; exact B3⟩
            · rw [HG.out, step_more hb0 hfull, hbase]; exact T3
            · rw [HG.out, step_more hb0 hfull, hbase]; refine .inl ?_
              rw [List.append_assoc] at Q3
              show BOwn _ _ _ (head ++ (bd ++ sep ++ bs (S k)))
              rw [show head ++ (bd ++ sep ++ bs (S k)) = head ++ bd ++ (bs ⟨#[44, 32]⟩ ++ bs (S k)) by simp only [List.append_assoc]; rfl]
              exact Q3
          clear Q3 T3 Q2 T2 G3 G2 rq' rt HG B2 B3 e1 e2
          go_wp2_with fail
          go_roundw
          case rel => exact ⟨k + 1, by omega, by go_num, R3.out⟩
          case measure => simp [intOf]; omega
      · have hL : bd = [] := by cases bd; rfl; simp at hb0
        subst hL
        have rq0 : QOwn wr base (.slice (some ⟨g, 0, none⟩) 13 cap) [] := rq
        obtain ⟨g7, c7, w3, ap2, Q3, G3⟩ := app_first rq0 (S k) (by omega) (HNE.out k hlt) hbd
        have T3 := rt.kept G3 (rq0.own_ne rt)
        have B3 : Below base w w3 := (by rw [← hbase]; exact rb : Below base w wr).trans (below_grownO G3 rq0.lt hbd)
        have R3 : Hid (RenSt w w3 lim (fun i => bs (S i)) (k + 1) (.slice a5 ss.length c5) (.slice (some ⟨g7, 0, none⟩) (13 + (S k).size) c7)) := by
          refine ⟨?_, ?_, by rw [hbase]; exact B3⟩
          · rw [HG.out, step_first hb0, hbase]; exact T3
          · rw [HG.out, step_first hb0, hbase]; exact .inl Q3
        clear Q3 T3 G3 rq rq0 rt HG B3
        simp only [List.length_nil, Nat.add_zero]
        go_wp2_with fail
        go_roundw
        case rel => exact ⟨k + 1, by omega, by go_num, R3.out⟩
        case measure => simp [intOf]; omega
    · have e : k = n := by omega
      subst e
      obtain ⟨gl1, gl2⟩ := gst_len lim (fun i => bs (S i)) k
      rw [pre_psz] at gl1
      obtain ⟨rt, rq, rb⟩ := R
      generalize hst : gst lim (fun i => bs (S i)) k = st at rt rq gl1 gl2
      obtain ⟨ss, bd⟩ := st
      have HO := hideE hst
      clear hst
      dsimp only at rt rq gl1 gl2
      obtain ⟨g, cap, rfl, hgb, hgl, hcap⟩ := rq.form
      have hcell5 : ∃ a5 c5, u5 = .slice a5 ss.length c5 := by
        rcases rt.2 with ⟨rfl, h0⟩ | ⟨g5, c5, cur, rfl, _⟩
        · exact ⟨none, 0, by simp at h0; simp [h0]⟩
        · exact ⟨some ⟨g5, 0, none⟩, c5, by simp⟩
      obtain ⟨a5, c5, rfl⟩ := hcell5
      by_cases hb0 : 0 < bd.length
      · have rq' := rq.full hb0
        have hcv := conv_own rq' (by rw [List.length_append]; rfl)
        obtain ⟨g5, c5', w2, ap1, T2, G2⟩ := app_one rt (head ++ bd) (by simp; omega) rb.size
        rw [List.length_map] at ap1 T2
        have B2 : Below w.heap.size w w2 := rb.trans (((Below.refl _ wr).alloc rb.size _).trans (below_grownO G2 (fun N hN => (rt.lt N hN).1) (by have := rb.size; simp; omega)))
        have T3 : Hid (TOwn w2 w.heap.size (.slice (some ⟨g5, 0, none⟩) (ss.length + 1) c5') ((gst lim (fun i => bs (S i)) k).out.map (head ++ ·))) := by
          rw [HO.out]
          unfold St.out
          rw [if_pos hb0]
          show TOwn _ _ _ ((ss ++ [bd]).map _)
          rw [List.map_append]; exact T2
        clear rq' rq rt T2 G2
        go_wp2_with fail
        go_ret
        exact ⟨_, rfl, T3.out, B2⟩
      · have T3 : Hid (TOwn wr w.heap.size (.slice a5 ss.length c5) ((gst lim (fun i => bs (S i)) k).out.map (head ++ ·))) := by
          rw [HO.out]
          unfold St.out
          rw [if_neg hb0]
          exact rt
        clear rq rt
        go_wp2_with fail
        go_ret
        exact ⟨_, rfl, T3.out, rb⟩
theorem zzren_any (a : Option Addr) (n c : Nat) (S : Nat → ByteArray) (lim : Int) (w : World) (hr : SRd w a n S) (hn : n ≤ 65536) (hp : psz S n ≤ 1048576) (hne : ∀ i, i < n → 0 < (S i).size) :
    Calls Try.prog 9 #[.slice a n c, .int .i64 lim] w fun e w' => ∃ v, e = .returned v ∧ TOwn w' w.heap.size v ((gst lim (fun i => bs (S i)) n).out.map (head ++ ·)) ∧ Below w.heap.size w w' := by
  go_enter Try.func9, Try.ntmps9
  go_wp2_with fail
  refine (ren_any a n c S lim w hr hn hp hne).mono ?_
  rintro e w' ⟨v, rfl, h1, h2⟩
  go_wp2_with fail
  go_ret
  exact ⟨v, rfl, h1, h2⟩
end Go.Proofs.Qxb6602168a
