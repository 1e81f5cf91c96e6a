/- Numbers read from texts: SetString, convertToBigInt; numbers as bytes, as plain data. -/
import Derived.Test.YtkcciinapkeaiaaDoorProg
import Derived.Below
import Derived.Deep.Draws
import Derived.Deep.AppendLies
import Derived.Maps.AppendAt
import Derived.OwnWalk
import Derived.Laws.BytesArg
import Derived.Laws.MakeOwn
import Derived.Laws.OwnMore
import Derived.Deep.OwnRows
import Derived.Tactics
import Derived.Lib.ConvBytes
import Derived.Laws.Slices
import Derived.WalkKit
import Derived.KernelRfl
import Derived.RowKit3
import Derived.Deep.LoopGhost
import Derived.Deep.QuietTactic
import Derived.BigQuiet
import Derived.WideLaws
import Derived.Deep.DeepCutAuto
import Derived.Deep.CutBlock
import Derived.Deep.RegionHeld3
import Derived.Laws.Rows
import Derived.Lib.AppendStr
import Derived.ArgAppend
import Derived.Laws.IdiomCopy
import Derived.OrdersHeld
import Derived.Laws.BitsLemmas
import Derived.RowKit
import Derived.Test.YtkcciinapkeaiaaDoorWW
import Derived.Test.YtkcciinapkeaiaaDoorGe
import Derived.Test.YtkcciinapkeaiaaDoorSsA
namespace Go.Proofs.YtkcciinapkeaiaaDoor.Ss
open Go Go.RowKit Go.Proofs.YtkcciinapkeaiaaDoorW.PrintWords Go.Proofs.YtkcciinapkeaiaaDoorW.PrintLast Go.Proofs.YtkcciinapkeaiaaDoorW.PrintMore
attribute [local go_sem high] Go.Proofs.YtkcciinapkeaiaaDoor.Ge.gtr_str
attribute [local go_sem] max2_int min2_int max_two min_two max_three min_three max_four min_four
set_option linter.unusedVariables false
set_option linter.unusedSimpArgs false

open Go.Proofs.YtkcciinapkeaiaaDoor.Gw
attribute [local go_sem] EV
/-! which number a text is -/
def cvt (s : ByteArray) : Option Int :=
  if (By.bl s).drop (sgN s) ≠ [] ∧ ((By.bl s).drop (sgN s)).all By.dg = true then some (if sgB s then -Bv.decV ((By.bl s).drop (sgN s)) else Bv.decV ((By.bl s).drop (sgN s))) else none
theorem NV_dec : ∀ (n : Nat) (l : List UInt8), l.length = n → l.all By.dg = true → (NV l : Int) = Bv.decV l
  | 0, l, hn, _ => by
    rw [List.eq_nil_of_length_eq_zero hn]
    rfl
  | n + 1, l, hn, h => by
    rcases List.eq_nil_or_concat l with rfl | ⟨L, b, rfl⟩
    · simp at hn
    · rw [List.concat_eq_append] at hn h ⊢
      rw [List.all_append, Bool.and_eq_true] at h
      have ih := NV_dec n L (by simpa using hn) h.1
      have hb := dg_get (x := b) (by simpa using h.2)
      rw [NV_snoc, Bv.decV_snoc, ← ih]
      unfold Bv.dv
      omega
theorem sgN_le (s : ByteArray) : sgN s ≤ s.size := by
  unfold sgN
  split
  · split <;> omega
  · omega
theorem cvt_stop {s : ByteArray} {j : Nat} (h : ∃ h : sgN s + j < s.size, By.dg s[sgN s + j] = false) : cvt s = none := by
  obtain ⟨h1, h2⟩ := h
  refine if_neg fun hc => ?_
  have hl : sgN s + j < (By.bl s).length := by rw [By.bl_length]; exact h1
  have hm : (By.bl s)[sgN s + j] ∈ (By.bl s).drop (sgN s) := by
    have h3 : j < ((By.bl s).drop (sgN s)).length := by rw [List.length_drop]; omega
    have := List.getElem_mem h3
    rwa [List.getElem_drop] at this
  have h3 := List.all_eq_true.1 hc.2 _ hm
  exact Bool.noConfusion (h2.symm.trans h3)
theorem cvt_none0 {s : ByteArray} (h : sgN s = s.size) : cvt s = none := by
  refine if_neg fun hc => hc.1 ?_
  rw [List.drop_eq_nil_iff, By.bl_length]
  omega
theorem dcs_all {s : ByteArray} {i0 j : Nat} (h : i0 + j = s.size) : dcs s i0 j = (By.bl s).drop i0 := by
  unfold dcs
  rw [List.take_of_length_le]
  rw [List.length_drop, By.bl_length]
  omega
theorem cvt_some {s : ByteArray} {j : Nat} (h : sgN s + j = s.size) (hj : 1 ≤ j) (ha : (dcs s (sgN s) j).all By.dg = true) : cvt s = some (if sgB s then -(NV (dcs s (sgN s) j) : Int) else (NV (dcs s (sgN s) j) : Int)) := by
  have e := dcs_all h
  rw [e] at ha ⊢
  rw [NV_dec _ _ rfl ha]
  refine if_pos ⟨fun h0 => ?_, ha⟩
  rw [List.drop_eq_nil_iff, By.bl_length] at h0
  omega
/-! the number's block -/
def IB (o : Nat) (neg : Bool) (u : Value) (w : World) : Prop := w.heap[o]? = some (.cells #[.bool neg, u] Big.TI (0, 0))
theorem IB.c0 {o : Nat} {neg : Bool} {u : Value} {w : World} (h : IB o neg u w) : w.cell? ⟨o, 0, none⟩ = some (.bool neg) := (blk_cell h 0).trans rfl
theorem IB.c1 {o : Nat} {neg : Bool} {u : Value} {w : World} (h : IB o neg u w) : w.cell? ⟨o, 1, none⟩ = some u := (blk_cell h 1).trans rfl
theorem IB.s0 {o : Nat} {neg : Bool} {u : Value} {w : World} (h : IB o neg u w) (b : Bool) : IB o b u (w.setCell ⟨o, 0, none⟩ (.bool b)) := by unfold IB; simpa using blk_set h 0 (.bool b)
theorem IB.s1 {o : Nat} {neg : Bool} {u : Value} {w : World} (h : IB o neg u w) (x : Value) : IB o neg x (w.setCell ⟨o, 1, none⟩ x) := by unfold IB; simpa using blk_set h 1 x
theorem IB.fr {o : Nat} {neg : Bool} {u : Value} {w : World} (h : IB o neg u w) (k : Nat) : w.frozen? ⟨o, k, none⟩ = false := blk_frozen h k
theorem IB.move {o : Nat} {neg : Bool} {u : Value} {w w' : World} (h : IB o neg u w) (hk : w'.heap[o]? = w.heap[o]?) : IB o neg u w' := hk.trans h
theorem ss_newReader (s : ByteArray) (w : World) : Calls Tryd.prog 75 #[.string s] w fun e w' => e = .returned (.pointer (some ⟨w.heap.size, 0, none⟩)) ∧ Rdr w.heap.size s 0 (-1) w' ∧ Below w.heap.size w w' ∧ w'.heap.size = w.heap.size + 1 := by
  have HR : Aside0 (Rdr w.heap.size s 0 (-1) (w.alloc (.cells #[.string s, .int .i64 0, .int .i64 (-1)] TRd))) := ⟨blk_new w _⟩
  go_enter Tryd.func75, Tryd.ntmps75
  go_wp2
  go_ret
  exact ⟨rfl, HR.out, (Below.refl _ _).alloc (Nat.le_refl _) _, by simp⟩

/-- What Int.scan answers: no number, or the number's magnitude and sign at the pointer. -/
def IsP (g o base : Nat) (s : ByteArray) (w : World) (e : Ending) (w' : World) : Prop := Below o w w' ∧
  ((cvt s = none ∧ ∃ n a, e = .returned (.tuple #[.pointer none, .int .i64 n, EV a])) ∨
   (∃ j N v, e = .returned (.tuple #[.pointer (some ⟨o, 0, none⟩), .int .i64 10, .nilIface]) ∧ 1 ≤ j ∧ sgN s + j ≤ s.size ∧ (dcs s (sgN s) j).all By.dg = true ∧ ((∃ h : sgN s + j < s.size, By.dg s[sgN s + j] = false) ∨ sgN s + j = s.size) ∧ Rdr g s ((sgN s + j : Nat) : Int) (-1) w' ∧ N = NV (dcs s (sgN s) j) ∧ NZ base (j + 1) w' v N ∧ IB o (decide (0 < N) && sgB s) v w'))
theorem NZ.form {base k : Nat} {w : World} {v : Value} {N : Nat} (h : NZ base k w v N) : ∃ A n c, v = .slice A n c ∧ (0 < n ↔ 0 < N) := by
  obtain ⟨ws, h1, h2, h3, h4⟩ := h
  rcases h4 with ⟨rfl, rfl⟩ | ⟨h5, g, cur, h6, h7, rfl, h8⟩
  · have h9 : (0 : Int) = (N : Int) := h2
    exact ⟨_, _, _, rfl, by omega⟩
  · refine ⟨_, _, _, rfl, fun _ => by omega, fun _ => ?_⟩
    cases ws with
    | nil => exfalso; have h9 : (0 : Int) = (N : Int) := h2; omega
    | cons x l => simp
theorem NZ.set {base k : Nat} {w : World} {v : Value} {N : Nat} (h : NZ base k w v N) {o : Nat} (ho : o < base) (i : Nat) (x : Value) : NZ base k (w.setCell ⟨o, i, none⟩ x) v N := by
  obtain ⟨ws, h1, h2, h3, h4⟩ := h
  refine ⟨ws, h1, h2, h3, ?_⟩
  rcases h4 with h4 | ⟨h5, b, cur, h6, h7, h8⟩
  · exact .inl h4
  · exact .inr ⟨h5, b, cur, h6, h7.move (Below.heap_setCell w ⟨o, i, none⟩ x b (by show b ≠ o; omega)), h8⟩
theorem Rdr.set {g : Nat} {s : ByteArray} {i p : Int} {w : World} (h : Rdr g s i p w) {o : Nat} (ho : g ≠ o) (k : Nat) (x : Value) : Rdr g s i p (w.setCell ⟨o, k, none⟩ x) := (Below.heap_setCell w ⟨o, k, none⟩ x g ho).trans h
set_option maxRecDepth 100000 in
set_option maxHeartbeats 2000000 in
theorem ss_intScan (g o base : Nat) (s : ByteArray) (p : Int) (a a2 : Addr) (w : World) (hs : s.size ≤ 1000000) (hr : Rdr g s 0 p w) (hI : IB o false (.slice none 0 0) w) (he : ErrAt gEOF a w) (he2 : ErrAt gND a2 w) (h1 : gEOF < o) (h2 : gND < o) (hog : o < g) (hgb : g < base) (hbw : base ≤ w.heap.size) :
    Calls Tryd.prog 87 #[.pointer (some ⟨o, 0, none⟩), RI g, .int .i64 10] w (IsP g o base s w) := by
  by_cases h0 : s.size = 0
  · have hC := Aside0.mk (ss_sign0 g s p a w h0 hr he (by omega))
    have HN : Aside0 (cvt s = none) := ⟨cvt_none0 (by have := sgN_le s; omega)⟩
    have HO := Aside0.mk hog
    clear hr hI he he2 h1 h2 hog hgb hbw h0 hs
    go_enter Tryd.func87, Tryd.ntmps87
    go_wp2_with (go_at_call 89; (with_reducible refine (hC.out).mono ?_); rintro e W1 ⟨rfl, h1⟩; have H1 := Aside0.mk h1; clear h1)
    go_ret3
    exact ⟨H1.out.2.2.mono (Nat.le_of_lt HO.out), .inl ⟨HN.out, _, _, rfl⟩⟩
  · have hC := Aside0.mk (ss_sign1 g s p w (by omega) hs hr)
    have HH : Aside0 (s.size ≤ 1000000 ∧ gEOF < o ∧ gND < o ∧ o < g ∧ g < base ∧ base ≤ w.heap.size) := ⟨hs, h1, h2, hog, hgb, hbw⟩
    have HE := Aside0.mk (And.intro he he2)
    have HI := Aside0.mk hI
    clear hr hI he he2 h1 h2 hog hgb hbw h0 hs
    go_enter Tryd.func87, Tryd.ntmps87
    go_wp2_with (go_at_call 89; (with_reducible refine (hC.out).mono ?_))
    rintro e W1 ⟨rfl, hr, hsd⟩
    obtain ⟨q1, q2, q3, q4, q5, q6⟩ := HH.out
    have hI1 := HI.out.move (hsd.1 o (by omega))
    have hS := Aside0.mk (ss_scan g base s (-1) (sgN s) a W1 (sgN_le s) q1 hr (HE.out.1.side hsd (by omega)) (by omega) q5 (by omega) (by rw [hsd.2.1]; exact q6) a2 (HE.out.2.side hsd (by omega)) (by omega) (by omega))
    have c1 := hI1.c1
    have HI1 := Aside0.mk hI1
    have HSD := Aside0.mk hsd
    clear q1 q2 q3 q4 q5 q6 hI1 hr hsd hC HI HE
    go_wp2_with (go_at_call 90; (with_reducible refine (hS.out).mono ?_))
    rintro e W2 ⟨j, hj1, hj2, hj3, hR, hF, hres⟩
    have HF := Aside0.mk hF
    have HJ := Aside0.mk (And.intro hj1 (And.intro hj2 hj3))
    have HR := Aside0.mk hR
    have hI2 := HI1.out.move (hF.1 o (by have := HH.out.2.2.2.1; have := HH.out.2.2.2.2.1; omega) (by have := HH.out.2.2.2.1; omega))
    have HB : Aside0 (Below o w W2) := ⟨(HSD.out.2.2.mono (Nat.le_of_lt HH.out.2.2.2.1)).trans (hF.2.mono (Nat.le_of_lt HH.out.2.2.2.1))⟩
    have f1 := hI2.fr 1
    have e1 := hI2.c1
    clear hj1 hj2 hj3 hR hF c1 hS
    rcases hres with ⟨rfl, rfl⟩ | ⟨hj, v, rfl, hz⟩
    · have HN : Aside0 (cvt s = none) := ⟨by
        rcases HJ.out.2.2 with h | h
        · exact cvt_stop h
        · exact cvt_none0 h⟩
      clear hI2
      go_wp2
      go_ret3
      exact ⟨HB.out.setCell (p := ⟨o, 1, none⟩) (Nat.le_refl _) _, .inl ⟨HN.out, _, _, rfl⟩⟩
    · obtain ⟨A, n, c, rfl, hn⟩ := hz.form
      have HZ := Aside0.mk hz
      have HJ1 := Aside0.mk hj
      have hI3 := hI2.s1 (.slice A n c)
      have HB3 : Aside0 (Below o w (W2.setCell ⟨o, 1, none⟩ (.slice A n c))) := ⟨HB.out.setCell (p := ⟨o, 1, none⟩) (Nat.le_refl _) _⟩
      have HZ3 : Aside0 (NZ base (j + 1) (W2.setCell ⟨o, 1, none⟩ (.slice A n c)) (.slice A n c) (NV (dcs s (sgN s) j))) := ⟨hz.set (by have := HH.out.2.2.2.1; have := HH.out.2.2.2.2.1; omega) 1 _⟩
      have HR3 : Aside0 (Rdr g s ((sgN s + j : Nat) : Int) (-1) (W2.setCell ⟨o, 1, none⟩ (.slice A n c))) := ⟨HR.out.set (by have := HH.out.2.2.2.1; omega) 1 _⟩
      clear hz hj hI2 HR HZ
      obtain ⟨w1, hw1⟩ : ∃ w1, W2.setCell ⟨o, 1, none⟩ (.slice A n c) = w1 := ⟨_, rfl⟩
      rw [hw1] at hI3 HB3 HZ3 HR3
      have d1 := hI3.c1
      have d0 := hI3.c0
      have f0 := hI3.fr 0
      have HI3 := Aside0.mk hI3
      clear hI3
      by_cases h0 : 0 < n
      · have hd : decide ((0 : Int) < (n : Int)) = true := decide_eq_true (by omega)
        have hd2 : decide (0 < n) = true := decide_eq_true h0
        have HD : Aside0 (decide (0 < NV (dcs s (sgN s) j)) = true) := ⟨decide_eq_true (hn.1 h0)⟩
        clear hn h0
        go_wp2
        go_ret3
        refine ⟨HB3.out.setCell (p := ⟨o, 0, none⟩) (Nat.le_refl _) _, .inr ⟨j, _, _, rfl, HJ1.out, HJ.out.1, HJ.out.2.1, HJ.out.2.2, HR3.out.set (by have := HH.out.2.2.2.1; omega) 0 _, rfl, HZ3.out.set (by have := HH.out.2.2.2.1; have := HH.out.2.2.2.2.1; omega) 0 _, ?_⟩⟩
        rw [HD.out, Bool.true_and]
        exact HI3.out.s0 _
      · have hd : decide ((0 : Int) < (n : Int)) = false := decide_eq_false (by omega)
        have hd2 : decide (0 < n) = false := decide_eq_false h0
        have HD : Aside0 (decide (0 < NV (dcs s (sgN s) j)) = false) := ⟨decide_eq_false (fun h => h0 (hn.2 h))⟩
        clear hn h0
        go_wp2
        go_ret3
        refine ⟨HB3.out.setCell (p := ⟨o, 0, none⟩) (Nat.le_refl _) _, .inr ⟨j, _, _, rfl, HJ1.out, HJ.out.1, HJ.out.2.1, HJ.out.2.2, HR3.out.set (by have := HH.out.2.2.2.1; omega) 0 _, rfl, HZ3.out.set (by have := HH.out.2.2.2.1; have := HH.out.2.2.2.2.1; omega) 0 _, ?_⟩⟩
        rw [HD.out, Bool.false_and]
        exact HI3.out.s0 _

theorem ss_neqE (a : Addr) (W : World) : (binOp .neq 52 (.iface 167 (.pointer (some a))) (.iface 167 (.pointer (some a)))).run Tryd.prog W = .ok (.bool false) W := by
  obtain ⟨i, h1, h2⟩ := Option.map_eq_some_iff.1 ss_cmpE
  obtain ⟨j, h3⟩ := Option.isSome_iff_exists.1 ss_infE
  simp only [binOp]
  simp [Op.equal, Op.maxDepth, run_equalIn_iface_ptr_same W 9998 a Tryd.underlying52 Tryd.underlying167 h1 h2 h3]
theorem ss_neqN (tp : TypeId) (v : Value) (W : World) : (binOp .neq 52 .nilIface (.iface tp v)).run Tryd.prog W = .ok (.bool true) W := by
  have h : ∀ d : Nat, (Op.equalIn (d + 1) 52 .nilIface (.iface tp v)).run Tryd.prog W = .ok false W := fun d => by simp [Op.equalIn, run_underlying Tryd.underlying52]
  simp only [binOp]
  simp [Op.equal, Op.maxDepth, h 9999]
theorem NZ.own {base k : Nat} {w : World} {v : Value} {N : Nat} (h : NZ base k w v N) {o : Nat} {b : Bool} (hI : IB o (decide (0 < N) && b) v w) (ho : o ≤ base) : Big.Own w o (fun _ => True) (if b then -(N : Int) else (N : Int)) (.pointer (some ⟨o, 0, none⟩)) := by
  obtain ⟨ws, h1, h2, h3, h4⟩ := h
  refine ⟨o, v, decide (0 < N) && b, ni ws, rfl, trivial, Nat.le_refl _, hI, ?_, h1, ?_, ?_⟩
  · rcases h4 with ⟨rfl, rfl⟩ | ⟨h5, g, cur, h6, h7, rfl, h8, h9, h10⟩
    · exact Kd.R_nil _ _ _ _ _
    · rw [← h10]
      exact h7.R (by omega) (by simp only [maxLen]; omega) _ h8
  · intro hb hn
    have hw : ws = [] := by simpa [ni] using hn
    subst hw
    have h9 : (0 : Int) = (N : Int) := h2
    have h10 : N = 0 := by omega
    subst h10
    simp at hb
  · unfold Big.valW
    rw [h2]
    by_cases h0 : 0 < N
    · rw [decide_eq_true h0, Bool.true_and]
    · have : N = 0 := by omega
      subst this
      simp
/-- What SetString answers. -/
def SeP (o : Nat) (s : ByteArray) (w : World) (e : Ending) (w' : World) : Prop := Below o w w' ∧
  ((cvt s = none ∧ e = .returned (.tuple #[.pointer none, .bool false])) ∨
   (∃ z, cvt s = some z ∧ e = .returned (.tuple #[.pointer (some ⟨o, 0, none⟩), .bool true]) ∧ Big.Own w' o (fun _ => True) z (.pointer (some ⟨o, 0, none⟩))))
set_option maxRecDepth 100000 in
set_option maxHeartbeats 2000000 in
theorem ss_setFrom (g o base : Nat) (s : ByteArray) (p : Int) (a a2 : Addr) (w : World) (hs : s.size ≤ 1000000) (hr : Rdr g s 0 p w) (hI : IB o false (.slice none 0 0) w) (he : ErrAt gEOF a w) (he2 : ErrAt gND a2 w) (h1 : gEOF < o) (h2 : gND < o) (hog : o < g) (hgb : g < base) (hbw : base ≤ w.heap.size) :
    Calls Tryd.prog 74 #[.pointer (some ⟨o, 0, none⟩), RI g, .int .i64 10] w (SeP o s w) := by
  have hC := Aside0.mk (ss_intScan g o base s p a a2 w hs hr hI he he2 h1 h2 hog hgb hbw)
  have HH : Aside0 (s.size ≤ 1000000 ∧ gEOF < o ∧ o < g ∧ g < base) := ⟨hs, h1, hog, hgb⟩
  have HE := Aside0.mk he
  clear hr hI he he2 h1 h2 hog hgb hbw hs
  have hq1 := ss_neqE a
  have hq2 := ss_neqN 167 (.pointer (some a))
  go_enter Tryd.func74, Tryd.ntmps74
  go_wp2_with (go_at_call 87; (with_reducible refine (hC.out).mono ?_))
  rintro e W1 ⟨hB, h⟩
  have HB := Aside0.mk hB
  have HE1 : Aside0 (ErrAt gEOF a W1) := ⟨(hB.cell (p := ⟨gEOF, 0, none⟩) HH.out.2.1).trans HE.out⟩
  clear hB hC HE
  rcases h with ⟨hn, n, a', rfl⟩ | ⟨j, N, v, rfl, hj1, hj2, hj3, hj4, hR, hN, hz, hi⟩
  · have HN := Aside0.mk hn
    clear hn
    go_wp2
    go_ret2
    exact ⟨HB.out, .inl ⟨HN.out, rfl⟩⟩
  · by_cases hlt : sgN s + j < s.size
    · have HN : Aside0 (cvt s = none) := ⟨cvt_stop (by rcases hj4 with h | h; exact h; omega)⟩
      have hC := Aside0.mk (ss_read g (sgN s + j) s (-1) W1 hlt HH.out.1 hR)
      have hEOF : Aside0 (∀ W, Side g W1 W → W.cell? ⟨gEOF, 0, none⟩ = some (EV a)) := ⟨fun W h => HE1.out.side h (by have := HH.out; omega)⟩
      clear hj1 hj2 hj3 hj4 hR hN hz hi
      go_wp2_with (show Calls Tryd.prog 132 #[.pointer (some ⟨g, 0, none⟩)] _ _; (with_reducible refine (hC.out).mono ?_); rintro e W2 ⟨rfl, h1, h2⟩; have H2 := Aside0.mk h2; have hq := hEOF.out W2 h2; clear h1 h2)
      go_wp2
      go_ret2
      exact ⟨HB.out.trans (H2.out.2.2.mono (Nat.le_of_lt HH.out.2.2.1)), .inl ⟨HN.out, rfl⟩⟩
    · have he : sgN s + j = s.size := by omega
      have HV : Aside0 (cvt s = some (if sgB s then -(N : Int) else (N : Int))) := ⟨by rw [hN]; exact cvt_some he hj1 hj3⟩
      have hO := hz.own hi (by have := HH.out; omega)
      have HO : Aside0 (∀ W, Side g W1 W → Big.Own W o (fun _ => True) (if sgB s then -(N : Int) else (N : Int)) (.pointer (some ⟨o, 0, none⟩))) := ⟨fun W h => (hz.side h HH.out.2.2.2).own (hi.move (h.1 o (by have := HH.out; omega))) (by have := HH.out; omega)⟩
      have hC := Aside0.mk (ss_readEnd g (sgN s + j) s (-1) a W1 (by omega) hR HE1.out (by have := HH.out; omega))
      have hEOF : Aside0 (∀ W, Side g W1 W → W.cell? ⟨gEOF, 0, none⟩ = some (EV a)) := ⟨fun W h => HE1.out.side h (by have := HH.out; omega)⟩
      clear hj1 hj2 hj3 hj4 hR hN hz hi hlt he hO
      go_wp2_with (show Calls Tryd.prog 132 #[.pointer (some ⟨g, 0, none⟩)] _ _; (with_reducible refine (hC.out).mono ?_); rintro e W2 ⟨rfl, h1, h2⟩; have H2 := Aside0.mk h2; have hq := hEOF.out W2 h2; clear h1 h2)
      go_wp2
      go_ret2
      exact ⟨HB.out.trans (H2.out.2.2.mono (Nat.le_of_lt HH.out.2.2.1)), .inr ⟨_, HV.out, rfl, HO.out _ H2.out⟩⟩
set_option maxRecDepth 100000 in
set_option maxHeartbeats 2000000 in
theorem ss_SetString (s : ByteArray) (o : Nat) (a a2 : Addr) (w : World) (hs : s.size ≤ 1000000) (ho : o + 1 = w.heap.size) (hI : IB o false (.slice none 0 0) w) (he : ErrAt gEOF a w) (he2 : ErrAt gND a2 w) (h1 : gEOF < o) (h2 : gND < o) :
    Calls Tryd.prog 58 #[.pointer (some ⟨o, 0, none⟩), .string s, .int .i64 10] w (SeP o s w) := by
  have hC := Aside0.mk (ss_newReader s w)
  have HH : Aside0 (s.size ≤ 1000000 ∧ gEOF < o ∧ gND < o ∧ o + 1 = w.heap.size) := ⟨hs, h1, h2, ho⟩
  have HE := Aside0.mk (And.intro he he2)
  have HI := Aside0.mk hI
  clear hI he he2 h1 h2 hs ho
  go_enter Tryd.func58, Tryd.ntmps58
  go_wp2_with (go_at_call 75; (with_reducible refine (hC.out).mono ?_))
  rintro e W1 ⟨rfl, hr, hb, hz⟩
  obtain ⟨q1, q2, q3, q4⟩ := HH.out
  have hS := Aside0.mk (ss_setFrom w.heap.size o (w.heap.size + 1) s (-1) a a2 W1 q1 hr (HI.out.move (hb.block o (by omega))) ((hb.cell (p := ⟨gEOF, 0, none⟩) (show gEOF < w.heap.size by omega)).trans HE.out.1) ((hb.cell (p := ⟨gND, 0, none⟩) (show gND < w.heap.size by omega)).trans HE.out.2) q2 q3 (by omega) (by omega) (by omega))
  have HB : Aside0 (Below o w W1) := ⟨hb.mono (by omega)⟩
  clear q1 q2 q3 q4 hr hb hz hC
  go_wp2_with (go_at_call 74; (with_reducible refine (hS.out).mono ?_))
  rintro e W2 ⟨hB, h⟩
  have HB2 := Aside0.mk hB
  clear hB
  rcases h with ⟨hn, rfl⟩ | ⟨z, hz, rfl, hO⟩
  · have HN := Aside0.mk hn
    clear hn
    go_wp2
    go_ret2
    exact ⟨HB.out.trans HB2.out, .inl ⟨HN.out, rfl⟩⟩
  · have HN := Aside0.mk (And.intro hz hO)
    clear hz hO
    go_wp2
    go_ret2
    exact ⟨HB.out.trans HB2.out, .inr ⟨z, HN.out.1, rfl, HN.out.2⟩⟩

open Go.Proofs.YtkcciinapkeaiaaDoor.Gw
attribute [local go_sem] EV
/-- What convertToBigInt answers. -/
def CvP (s : ByteArray) (w : World) (e : Ending) (w' : World) : Prop := Below w.heap.size w w' ∧
  ((cvt s = none ∧ ∃ a, e = .returned (.tuple #[.pointer none, EV a])) ∨
   (∃ (z : Int) (o : Nat), cvt s = some z ∧ e = .returned (.tuple #[.pointer (some ⟨o, 0, none⟩), .nilIface]) ∧ Big.Own w' w.heap.size (fun _ => True) z (.pointer (some ⟨o, 0, none⟩))))
set_option maxRecDepth 100000 in
set_option maxHeartbeats 2000000 in
theorem ss_convert (s : ByteArray) (w : World) (hs : s.size ≤ 1000000) (hG : GW3 w) : Calls Tryd.prog 45 #[.string s] w (CvP s w) := by
  obtain ⟨a, a2, a3, h1, h2, h3⟩ := hG
  obtain ⟨WA, hWA⟩ : ∃ WA : World, WA = w.alloc (.cells #[.bool false, .slice none 0 0] Big.TI) := ⟨_, rfl⟩
  have hBA : Below w.heap.size w WA := by rw [hWA]; exact (Below.refl _ _).alloc (Nat.le_refl _) _
  have hC := Aside0.mk (ss_SetString s w.heap.size a a2 WA hs (by rw [hWA]; simp) (by rw [hWA]; exact blk_new w _) (h1.below hBA) (h2.below hBA) h1.lt h2.lt)
  have HBA := Aside0.mk hBA
  have HIV : Aside0 (∀ W, Below w.heap.size w W → W.cell? ⟨gIV, 0, none⟩ = some (EV a3)) := ⟨fun W h => h3.below h⟩
  rw [hWA] at hC HBA
  clear h1 h2 h3 hWA hBA
  go_enter Tryd.func45, Tryd.ntmps45
  go_wp2_with (go_at_call 58; (with_reducible refine (hC.out).mono ?_))
  rintro e W2 ⟨hB, h⟩
  have HB := Aside0.mk (HBA.out.trans hB)
  clear hB
  rcases h with ⟨hn, rfl⟩ | ⟨z, hz, rfl, hO⟩
  · have HN := Aside0.mk hn
    have hq := HIV.out W2 HB.out
    clear hn hC HBA
    go_wp2
    go_quiet (fail)
    go_wp2
    go_ret2
    exact ⟨pw_below_drewN HB.out _, .inl ⟨HN.out, _, rfl⟩⟩
  · have HN := Aside0.mk (And.intro hz hO)
    clear hz hO hC HBA
    go_wp2
    go_ret2
    exact ⟨HB.out, .inr ⟨z, _, HN.out.1, rfl, HN.out.2⟩⟩

/-! a number's bytes -/
abbrev TB : Nat := 5
def b8cells (cur : List Int) : Array Value := (cur.map (Value.int .u8)).toArray
def Bu8 (g : Nat) (cur : List Int) (w : World) : Prop := w.heap[g]? = some (.cells (b8cells cur) TB (0, 0))
theorem b8_get (cur : List Int) (i : Nat) (h : i < cur.length) : (b8cells cur)[i]? = some (Value.int .u8 cur[i]) := by
  unfold b8cells
  rw [List.getElem?_toArray, List.getElem?_map, List.getElem?_eq_getElem h]
  rfl
theorem Bu8.cell {g : Nat} {cur : List Int} {w : World} (h : Bu8 g cur w) (i : Nat) (hi : i < cur.length) : w.cell? ⟨g, i, none⟩ = some (.int .u8 cur[i]) := (blk_cell h i).trans (b8_get cur i hi)
theorem Bu8.frozen {g : Nat} {cur : List Int} {w : World} (h : Bu8 g cur w) (i : Nat) : w.frozen? ⟨g, i, none⟩ = false := blk_frozen h i
theorem Bu8.put {g : Nat} {cur : List Int} {w : World} (h : Bu8 g cur w) (i : Nat) (x : Int) : Bu8 g (cur.set i x) (w.setCell ⟨g, i, none⟩ (.int .u8 x)) := by
  refine blk_put h i (.int .u8 x) ?_
  unfold b8cells
  rw [List.map_set]
  simp
theorem Bu8.made (n : Nat) (w : World) : Bu8 w.heap.size (List.replicate n 0) (w.alloc (.cells (madeCells #[Value.int .u8 0] n) TB)) := by
  have e : madeCells #[Value.int .u8 0] n = b8cells (List.replicate n 0) := by
    apply Array.ext'
    rw [toList_madeCells_one]
    unfold b8cells
    simp
  rw [e]
  exact blk_new w _
theorem Bu8.C {g : Nat} {cur : List Int} {w : World} (h : Bu8 g cur w) (hm : cur.length ≤ maxLen) (i : Nat) (hi : i ≤ cur.length) : Kd.C (Kd.int .u8) w (some ⟨g, i, none⟩) (cur.drop i).length (cur.drop i) := by
  refine ⟨rfl, ?_, fun _ => ⟨⟨g, i, none⟩, rfl, fun j p hj => ⟨[.int .u8 p], rfl, ?_, fun k u hu => ?_⟩⟩⟩
  · rw [List.length_drop]
    unfold maxLen at hm
    omega
  · simp [Kd.int, Kd.scalar]
  · have hk : k = 0 := by
      have := (List.getElem?_eq_some_iff.1 hu).1
      simp at this
      exact this
    subst hk
    have hu2 : u = .int .u8 p := by simpa using hu.symm
    subst hu2
    rw [List.getElem?_drop] at hj
    obtain ⟨h1, h2⟩ := List.getElem?_eq_some_iff.1 hj
    have h3 := h.cell (i + j) h1
    rw [h2] at h3
    have e : (Addr.mk g i none).add (j * (Kd.int .u8).sz + 0) = ⟨g, i + j, none⟩ := by
      have : (Kd.int .u8).sz = 1 := rfl
      rw [this, Nat.mul_one, Nat.add_zero]
      simp [Addr.add]
    rw [e]
    exact h3
def bA (xs : List Nat) (m : Nat) : Nat := (xs.getD (m / 8) 0 / 256 ^ (m % 8)) % 256
def bcur (xs : List Nat) (n m : Nat) : List Int := List.replicate (8 * n - m) 0 ++ ni ((List.range m).map (bA xs)).reverse
theorem bcur_length (xs : List Nat) (n m : Nat) (h : m ≤ 8 * n) : (bcur xs n m).length = 8 * n := by
  simp [bcur, ni]
  omega
theorem bcur_zero (xs : List Nat) (n : Nat) : bcur xs n 0 = List.replicate (8 * n) 0 := by simp [bcur, ni]
theorem bcur_set (xs : List Nat) (n m : Nat) (h : m < 8 * n) : (bcur xs n m).set (8 * n - m - 1) ((bA xs m : Nat) : Int) = bcur xs n (m + 1) := by
  have e : 8 * n - m = (8 * n - (m + 1)) + 1 := by omega
  have e2 : 8 * n - m - 1 = 8 * n - (m + 1) := by omega
  unfold bcur
  rw [e2, e, List.replicate_succ', List.append_assoc, List.set_append_right _ _ (by simp), List.length_replicate, Nat.sub_self, List.range_succ]
  simp [ni]
theorem ni_get {xs : List Nat} {k : Nat} (h : k < xs.length) : rd (ni xs) (k : Int) = ((xs.getD k 0 : Nat) : Int) := by
  rw [Evs.rd_nat]
  unfold ni
  rw [List.getD_eq_getElem?_getD, List.getElem?_map, List.getD_eq_getElem?_getD, List.getElem?_eq_getElem h]
  rfl
theorem bA_eq (xs : List Nat) (k t : Nat) (h : t < 8) : bA xs (8 * k + t) = (xs.getD k 0 / 256 ^ t) % 256 := by
  unfold bA
  have e1 : (8 * k + t) / 8 = k := by omega
  have e2 : (8 * k + t) % 8 = t := by omega
  rw [e1, e2]
def lzN (l : List Int) : Nat := (l.takeWhile (· == 0)).length
theorem lz_at : ∀ (l : List Int) (i : Nat), (∀ j, j < i → l[j]? = some 0) → (i = l.length ∨ ∃ x, l[i]? = some x ∧ x ≠ 0) → i = lzN l
  | [], i, h, h2 => by
    rcases h2 with h2 | ⟨x, h2, _⟩
    · exact h2
    · simp at h2
  | y :: l, 0, h, h2 => by
    rcases h2 with h2 | ⟨x, h2, hx⟩
    · simp at h2
    · have e : y = x := by simpa using h2
      subst e
      simp [lzN, hx]
  | y :: l, i + 1, h, h2 => by
    have h0 : y = 0 := by simpa using h 0 (by omega)
    have ih := lz_at l i (fun j hj => by simpa using h (j + 1) (by omega)) (by
      rcases h2 with h2 | ⟨x, h2, hx⟩
      · exact .inl (by simpa using h2)
      · exact .inr ⟨x, by simpa using h2, hx⟩)
    subst h0
    simp only [lzN] at ih ⊢
    simp [ih]
set_option maxRecDepth 100000 in
set_option maxHeartbeats 2000000 in
theorem ss_bytes (A : Option Addr) (c : Nat) (xs : List Nat) (g n : Nat) (w0 w : World) (hn : n = xs.length) (hr : Kd.C (Kd.int .u64) w0 A n (ni xs)) (hc : n ≤ c) (hl : n ≤ 2000000) (hb0 : Below w0.heap.size w0 w) (hg : w0.heap.size ≤ g) (hZ : Bu8 g (List.replicate (8 * n) 0) w) :
    Calls Tryd.prog 80 #[.slice A n c, .slice (some ⟨g, 0, none⟩) (8 * n) (8 * n)] w fun e w' => e = .returned (.int .i64 (lzN (bcur xs n (8 * n)) : Int)) ∧ Bu8 g (bcur xs n (8 * n)) w' ∧ Below w0.heap.size w0 w' := by
  have HR := Aside0.mk hr
  have HB0 := Aside0.mk hb0
  have HH : Aside0 (n = xs.length ∧ n ≤ c ∧ w0.heap.size ≤ g) := ⟨hn, hc, hg⟩
  have HZ : Aside0 (Bu8 g (bcur xs n 0) w) := ⟨by rw [bcur_zero]; exact hZ⟩
  have hml : 8 * n ≤ 9223372036854775807 := by omega
  have hmn : n ≤ 9223372036854775807 := by omega
  clear hn hr hc hb0 hg hZ
  go_enter Tryd.func80, Tryd.ntmps80
  go_wp2
  go_loopw [4, 12] (fun v4 v12 wr => ∃ k : Nat, v4 = .int .i64 ((8 * (n - k) : Nat) : Int) ∧ v12 = .int .i64 (k : Int) ∧ k ≤ n ∧ Aside0 (Bu8 g (bcur xs n (8 * k)) wr) ∧ Aside0 (Below w0.heap.size w0 wr)) (fun v4 v12 wr => n - ssN v12)
  case atStart => exact ⟨0, by first | rfl | simp, rfl, Nat.zero_le _, HZ, HB0⟩
  case round =>
    clear HZ HB0
    obtain ⟨k, rfl, rfl, hk, HZ, HB⟩ := hrel
    by_cases h : k < n
    · have hd : decide ((k : Int) < (n : Int)) = true := decide_eq_true (by omega)
      have hd2 : decide (k < n) = true := decide_eq_true h
      obtain ⟨ad, rfl, hx⟩ := Kd.at_int (Kd.C_below HR.out HB.out) (k : Int) (by omega) (by omega)
      rw [Int.toNat_natCast, ni_get (by have := HH.out.1; omega)] at hx
      have hk0 : (0 : Int) ≤ (k : Int) := by omega
      have hk1 : (k : Int) < (n : Int) := by omega
      obtain ⟨x, hxx⟩ : ∃ x, x = xs.getD k 0 := ⟨_, rfl⟩
      rw [← hxx] at hx
      have HX := Aside0.mk hxx
      clear hxx
      have HXL : Aside0 (k < n) := ⟨h⟩
      clear h
      go_wp2
      obtain ⟨wo, hwo⟩ : ∃ wo : World, wo = wr := ⟨_, rfl⟩
      subst hwo
      go_loopw [4, 6, 7] (fun v4 v6 v7 wr => ∃ m y t : Nat, v4 = .int .i64 (m : Int) ∧ v6 = .int .u64 (y : Int) ∧ v7 = .int .i64 (t : Int) ∧ Aside0 (m + t = 8 * (n - k) ∧ y = x / 256 ^ t) ∧ t ≤ 8 ∧ Aside0 (Bu8 g (bcur xs n (8 * k + t)) wr) ∧ Aside0 (Below w0.heap.size w0 wr)) (fun v4 v6 v7 wr => 8 - ssN v7)
      case atStart => exact ⟨8 * (n - k), x, 0, rfl, rfl, rfl, ⟨rfl, by simp⟩, by omega, HZ, HB⟩
      case round =>
        clear HZ HB hx
        obtain ⟨m, y, t, rfl, rfl, rfl, HE, ht, HZ, HB⟩ := hrel
        by_cases h8 : t < 8
        · have hd8 : decide ((t : Int) < 8) = true := decide_eq_true (by omega)
          have hm := HE.out.1
          have hkn := HXL.out
          have hm1 : 1 ≤ m := by omega
          have hm2 : ((m : Int) - 1).toNat = m - 1 := by omega
          have hm0 : (0 : Int) ≤ (m : Int) - 1 := by omega
          have hm3 : (m : Int) - 1 < 8 * (n : Int) := by omega
          have hm4 : (1 : Int) ≤ (m : Int) := by omega
          have hm5 : m ≤ 8 * n := by omega
          have hmw : wrap64 ((m : Int) - 1) = (m : Int) - 1 := by unfold wrap64; omega
          have hd9 : decide ((0 : Int) ≤ (m : Int) - 1) = true := decide_eq_true (by omega)
          have hlen := bcur_length xs n (8 * k + t) (by omega)
          obtain ⟨cv, hcell⟩ : ∃ cv, wr.cell? ⟨g, m - 1, none⟩ = some cv := ⟨_, HZ.out.cell (m - 1) (by rw [hlen]; omega)⟩
          have hfrz := HZ.out.frozen (m - 1)
          have hby : bA xs (8 * k + t) = y % 256 := by rw [bA_eq xs k t h8, HE.out.2, HX.out]
          have hput := HZ.out.put (m - 1) ((y % 256 : Nat) : Int)
          have hset := bcur_set xs n (8 * k + t) (by omega)
          have e8 : 8 * n - (8 * k + t) - 1 = m - 1 := by omega
          rw [e8, hby] at hset
          rw [hset] at hput
          have hyc : ((y % 256 : Nat) : Int) = (y : Int) % 256 := by omega
          rw [hyc] at hput
          have HP := Aside0.mk hput
          have HB3 : Aside0 (Below w0.heap.size w0 (wr.setCell ⟨g, m - 1, none⟩ (.int .u8 ((y : Int) % 256)))) := ⟨HB.out.setCell (p := ⟨g, m - 1, none⟩) HH.out.2.2 _⟩
          have HE2 : Aside0 (m - 1 + (t + 1) = 8 * (n - k) ∧ y / 256 = x / 256 ^ (t + 1)) := ⟨by omega, by rw [HE.out.2, Nat.pow_succ, Nat.div_div_eq_div_mul]⟩
          have HM1 : Aside0 ((m : Int) - 1 = ((m - 1 : Nat) : Int)) := ⟨by omega⟩
          clear hm hkn hlen hby hput hset e8 HE hyc
          go_wp2
          go_roundw
          case rel => exact ⟨m - 1, y / 256, t + 1, by rw [HM1.out], by first | rfl | (congr 1), by first | rfl | (congr 1), HE2, by omega, HP, HB3⟩
          case measure =>
            show 8 - ssN _ < 8 - ssN _
            simp only [ssN]
            omega
        · obtain rfl : t = 8 := by omega
          have hd8 : decide (((8 : Nat) : Int) < 8) = false := by decide
          have hm : m = 8 * (n - (k + 1)) := by have := HE.out.1; have := HXL.out; omega
          subst hm
          have HK := HXL.out
          go_wp2
          go_roundw
          case rel => exact ⟨k + 1, rfl, by first | rfl | (congr 1), by omega, HZ, HB⟩
          case measure =>
            show n - ssN _ < n - ssN _
            simp only [ssN]
            omega
    · obtain rfl : k = n := by omega
      have hd : decide ((k : Int) < (k : Int)) = false := decide_eq_false (by omega)
      have e0 : 8 * (k - k) = 0 := by omega
      rw [e0]
      clear h e0
      go_wp2
      obtain ⟨wo, hwo⟩ : ∃ wo : World, wo = wr := ⟨_, rfl⟩
      subst hwo
      go_loopw [4] (fun v4 wr => ∃ i : Nat, v4 = .int .i64 (i : Int) ∧ i ≤ 8 * k ∧ Aside0 (wr = wo) ∧ Aside0 (∀ j, j < i → (bcur xs k (8 * k))[j]? = some 0)) (fun v4 wr => 8 * k - ssN v4)
      case atStart => exact ⟨0, rfl, Nat.zero_le _, ⟨rfl⟩, ⟨fun j hj => absurd hj (by omega)⟩⟩
      case round =>
        obtain ⟨i, rfl, hi, ⟨rfl⟩, HA⟩ := hrel
        by_cases h8 : i < 8 * k
        · have hd8 : decide ((i : Int) < 8 * (k : Int)) = true := decide_eq_true (by omega)
          have hd9 : decide (i < 8 * k) = true := decide_eq_true h8
          have hlen := bcur_length xs k (8 * k) (Nat.le_refl _)
          obtain ⟨x, hx⟩ : ∃ x, x = (bcur xs k (8 * k))[i]'(by rw [hlen]; exact h8) := ⟨_, rfl⟩
          have hcell := HZ.out.cell i (by rw [hlen]; exact h8)
          rw [← hx] at hcell
          have hget : (bcur xs k (8 * k))[i]? = some x := by rw [hx, List.getElem?_eq_getElem]
          have HG := Aside0.mk hget
          have hi0 : (0 : Int) ≤ (i : Int) := by omega
          have hi1 : (i : Int) < 8 * (k : Int) := by omega
          clear hx hget hlen
          by_cases hz : x = 0
          · subst hz
            go_wp2
            go_roundw
            case rel => exact ⟨i + 1, by first | rfl | (congr 1), by omega, ⟨by first | rfl | trivial⟩, ⟨fun j hj => by
              rcases Nat.lt_or_ge j i with h | h
              · exact HA.out j h
              · obtain rfl : j = i := by omega
                exact HG.out⟩⟩
            case measure =>
              show 8 * k - ssN _ < 8 * k - ssN _
              simp only [ssN]
              omega
          · have hb : (x == 0) = false := beq_eq_false_iff_ne.2 hz
            have HQ : Aside0 (i = lzN (bcur xs k (8 * k))) := ⟨lz_at _ i HA.out (.inr ⟨x, HG.out, hz⟩)⟩
            clear hz
            go_wp2
            go_ret
            exact ⟨by rw [← HQ.out]; rfl, HZ.out, HB.out⟩
        · have hd8 : decide ((i : Int) < 8 * (k : Int)) = false := decide_eq_false (by omega)
          have hd9 : decide (i < 8 * k) = false := decide_eq_false h8
          have HQ : Aside0 (i = lzN (bcur xs k (8 * k))) := ⟨lz_at _ i HA.out (.inl (by rw [bcur_length _ _ _ (Nat.le_refl _)]; omega))⟩
          clear h8
          go_wp2
          go_ret
          exact ⟨by rw [← HQ.out]; rfl, HZ.out, HB.out⟩

/-! a number's bytes, the highest one first, without zeros ahead -/
def magOf (n : Nat) : List UInt8 := if h : n = 0 then [] else magOf (n / 256) ++ [UInt8.ofNat (n % 256)]
termination_by n
decreasing_by omega
theorem magOf_zero : magOf 0 = [] := by
  rw [magOf]
  rfl
theorem magOf_pos {n : Nat} (h : n ≠ 0) : magOf n = magOf (n / 256) ++ [UInt8.ofNat (n % 256)] := by
  conv => lhs; rw [magOf]
  rw [dif_neg h]
theorem u8_back (n : Nat) (h : n < 256) : (UInt8.ofNat n).toNat = n := by
  simp
  omega
theorem beV_snoc (l : List UInt8) (c : UInt8) : Bv.beV (l ++ [c]) = 256 * Bv.beV l + (c.toNat : Int) := by
  rw [← Bv.beV_le, ← Bv.beV_le, ← By.numsOf_append, List.reverse_append]
  show (c.toNat : Int) + 256 * Bv.leV (By.numsOf l).reverse = _
  omega
theorem magOf_val (n : Nat) : Bv.beV (magOf n) = (n : Int) := by
  induction n using Nat.strongRecOn with
  | ind n ih =>
    by_cases h : n = 0
    · subst h
      rw [magOf_zero]
      rfl
    · rw [magOf_pos h, beV_snoc, ih (n / 256) (by omega), u8_back _ (by omega)]
      omega
theorem magOf_can (n : Nat) : Bv.canB (magOf n) := by
  induction n using Nat.strongRecOn with
  | ind n ih =>
    by_cases h : n = 0
    · subst h
      rw [magOf_zero]
      exact fun h => by cases h
    · have h1 := ih (n / 256) (by omega)
      unfold Bv.canB at h1 ⊢
      rw [magOf_pos h]
      by_cases h2 : n / 256 = 0
      · rw [h2, magOf_zero]
        intro h3
        have h4 : UInt8.ofNat (n % 256) = 0 := by simpa using h3
        have h5 := u8_back (n % 256) (by omega)
        rw [h4] at h5
        have h6 : (0 : UInt8).toNat = 0 := rfl
        omega
      · have h3 := magOf_pos h2
        cases hm : magOf (n / 256) with
        | nil => rw [hm] at h3; simp at h3
        | cons x l => rw [hm] at h1; exact h1
theorem magOf_of {l : List UInt8} {n : Nat} (hc : Bv.canB l) (hv : Bv.beV l = (n : Int)) : l = magOf n := Bv.beV_one hc (magOf_can n) (hv.trans (magOf_val n).symm)
/-! the bytes of a row of words -/
theorem bA_lt (xs : List Nat) (m : Nat) : bA xs m < 256 := Nat.mod_lt _ (by decide)
theorem bA_cons (x : Nat) (xs : List Nat) (m : Nat) : bA (x :: xs) (8 + m) = bA xs m := by
  unfold bA
  have e1 : (8 + m) / 8 = m / 8 + 1 := by omega
  have e2 : (8 + m) % 8 = m % 8 := by omega
  rw [e1, e2]
  rfl
theorem leV_word (x : Nat) (xs : List Nat) (hx : x < 18446744073709551616) : Bv.leV (ni ((List.range 8).map (bA (x :: xs)))) = (x : Int) := by
  have e : (List.range 8).map (bA (x :: xs)) = [x % 256, x / 256 % 256, x / 65536 % 256, x / 16777216 % 256, x / 4294967296 % 256, x / 1099511627776 % 256, x / 281474976710656 % 256, x / 72057594037927936 % 256] := by
    simp [List.range_succ, bA]
  rw [e]
  simp only [ni, List.map_cons, List.map_nil, Bv.leV]
  omega
theorem leV_words : ∀ (xs : List Nat), (∀ x ∈ xs, x < 18446744073709551616) → Bv.leV (ni ((List.range (8 * xs.length)).map (bA xs))) = Big.natW (ni xs)
  | [], _ => rfl
  | x :: xs, h => by
    have ih := leV_words xs (fun y hy => h y (by simp [hy]))
    have e : 8 * (x :: xs).length = 8 + 8 * xs.length := by simp; omega
    have e2 : (List.map (bA (x :: xs)) (List.map (fun m => 8 + m) (List.range (8 * xs.length)))) = List.map (bA xs) (List.range (8 * xs.length)) := by
      rw [List.map_map]
      apply List.map_congr_left
      intro m _
      exact bA_cons x xs m
    rw [e, List.range_add, List.map_append, ni_append, Bv.leV_append, leV_word x xs (h x (by simp)), e2, ih]
    show (x : Int) + 256 ^ (ni ((List.range 8).map (bA (x :: xs)))).length * _ = (x : Int) + 18446744073709551616 * Big.natW (ni xs)
    rw [ni_length, List.length_map, List.length_range]
    rfl
theorem lz_drop : ∀ (l : List UInt8), (By.numsOf l).drop (lzN (By.numsOf l)) = By.numsOf (l.dropWhile (· == 0))
  | [] => rfl
  | c :: l => by
    have ih := lz_drop l
    have e : By.numsOf (c :: l) = (c.toNat : Int) :: By.numsOf l := rfl
    by_cases hc : c = 0
    · subst hc
      have h1 : lzN (By.numsOf (0 :: l)) = lzN (By.numsOf l) + 1 := by
        simp [lzN, e]
      rw [h1, e, List.drop_succ_cons, ih]
      simp
    · have h0 : ((c.toNat : Int) == 0) = false := beq_eq_false_iff_ne.2 (fun h => hc (UInt8.toNat_inj.1 (show c.toNat = (0 : UInt8).toNat by have : (0 : UInt8).toNat = 0 := rfl; omega)))
      have h1 : lzN (By.numsOf (c :: l)) = 0 := by simp [lzN, e, h0]
      have h2 : (c == 0) = false := beq_eq_false_iff_ne.2 hc
      rw [h1, List.drop_zero, List.dropWhile_cons, h2]
      rfl
theorem dropz_can : ∀ (l : List UInt8), Bv.canB (l.dropWhile (· == 0))
  | [] => fun h => by cases h
  | c :: l => by
    rw [List.dropWhile_cons]
    split
    · exact dropz_can l
    · rename_i h
      intro h2
      apply h
      have : c = 0 := by simpa using h2
      rw [this]
      rfl
theorem dropz_val : ∀ (l : List UInt8), Bv.beV (l.dropWhile (· == 0)) = Bv.beV l
  | [] => rfl
  | c :: l => by
    rw [List.dropWhile_cons]
    split
    · rename_i h
      have : c = 0 := by simpa using h
      subst this
      rw [dropz_val l]
      show _ = ((0 : UInt8).toNat : Int) * _ + _
      have h0 : (0 : UInt8).toNat = 0 := rfl
      rw [h0]
      simp
    · rfl
theorem ni_bytes (R : List Nat) (h : ∀ x ∈ R, x < 256) : ni R = By.numsOf (R.map UInt8.ofNat) := by
  unfold ni By.numsOf
  rw [List.map_map]
  apply List.map_congr_left
  intro x hx
  have := u8_back x (h x hx)
  simp only [Function.comp]
  omega
theorem bytes_mag (xs : List Nat) (hx : ∀ x ∈ xs, x < 18446744073709551616) (N n : Nat) (hN : Big.natW (ni xs) = (N : Int)) (hn : n = xs.length) : strOfNums ((bcur xs n (8 * n)).drop (lzN (bcur xs n (8 * n)))) = By.ofL (magOf N) := by
  subst hn
  have hR : ∀ x ∈ ((List.range (8 * xs.length)).map (bA xs)).reverse, x < 256 := fun x h => by
    obtain ⟨m, _, rfl⟩ := List.mem_map.1 (List.mem_reverse.1 h)
    exact bA_lt xs m
  have e : bcur xs xs.length (8 * xs.length) = By.numsOf ((((List.range (8 * xs.length)).map (bA xs)).reverse).map UInt8.ofNat) := by
    rw [← ni_bytes _ hR]
    simp [bcur]
  rw [e, lz_drop, By.strOf_numsOf]
  refine congrArg By.ofL (magOf_of (dropz_can _) ?_)
  rw [dropz_val, ← Bv.beV_le, ← ni_bytes _ hR, ← hN, ← leV_words xs hx]
  simp [ni]

theorem ss_infoB : (Tryd.prog.info? TB).map (fun i => (i.zero, i.size, i.bytes)) = some (some (.int .u8 0), 1, 1) := by kernel_rfl
theorem ws_ni {ws : List Int} (h : ∀ x ∈ ws, 0 ≤ x ∧ x ≤ 18446744073709551615) : ∃ xs : List Nat, ws = ni xs ∧ ∀ x ∈ xs, x < 18446744073709551616 := by
  refine ⟨ws.map Int.toNat, ?_, fun x hx => ?_⟩
  · unfold ni
    rw [List.map_map]
    conv => lhs; rw [← List.map_id ws]
    apply List.map_congr_left
    intro x hx
    have := h x hx
    simp only [Function.comp, id]
    omega
  · obtain ⟨y, hy, rfl⟩ := List.mem_map.1 hx
    have := h y hy
    omega
theorem lzN_le (l : List Int) : lzN l ≤ l.length := by
  unfold lzN
  induction l with
  | nil => simp
  | cons x l ih =>
    rw [List.takeWhile_cons]
    split
    · simpa using ih
    · simp
set_option maxRecDepth 100000 in
set_option maxHeartbeats 2000000 in
theorem ss_Bytes (o : Nat) (A : Option Addr) (c n : Nat) (neg : Bool) (xs : List Nat) (w : World) (ho : IB o neg (.slice A n c) w) (hn : n = xs.length) (hr : Kd.C (Kd.int .u64) w A n (ni xs)) (hc : n ≤ c) (hl : n ≤ 2000000) :
    Calls Tryd.prog 67 #[.pointer (some ⟨o, 0, none⟩)] w fun e w' => ∃ A' c' m, e = .returned (.slice A' m c') ∧ Kd.C (Kd.int .u8) w' A' m ((bcur xs n (8 * n)).drop (lzN (bcur xs n (8 * n)))) ∧ Below w.heap.size w w' := by
  obtain ⟨i0, hi, hz0, hz1, hz2⟩ := info_parts ss_infoB
  have hm := run_make (P := Tryd.prog) w 65 TB i0 (.int .u8 0) Tryd.underlying65 hi hz0 .i64 .i64 ((n : Int) * 8) ((n : Int) * 8) (by omega) (by omega) (by rw [hz2]; omega) (by omega)
  rw [hz1] at hm
  have e8 : ((n : Int) * 8).toNat = 8 * n := by omega
  rw [e8, Nat.mul_one] at hm
  obtain ⟨WB, hWB⟩ : ∃ WB, WB = w.alloc (.cells (madeCells #[Value.int .u8 0] (8 * n)) TB) := ⟨_, rfl⟩
  have hBB : Below w.heap.size w WB := by rw [hWB]; exact (Below.refl _ _).alloc (Nat.le_refl _) _
  have hZ : Bu8 w.heap.size (List.replicate (8 * n) 0) WB := by rw [hWB]; exact Bu8.made (8 * n) w
  have hC := Aside0.mk (ss_bytes A c xs w.heap.size n w WB hn hr hc hl hBB (Nat.le_refl _) hZ)
  have c1 := ho.c1
  have c1' : WB.cell? ⟨o, 1, none⟩ = some (.slice A n c) := (hBB.cell (p := ⟨o, 1, none⟩) (Array.getElem?_eq_some_iff.1 ho).1).trans c1
  have hlen := bcur_length xs n (8 * n) (Nat.le_refl _)
  have hlz := lzN_le (bcur xs n (8 * n))
  rw [hlen] at hlz
  have HL : Aside0 ((bcur xs n (8 * n)).length = 8 * n ∧ n ≤ 2000000) := ⟨hlen, hl⟩
  have hnm : n ≤ 9223372036854775807 := by omega
  have hmm : 8 * n ≤ 9223372036854775807 := by omega
  have hw8 : wrap64 ((n : Int) * 8) = (n : Int) * 8 := by unfold wrap64; omega
  have hm2 : (Instr.makeSlice 65 (.int .i64 ((n : Int) * 8)) (.int .i64 ((n : Int) * 8))).run Tryd.prog w = .ok (.slice (some ⟨w.heap.size, 0, none⟩) (8 * n) (8 * n)) WB := by rw [hWB]; exact hm
  clear hm
  clear ho hn hr hc hBB hZ hWB hi hz0 hz1 hz2 hlen e8 hl
  generalize bcur xs n (8 * n) = cur at hC hlz HL ⊢
  generalize lzN cur = i at hC hlz ⊢
  have hi0 : (0 : Int) ≤ (i : Int) := by omega
  have hi1 : (i : Int) ≤ 8 * (n : Int) := by omega
  by_cases he : i = 8 * n
  · subst he
    go_enter Tryd.func67, Tryd.ntmps67
    go_wp2_with (go_at_call 80; (with_reducible refine (hC.out).mono ?_))
    rintro e W2 ⟨rfl, hZ, hB⟩
    have HZ := Aside0.mk (And.intro hZ hB)
    clear hZ hB
    go_wp2
    go_ret
    have hd : cur.drop (8 * n) = [] := by rw [List.drop_eq_nil_iff]; exact Nat.le_of_eq HL.out.1
    rw [hd]
    exact ⟨_, _, _, rfl, ⟨by simp, by omega, fun h => absurd h (by simp)⟩, HZ.out.2⟩
  · have he2 : ¬ (8 * n = i) := fun h => he h.symm
    go_enter Tryd.func67, Tryd.ntmps67
    go_wp2_with (go_at_call 80; (with_reducible refine (hC.out).mono ?_))
    rintro e W2 ⟨rfl, hZ, hB⟩
    have HZ := Aside0.mk (And.intro hZ hB)
    clear hZ hB
    go_wp2
    go_ret
    have h1 := HZ.out.1.C (by rw [HL.out.1]; unfold maxLen; have := HL.out.2; omega) i (by rw [HL.out.1]; omega)
    rw [List.length_drop, HL.out.1] at h1
    exact ⟨_, _, _, rfl, by simpa using h1, HZ.out.2⟩
def sgnZ (z : Int) : Int := if z < 0 then -1 else if z = 0 then 0 else 1
theorem natW_pos {xs : List Nat} (h : Big.okW (ni xs)) : xs = [] ∨ 0 < Big.natW (ni xs) := by
  cases xs with
  | nil => exact .inl rfl
  | cons x l => exact .inr (Bn.natW_len [] (ni (x :: l)) ⟨fun x h => absurd h (by simp), by simp⟩ h (by simp [ni]))
theorem natW_short {ws : List Int} (h : Big.okW ws) (k : Nat) (hk : Big.natW ws ≤ 18446744073709551616 ^ k) : ws.length ≤ k + 1 := by
  refine Decidable.byContradiction fun hc => ?_
  have hb : Big.okW (List.replicate k 0 ++ [1]) := by
    refine ⟨fun x hx => ?_, by simp⟩
    rcases List.mem_append.1 hx with h | h
    · rw [List.eq_of_mem_replicate h]
      omega
    · rw [List.mem_singleton.1 h]
      omega
  have h1 := Bn.natW_len _ ws hb h (by simp; omega)
  have h2 : Big.natW (List.replicate k 0 ++ [1]) = 18446744073709551616 ^ k := by
    rw [Bn.natW_append]
    have : ∀ n, Big.natW (List.replicate n 0) = 0 := by
      intro n
      induction n with
      | zero => rfl
      | succ n ih => rw [List.replicate_succ, Big.natW, ih]; rfl
    rw [this, List.length_replicate]
    simp [Big.natW]
  omega
theorem tp_W (n : Nat) : ((tp n : Nat) : Int) ≤ 18446744073709551616 ^ n := by
  have h : tp n ≤ 18446744073709551616 ^ n := Nat.pow_le_pow_left (by omega) n
  have h2 : (((18446744073709551616 ^ n : Nat)) : Int) = (18446744073709551616 : Int) ^ n := Int.natCast_pow _ _
  omega
theorem cvt_small {s : ByteArray} {z : Int} (h : cvt s = some z) : z.natAbs ≤ tp s.size := by
  unfold cvt at h
  split at h
  · rename_i hc
    have hb := Bv.decV_bounds _ hc.2
    have hle : ((By.bl s).drop (sgN s)).length ≤ s.size := by rw [List.length_drop, By.bl_length]; omega
    have h1 := tp_le hle
    have h2 : ((tp ((By.bl s).drop (sgN s)).length : Nat) : Int) = (10 : Int) ^ ((By.bl s).drop (sgN s)).length := Int.natCast_pow _ _
    have h3 := Option.some.inj h
    split at h3 <;> omega
  · cases h
/-- A number as plain data. -/
def plainS (z : Int) : ByteArray := By.ofL (magOf z.natAbs)
set_option maxRecDepth 100000 in
set_option maxHeartbeats 2000000 in
theorem ss_plain_bytes (v : Value) (z : Int) (w : World) (n : Nat) (hn : n ≤ 1000000) (hz : z.natAbs ≤ tp n) (h : Big.At w z v) : Calls Tryd.prog 67 #[v] w fun e w' => ∃ A' c' m L, e = .returned (.slice A' m c') ∧ Kd.C (Kd.int .u8) w' A' m L ∧ strOfNums L = plainS z ∧ Below w.heap.size w w' := by
  obtain ⟨o, A, c, neg, ws, rfl, ho, hr, hc, hok, hng, rfl⟩ := h
  obtain ⟨xs, rfl, hxx⟩ := ws_ni hok.1
  have hnn := Bn.natW_nonneg _ hok.1
  have hN : Big.natW (ni xs) = (((Big.valW neg (ni xs)).natAbs : Nat) : Int) := by
    unfold Big.valW
    split <;> omega
  have hlen := natW_short hok n (by have := tp_W n; omega)
  rw [ni_length] at hlen
  rw [ni_length] at hr hc ho
  refine (ss_Bytes o A c xs.length neg xs w ho rfl hr hc (by omega)).mono ?_
  rintro e w' ⟨A', c', m, rfl, hC, hB⟩
  exact ⟨A', c', m, _, rfl, hC, bytes_mag xs hxx _ _ hN rfl, hB⟩
set_option maxHeartbeats 1000000 in
theorem ss_Sign (v : Value) (z : Int) (w : World) (h : Big.At w z v) : Calls Tryd.prog 66 #[v] w fun e w' => e = .returned (.int .i64 (sgnZ z)) ∧ w = w' := by
  obtain ⟨o, A, c, neg, ws, rfl, ho, hr, hc, hok, hng, rfl⟩ := h
  obtain ⟨xs, rfl, hxx⟩ := ws_ni hok.1
  have hI : IB o neg (.slice A (ni xs).length c) w := ho
  have c0 := hI.c0
  have c1 := hI.c1
  have hz := natW_pos hok
  obtain ⟨n, hn⟩ : ∃ n, n = (ni xs).length := ⟨_, rfl⟩
  rw [← hn] at c1
  rw [ni_length] at hn
  clear ho hr hc hI
  have hm := hok.1
  clear hm
  by_cases h0 : n = 0
  · subst h0
    have hx : xs = [] := List.eq_nil_of_length_eq_zero hn.symm
    subst hx
    have hneg : neg = false := by
      cases neg
      · rfl
      · exact absurd rfl (hng rfl)
    subst hneg
    clear hng hz hxx hok hn
    go_enter Tryd.func66, Tryd.ntmps66
    go_wp2
    go_ret
    exact ⟨rfl, rfl⟩
  · have hb : ((n : Int) == 0) = false := beq_eq_false_iff_ne.2 (by omega)
    have hb2 : (n == 0) = false := beq_eq_false_iff_ne.2 h0
    have hp : 0 < Big.natW (ni xs) := by
      rcases hz with h | h
      · subst h
        exact absurd hn h0
      · exact h
    have HS : Aside0 (sgnZ (Big.valW neg (ni xs)) = if neg then -1 else 1) := ⟨by
      unfold sgnZ Big.valW
      cases neg
      · rw [if_neg (by simp; omega), if_neg (by simp; omega)]
        rfl
      · rw [if_pos (by simp; omega)]
        rfl⟩
    rw [HS.out]
    clear hz hp hng hok hxx hn h0 HS
    cases neg
    · go_enter Tryd.func66, Tryd.ntmps66
      go_wp2
      go_ret
      exact ⟨rfl, rfl⟩
    · go_enter Tryd.func66, Tryd.ntmps66
      go_wp2
      go_ret
      exact ⟨rfl, rfl⟩
set_option maxRecDepth 100000 in
set_option maxHeartbeats 2000000 in
theorem ss_plain (v : Value) (z : Int) (w : World) (n : Nat) (hn : n ≤ 1000000) (hz : z.natAbs ≤ tp n) (h : Big.At w z v) : Calls Tryd.prog 52 #[v] w fun e w' => e = .returned (.agg #[.bool (decide (z < 0)), .string (plainS z)]) ∧ Below w.heap.size w w' := by
  obtain ⟨WA, hWA⟩ : ∃ WA : World, WA = w.alloc (.cells #[.bool false, .string ⟨#[]⟩] 60) := ⟨_, rfl⟩
  have hBA : Below w.heap.size w WA := by rw [hWA]; exact (Below.refl _ _).alloc (Nat.le_refl _) _
  have hA := h.below hBA
  obtain ⟨o, hv⟩ : ∃ o, v = .pointer (some o) := by obtain ⟨o, A, c, neg, ws, h, _⟩ := h; exact ⟨_, h⟩
  have hS := Aside0.mk (ss_Sign v z WA hA)
  have hP := Aside0.mk (ss_plain_bytes v z WA n hn hz hA)
  obtain ⟨sg, hsg⟩ : ∃ sg, sg = sgnZ z := ⟨_, rfl⟩
  have hd : decide (sg < 0) = decide (z < 0) := by
    rw [hsg]
    unfold sgnZ
    by_cases h1 : z < 0
    · rw [if_pos h1, decide_eq_true h1]
      rfl
    · rw [if_neg h1, decide_eq_false h1]
      split <;> rfl
  rw [← hsg] at hS
  have hblk : Aside0 (∀ W, Below WA.heap.size WA W → W.heap[w.heap.size]? = some (.cells #[.bool false, .string ⟨#[]⟩] 60 (0, 0))) := ⟨fun W hb => by
    have hk : WA.heap[w.heap.size]? = some (.cells #[.bool false, .string ⟨#[]⟩] 60 (0, 0)) := by rw [hWA]; exact blk_new w _
    exact (hb.block w.heap.size (Array.getElem?_eq_some_iff.1 hk).1).trans hk⟩
  have HB := Aside0.mk hBA
  have HD := Aside0.mk hd
  subst hv
  clear hA hsg hz hn h hBA hd
  rw [hWA] at hS hP hblk HB
  clear hWA
  go_enter Tryd.func52, Tryd.ntmps52
  go_wp2_with (go_at_call 66; (with_reducible refine (hS.out).mono ?_); rintro e w' ⟨rfl, rfl⟩)
  go_wp2_with (go_at_call 67; (with_reducible refine (hP.out).mono ?_))
  rintro e W2 ⟨A', c', m, L, rfl, hC, hL, hB⟩
  have hcv := Kd.C_string (P := Tryd.prog) (A := A') (c := c') Tryd.underlying65 Tryd.underlying5 Tryd.underlying9 hC
  rw [hL] at hcv
  have hk := hblk.out W2 hB
  have hk3 := blk_put hk 0 (.bool (decide (sg < 0))) (cs' := #[.bool (decide (sg < 0)), .string ⟨#[]⟩]) rfl
  have hk4 := blk_put hk3 1 (.string (plainS z)) (cs' := #[.bool (decide (sg < 0)), .string (plainS z)]) rfl
  have HB2 : Aside0 (Below w.heap.size w ((W2.setCell ⟨w.heap.size, 0, none⟩ (.bool (decide (sg < 0)))).setCell ⟨w.heap.size, 1, none⟩ (.string (plainS z)))) := ⟨((HB.out.trans (hB.mono (by simp))).setCell (p := ⟨w.heap.size, 0, none⟩) (Nat.le_refl _) _).setCell (p := ⟨w.heap.size, 1, none⟩) (Nat.le_refl _) _⟩
  obtain ⟨w3, hw3⟩ : ∃ w3, W2.setCell ⟨w.heap.size, 0, none⟩ (.bool (decide (sg < 0))) = w3 := ⟨_, rfl⟩
  rw [hw3] at hk3 hk4 HB2
  obtain ⟨w4, hw4⟩ : ∃ w4, w3.setCell ⟨w.heap.size, 1, none⟩ (.string (plainS z)) = w4 := ⟨_, rfl⟩
  rw [hw4] at hk4 HB2
  have q0 := (blk_cell hk 0).trans rfl
  have f0 := blk_frozen hk 0
  have q1 := (blk_cell hk3 1).trans rfl
  have f1 := blk_frozen hk3 1
  have p0 := (blk_cell hk4 0).trans rfl
  have p1 := (blk_cell hk4 1).trans rfl
  clear hC hL hB hk hk3 hk4
  go_wp2
  exact bodyPost_ret (v := .agg #[.bool (decide (sg < 0)), .string (plainS z)]) (by simp [results, Tryd.results52, go_sem, p0, p1]) rfl ⟨by rw [HD.out], HB2.out⟩


end Go.Proofs.YtkcciinapkeaiaaDoor.Ss
