/- Numbers read from texts: SetString, convertToBigInt; numbers as bytes, as plain data. -/
import Derived.Test.YtipfmkfpaglkkaaGreatDoorProg
import Derived.Below
import Derived.Deep.Draws
import Derived.Deep.AppendLies
import Derived.Maps.AppendAt
import Derived.OwnWalk
import Derived.Laws.BytesArg
import Derived.Laws.MakeOwn
import Derived.Laws.OwnMore
import Derived.Deep.OwnRows
import Derived.Tactics
import Derived.Lib.ConvBytes
import Derived.Laws.Slices
import Derived.WalkKit
import Derived.KernelRfl
import Derived.RowKit3
import Derived.Deep.LoopGhost
import Derived.Deep.QuietTactic
import Derived.BigQuiet
import Derived.WideLaws
import Derived.Deep.DeepCutAuto
import Derived.Deep.CutBlock
import Derived.Deep.RegionHeld3
import Derived.Laws.Rows
import Derived.Lib.AppendStr
import Derived.ArgAppend
import Derived.Laws.IdiomCopy
import Derived.OrdersHeld
import Derived.Laws.BitsLemmas
import Derived.RowKit
import Derived.Test.YtipfmkfpaglkkaaGreatDoorWW
import Derived.Test.YtipfmkfpaglkkaaGreatDoorGe
import Derived.Test.YtipfmkfpaglkkaaGreatDoorSsA
namespace Go.Proofs.YtipfmkfpaglkkaaGreatDoor.Ss
open Go Go.RowKit Go.Proofs.YtipfmkfpaglkkaaGreatDoorW.PrintWords Go.Proofs.YtipfmkfpaglkkaaGreatDoorW.PrintLast Go.Proofs.YtipfmkfpaglkkaaGreatDoorW.PrintMore
attribute [local go_sem high] Go.Proofs.YtipfmkfpaglkkaaGreatDoor.Ge.gtr_str
attribute [local go_sem] max2_int min2_int max_two min_two max_three min_three max_four min_four
set_option linter.unusedVariables false
set_option linter.unusedSimpArgs false

open Go.Proofs.YtipfmkfpaglkkaaGreatDoor.Gw
attribute [local go_sem] EV
/-! which number a text is -/
def cvt (s : ByteArray) : Option Int :=
  if (By.bl s).drop (sgN s) ≠ [] ∧ ((By.bl s).drop (sgN s)).all By.dg = true then some (if sgB s then -Bv.decV ((By.bl s).drop (sgN s)) else Bv.decV ((By.bl s).drop (sgN s))) else none
theorem NV_dec : ∀ (n : Nat) (l : List UInt8), l.length = n → l.all By.dg = true → (NV l : Int) = Bv.decV l
  | 0, l, hn, _ => by
    rw [List.eq_nil_of_length_eq_zero hn]
    rfl
  | n + 1, l, hn, h => by
    rcases List.eq_nil_or_concat l with rfl | ⟨L, b, rfl⟩
    · simp at hn
    · rw [List.concat_eq_append] at hn h ⊢
      rw [List.all_append, Bool.and_eq_true] at h
      have ih := NV_dec n L (by simpa using hn) h.1
      have hb := dg_get (x := b) (by simpa using h.2)
      rw [NV_snoc, Bv.decV_snoc, ← ih]
      unfold Bv.dv
      omega
theorem sgN_le (s : ByteArray) : sgN s ≤ s.size := by
  unfold sgN
  split
  · split <;> omega
  · omega
theorem cvt_stop {s : ByteArray} {j : Nat} (h : ∃ h : sgN s + j < s.size, By.dg s[sgN s + j] = false) : cvt s = none := by
  obtain ⟨h1, h2⟩ := h
  refine if_neg fun hc => ?_
  have hl : sgN s + j < (By.bl s).length := by rw [By.bl_length]; exact h1
  have hm : (By.bl s)[sgN s + j] ∈ (By.bl s).drop (sgN s) := by
    have h3 : j < ((By.bl s).drop (sgN s)).length := by rw [List.length_drop]; omega
    have := List.getElem_mem h3
    rwa [List.getElem_drop] at this
  have h3 := List.all_eq_true.1 hc.2 _ hm
  exact Bool.noConfusion (h2.symm.trans h3)
theorem cvt_none0 {s : ByteArray} (h : sgN s = s.size) : cvt s = none := by
  refine if_neg fun hc => hc.1 ?_
  rw [List.drop_eq_nil_iff, By.bl_length]
  omega
theorem dcs_all {s : ByteArray} {i0 j : Nat} (h : i0 + j = s.size) : dcs s i0 j = (By.bl s).drop i0 := by
  unfold dcs
  rw [List.take_of_length_le]
  rw [List.length_drop, By.bl_length]
  omega
theorem cvt_some {s : ByteArray} {j : Nat} (h : sgN s + j = s.size) (hj : 1 ≤ j) (ha : (dcs s (sgN s) j).all By.dg = true) : cvt s = some (if sgB s then -(NV (dcs s (sgN s) j) : Int) else (NV (dcs s (sgN s) j) : Int)) := by
  have e := dcs_all h
  rw [e] at ha ⊢
  rw [NV_dec _ _ rfl ha]
  refine if_pos ⟨fun h0 => ?_, ha⟩
  rw [List.drop_eq_nil_iff, By.bl_length] at h0
  omega
/-! the number's block -/
def IB (o : Nat) (neg : Bool) (u : Value) (w : World) : Prop := w.heap[o]? = some (.cells #[.bool neg, u] Big.TI (0, 0))
theorem IB.c0 {o : Nat} {neg : Bool} {u : Value} {w : World} (h : IB o neg u w) : w.cell? ⟨o, 0, none⟩ = some (.bool neg) := (blk_cell h 0).trans rfl
theorem IB.c1 {o : Nat} {neg : Bool} {u : Value} {w : World} (h : IB o neg u w) : w.cell? ⟨o, 1, none⟩ = some u := (blk_cell h 1).trans rfl
theorem IB.s0 {o : Nat} {neg : Bool} {u : Value} {w : World} (h : IB o neg u w) (b : Bool) : IB o b u (w.setCell ⟨o, 0, none⟩ (.bool b)) := by unfold IB; simpa using blk_set h 0 (.bool b)
theorem IB.s1 {o : Nat} {neg : Bool} {u : Value} {w : World} (h : IB o neg u w) (x : Value) : IB o neg x (w.setCell ⟨o, 1, none⟩ x) := by unfold IB; simpa using blk_set h 1 x
theorem IB.fr {o : Nat} {neg : Bool} {u : Value} {w : World} (h : IB o neg u w) (k : Nat) : w.frozen? ⟨o, k, none⟩ = false := blk_frozen h k
theorem IB.move {o : Nat} {neg : Bool} {u : Value} {w w' : World} (h : IB o neg u w) (hk : w'.heap[o]? = w.heap[o]?) : IB o neg u w' := hk.trans h
theorem ss_newReader (s : ByteArray) (w : World) : Calls Tryz.prog 79 #[.string s] w fun e w' => e = .returned (.pointer (some ⟨w.heap.size, 0, none⟩)) ∧ Rdr w.heap.size s 0 (-1) w' ∧ Below w.heap.size w w' ∧ w'.heap.size = w.heap.size + 1 := by
  have HR : Aside0 (Rdr w.heap.size s 0 (-1) (w.alloc (.cells #[.string s, .int .i64 0, .int .i64 (-1)] TRd))) := ⟨blk_new w _⟩
  go_enter Tryz.func79, Tryz.ntmps79
  go_wp2
  go_ret
  exact ⟨rfl, HR.out, (Below.refl _ _).alloc (Nat.le_refl _) _, by simp⟩

/-- What Int.scan answers: no number, or the number's magnitude and sign at the pointer. -/
def IsP (g o base : Nat) (s : ByteArray) (w : World) (e : Ending) (w' : World) : Prop := Below o w w' ∧
  ((cvt s = none ∧ ∃ n a, e = .returned (.tuple #[.pointer none, .int .i64 n, EV a])) ∨
   (∃ j N v, e = .returned (.tuple #[.pointer (some ⟨o, 0, none⟩), .int .i64 10, .nilIface]) ∧ 1 ≤ j ∧ sgN s + j ≤ s.size ∧ (dcs s (sgN s) j).all By.dg = true ∧ ((∃ h : sgN s + j < s.size, By.dg s[sgN s + j] = false) ∨ sgN s + j = s.size) ∧ Rdr g s ((sgN s + j : Nat) : Int) (-1) w' ∧ N = NV (dcs s (sgN s) j) ∧ NZ base (j + 1) w' v N ∧ IB o (decide (0 < N) && sgB s) v w'))
theorem NZ.form {base k : Nat} {w : World} {v : Value} {N : Nat} (h : NZ base k w v N) : ∃ A n c, v = .slice A n c ∧ (0 < n ↔ 0 < N) := by
  obtain ⟨ws, h1, h2, h3, h4⟩ := h
  rcases h4 with ⟨rfl, rfl⟩ | ⟨h5, g, cur, h6, h7, rfl, h8⟩
  · have h9 : (0 : Int) = (N : Int) := h2
    exact ⟨_, _, _, rfl, by omega⟩
  · refine ⟨_, _, _, rfl, fun _ => by omega, fun _ => ?_⟩
    cases ws with
    | nil => exfalso; have h9 : (0 : Int) = (N : Int) := h2; omega
    | cons x l => simp
theorem NZ.set {base k : Nat} {w : World} {v : Value} {N : Nat} (h : NZ base k w v N) {o : Nat} (ho : o < base) (i : Nat) (x : Value) : NZ base k (w.setCell ⟨o, i, none⟩ x) v N := by
  obtain ⟨ws, h1, h2, h3, h4⟩ := h
  refine ⟨ws, h1, h2, h3, ?_⟩
  rcases h4 with h4 | ⟨h5, b, cur, h6, h7, h8⟩
  · exact .inl h4
  · exact .inr ⟨h5, b, cur, h6, h7.move (Below.heap_setCell w ⟨o, i, none⟩ x b (by show b ≠ o; omega)), h8⟩
theorem Rdr.set {g : Nat} {s : ByteArray} {i p : Int} {w : World} (h : Rdr g s i p w) {o : Nat} (ho : g ≠ o) (k : Nat) (x : Value) : Rdr g s i p (w.setCell ⟨o, k, none⟩ x) := (Below.heap_setCell w ⟨o, k, none⟩ x g ho).trans h
set_option maxRecDepth 100000 in
set_option maxHeartbeats 2000000 in
theorem ss_intScan (g o base : Nat) (s : ByteArray) (p : Int) (a a2 : Addr) (w : World) (hs : s.size ≤ 1000000) (hr : Rdr g s 0 p w) (hI : IB o false (.slice none 0 0) w) (he : ErrAt gEOF a w) (he2 : ErrAt gND a2 w) (h1 : gEOF < o) (h2 : gND < o) (hog : o < g) (hgb : g < base) (hbw : base ≤ w.heap.size) :
    Calls Tryz.prog 86 #[.pointer (some ⟨o, 0, none⟩), RI g, .int .i64 10] w (IsP g o base s w) := by
  by_cases h0 : s.size = 0
  · have hC := Aside0.mk (ss_sign0 g s p a w h0 hr he (by omega))
    have HN : Aside0 (cvt s = none) := ⟨cvt_none0 (by have := sgN_le s; omega)⟩
    have HO := Aside0.mk hog
    clear hr hI he he2 h1 h2 hog hgb hbw h0 hs
    go_enter Tryz.func86, Tryz.ntmps86
    go_wp2_with (go_at_call 89; (with_reducible refine (hC.out).mono ?_); rintro e W1 ⟨rfl, h1⟩; have H1 := Aside0.mk h1; clear h1)
    go_ret3
    exact ⟨H1.out.2.2.mono (Nat.le_of_lt HO.out), .inl ⟨HN.out, _, _, rfl⟩⟩
  · have hC := Aside0.mk (ss_sign1 g s p w (by omega) hs hr)
    have HH : Aside0 (s.size ≤ 1000000 ∧ gEOF < o ∧ gND < o ∧ o < g ∧ g < base ∧ base ≤ w.heap.size) := ⟨hs, h1, h2, hog, hgb, hbw⟩
    have HE := Aside0.mk (And.intro he he2)
    have HI := Aside0.mk hI
    clear hr hI he he2 h1 h2 hog hgb hbw h0 hs
    go_enter Tryz.func86, Tryz.ntmps86
    go_wp2_with (go_at_call 89; (with_reducible refine (hC.out).mono ?_))
    rintro e W1 ⟨rfl, hr, hsd⟩
    obtain ⟨q1, q2, q3, q4, q5, q6⟩ := HH.out
    have hI1 := HI.out.move (hsd.1 o (by omega))
    have hS := Aside0.mk (ss_scan g base s (-1) (sgN s) a W1 (sgN_le s) q1 hr (HE.out.1.side hsd (by omega)) (by omega) q5 (by omega) (by rw [hsd.2.1]; exact q6) a2 (HE.out.2.side hsd (by omega)) (by omega) (by omega))
    have c1 := hI1.c1
    have HI1 := Aside0.mk hI1
    have HSD := Aside0.mk hsd
    clear q1 q2 q3 q4 q5 q6 hI1 hr hsd hC HI HE
    go_wp2_with (go_at_call 90; (with_reducible refine (hS.out).mono ?_))
    rintro e W2 ⟨j, hj1, hj2, hj3, hR, hF, hres⟩
    have HF := Aside0.mk hF
    have HJ := Aside0.mk (And.intro hj1 (And.intro hj2 hj3))
    have HR := Aside0.mk hR
    have hI2 := HI1.out.move (hF.1 o (by have := HH.out.2.2.2.1; have := HH.out.2.2.2.2.1; omega) (by have := HH.out.2.2.2.1; omega))
    have HB : Aside0 (Below o w W2) := ⟨(HSD.out.2.2.mono (Nat.le_of_lt HH.out.2.2.2.1)).trans (hF.2.mono (Nat.le_of_lt HH.out.2.2.2.1))⟩
    have f1 := hI2.fr 1
    have e1 := hI2.c1
    clear hj1 hj2 hj3 hR hF c1 hS
    rcases hres with ⟨rfl, rfl⟩ | ⟨hj, v, rfl, hz⟩
    · have HN : Aside0 (cvt s = none) := ⟨by
        rcases HJ.out.2.2 with h | h
        · exact cvt_stop h
        · exact cvt_none0 h⟩
      clear hI2
      go_wp2
      go_ret3
      exact ⟨HB.out.setCell (p := ⟨o, 1, none⟩) (Nat.le_refl _) _, .inl ⟨HN.out, _, _, rfl⟩⟩
    · obtain ⟨A, n, c, rfl, hn⟩ := hz.form
      have HZ := Aside0.mk hz
      have HJ1 := Aside0.mk hj
      have hI3 := hI2.s1 (.slice A n c)
      have HB3 : Aside0 (Below o w (W2.setCell ⟨o, 1, none⟩ (.slice A n c))) := ⟨HB.out.setCell (p := ⟨o, 1, none⟩) (Nat.le_refl _) _⟩
      have HZ3 : Aside0 (NZ base (j + 1) (W2.setCell ⟨o, 1, none⟩ (.slice A n c)) (.slice A n c) (NV (dcs s (sgN s) j))) := ⟨hz.set (by have := HH.out.2.2.2.1; have := HH.out.2.2.2.2.1; omega) 1 _⟩
      have HR3 : Aside0 (Rdr g s ((sgN s + j : Nat) : Int) (-1) (W2.setCell ⟨o, 1, none⟩ (.slice A n c))) := ⟨HR.out.set (by have := HH.out.2.2.2.1; omega) 1 _⟩
      clear hz hj hI2 HR HZ
      obtain ⟨w1, hw1⟩ : ∃ w1, W2.setCell ⟨o, 1, none⟩ (.slice A n c) = w1 := ⟨_, rfl⟩
      rw [hw1] at hI3 HB3 HZ3 HR3
      have d1 := hI3.c1
      have d0 := hI3.c0
      have f0 := hI3.fr 0
      have HI3 := Aside0.mk hI3
      clear hI3
      by_cases h0 : 0 < n
      · have hd : decide ((0 : Int) < (n : Int)) = true := decide_eq_true (by omega)
        have hd2 : decide (0 < n) = true := decide_eq_true h0
        have HD : Aside0 (decide (0 < NV (dcs s (sgN s) j)) = true) := ⟨decide_eq_true (hn.1 h0)⟩
        clear hn h0
        go_wp2
        go_ret3
        refine ⟨HB3.out.setCell (p := ⟨o, 0, none⟩) (Nat.le_refl _) _, .inr ⟨j, _, _, rfl, HJ1.out, HJ.out.1, HJ.out.2.1, HJ.out.2.2, HR3.out.set (by have := HH.out.2.2.2.1; omega) 0 _, rfl, HZ3.out.set (by have := HH.out.2.2.2.1; have := HH.out.2.2.2.2.1; omega) 0 _, ?_⟩⟩
        rw [HD.out, Bool.true_and]
        exact HI3.out.s0 _
      · have hd : decide ((0 : Int) < (n : Int)) = false := decide_eq_false (by omega)
        have hd2 : decide (0 < n) = false := decide_eq_false h0
        have HD : Aside0 (decide (0 < NV (dcs s (sgN s) j)) = false) := ⟨decide_eq_false (fun h => h0 (hn.2 h))⟩
        clear hn h0
        go_wp2
        go_ret3
        refine ⟨HB3.out.setCell (p := ⟨o, 0, none⟩) (Nat.le_refl _) _, .inr ⟨j, _, _, rfl, HJ1.out, HJ.out.1, HJ.out.2.1, HJ.out.2.2, HR3.out.set (by have := HH.out.2.2.2.1; omega) 0 _, rfl, HZ3.out.set (by have := HH.out.2.2.2.1; have := HH.out.2.2.2.2.1; omega) 0 _, ?_⟩⟩
        rw [HD.out, Bool.false_and]
        exact HI3.out.s0 _

theorem ss_neqE (a : Addr) (W : World) : (binOp .neq 84 (.iface 156 (.pointer (some a))) (.iface 156 (.pointer (some a)))).run Tryz.prog W = .ok (.bool false) W := by
  obtain ⟨i, h1, h2⟩ := Option.map_eq_some_iff.1 ss_cmpE
  obtain ⟨j, h3⟩ := Option.isSome_iff_exists.1 ss_infE
  simp only [binOp]
  simp [Op.equal, Op.maxDepth, run_equalIn_iface_ptr_same W 9998 a Tryz.underlying84 Tryz.underlying156 h1 h2 h3]
theorem ss_neqN (tp : TypeId) (v : Value) (W : World) : (binOp .neq 84 .nilIface (.iface tp v)).run Tryz.prog W = .ok (.bool true) W := by
  have h : ∀ d : Nat, (Op.equalIn (d + 1) 84 .nilIface (.iface tp v)).run Tryz.prog W = .ok false W := fun d => by simp [Op.equalIn, run_underlying Tryz.underlying84]
  simp only [binOp]
  simp [Op.equal, Op.maxDepth, h 9999]
theorem NZ.own {base k : Nat} {w : World} {v : Value} {N : Nat} (h : NZ base k w v N) {o : Nat} {b : Bool} (hI : IB o (decide (0 < N) && b) v w) (ho : o ≤ base) : Big.Own w o (fun _ => True) (if b then -(N : Int) else (N : Int)) (.pointer (some ⟨o, 0, none⟩)) := by
  obtain ⟨ws, h1, h2, h3, h4⟩ := h
  refine ⟨o, v, decide (0 < N) && b, ni ws, rfl, trivial, Nat.le_refl _, hI, ?_, h1, ?_, ?_⟩
  · rcases h4 with ⟨rfl, rfl⟩ | ⟨h5, g, cur, h6, h7, rfl, h8, h9, h10⟩
    · exact Kd.R_nil _ _ _ _ _
    · rw [← h10]
      exact h7.R (by omega) (by simp only [maxLen]; omega) _ h8
  · intro hb hn
    have hw : ws = [] := by simpa [ni] using hn
    subst hw
    have h9 : (0 : Int) = (N : Int) := h2
    have h10 : N = 0 := by omega
    subst h10
    simp at hb
  · unfold Big.valW
    rw [h2]
    by_cases h0 : 0 < N
    · rw [decide_eq_true h0, Bool.true_and]
    · have : N = 0 := by omega
      subst this
      simp
/-- What SetString answers. -/
def SeP (o : Nat) (s : ByteArray) (w : World) (e : Ending) (w' : World) : Prop := Below o w w' ∧
  ((cvt s = none ∧ e = .returned (.tuple #[.pointer none, .bool false])) ∨
   (∃ z, cvt s = some z ∧ e = .returned (.tuple #[.pointer (some ⟨o, 0, none⟩), .bool true]) ∧ Big.Own w' o (fun _ => True) z (.pointer (some ⟨o, 0, none⟩))))
set_option maxRecDepth 100000 in
set_option maxHeartbeats 2000000 in
theorem ss_setFrom (g o base : Nat) (s : ByteArray) (p : Int) (a a2 : Addr) (w : World) (hs : s.size ≤ 1000000) (hr : Rdr g s 0 p w) (hI : IB o false (.slice none 0 0) w) (he : ErrAt gEOF a w) (he2 : ErrAt gND a2 w) (h1 : gEOF < o) (h2 : gND < o) (hog : o < g) (hgb : g < base) (hbw : base ≤ w.heap.size) :
    Calls Tryz.prog 78 #[.pointer (some ⟨o, 0, none⟩), RI g, .int .i64 10] w (SeP o s w) := by
  have hC := Aside0.mk (ss_intScan g o base s p a a2 w hs hr hI he he2 h1 h2 hog hgb hbw)
  have HH : Aside0 (s.size ≤ 1000000 ∧ gEOF < o ∧ o < g ∧ g < base) := ⟨hs, h1, hog, hgb⟩
  have HE := Aside0.mk he
  clear hr hI he he2 h1 h2 hog hgb hbw hs
  have hq1 := ss_neqE a
  have hq2 := ss_neqN 156 (.pointer (some a))
  go_enter Tryz.func78, Tryz.ntmps78
  go_wp2_with (go_at_call 86; (with_reducible refine (hC.out).mono ?_))
  rintro e W1 ⟨hB, h⟩
  have HB := Aside0.mk hB
  have HE1 : Aside0 (ErrAt gEOF a W1) := ⟨(hB.cell (p := ⟨gEOF, 0, none⟩) HH.out.2.1).trans HE.out⟩
  clear hB hC HE
  rcases h with ⟨hn, n, a', rfl⟩ | ⟨j, N, v, rfl, hj1, hj2, hj3, hj4, hR, hN, hz, hi⟩
  · have HN := Aside0.mk hn
    clear hn
    go_wp2
    go_ret2
    exact ⟨HB.out, .inl ⟨HN.out, rfl⟩⟩
  · by_cases hlt : sgN s + j < s.size
    · have HN : Aside0 (cvt s = none) := ⟨cvt_stop (by rcases hj4 with h | h; exact h; omega)⟩
      have hC := Aside0.mk (ss_read g (sgN s + j) s (-1) W1 hlt HH.out.1 hR)
      have hEOF : Aside0 (∀ W, Side g W1 W → W.cell? ⟨gEOF, 0, none⟩ = some (EV a)) := ⟨fun W h => HE1.out.side h (by have := HH.out; omega)⟩
      clear hj1 hj2 hj3 hj4 hR hN hz hi
      go_wp2_with (show Calls Tryz.prog 130 #[.pointer (some ⟨g, 0, none⟩)] _ _; (with_reducible refine (hC.out).mono ?_); rintro e W2 ⟨rfl, h1, h2⟩; have H2 := Aside0.mk h2; have hq := hEOF.out W2 h2; clear h1 h2)
      go_wp2
      go_ret2
      exact ⟨HB.out.trans (H2.out.2.2.mono (Nat.le_of_lt HH.out.2.2.1)), .inl ⟨HN.out, rfl⟩⟩
    · have he : sgN s + j = s.size := by omega
      have HV : Aside0 (cvt s = some (if sgB s then -(N : Int) else (N : Int))) := ⟨by rw [hN]; exact cvt_some he hj1 hj3⟩
      have hO := hz.own hi (by have := HH.out; omega)
      have HO : Aside0 (∀ W, Side g W1 W → Big.Own W o (fun _ => True) (if sgB s then -(N : Int) else (N : Int)) (.pointer (some ⟨o, 0, none⟩))) := ⟨fun W h => (hz.side h HH.out.2.2.2).own (hi.move (h.1 o (by have := HH.out; omega))) (by have := HH.out; omega)⟩
      have hC := Aside0.mk (ss_readEnd g (sgN s + j) s (-1) a W1 (by omega) hR HE1.out (by have := HH.out; omega))
      have hEOF : Aside0 (∀ W, Side g W1 W → W.cell? ⟨gEOF, 0, none⟩ = some (EV a)) := ⟨fun W h => HE1.out.side h (by have := HH.out; omega)⟩
      clear hj1 hj2 hj3 hj4 hR hN hz hi hlt he hO
      go_wp2_with (show Calls Tryz.prog 130 #[.pointer (some ⟨g, 0, none⟩)] _ _; (with_reducible refine (hC.out).mono ?_); rintro e W2 ⟨rfl, h1, h2⟩; have H2 := Aside0.mk h2; have hq := hEOF.out W2 h2; clear h1 h2)
      go_wp2
      go_ret2
      exact ⟨HB.out.trans (H2.out.2.2.mono (Nat.le_of_lt HH.out.2.2.1)), .inr ⟨_, HV.out, rfl, HO.out _ H2.out⟩⟩
set_option maxRecDepth 100000 in
set_option maxHeartbeats 2000000 in
theorem ss_SetString (s : ByteArray) (o : Nat) (a a2 : Addr) (w : World) (hs : s.size ≤ 1000000) (ho : o + 1 = w.heap.size) (hI : IB o false (.slice none 0 0) w) (he : ErrAt gEOF a w) (he2 : ErrAt gND a2 w) (h1 : gEOF < o) (h2 : gND < o) :
    Calls Tryz.prog 67 #[.pointer (some ⟨o, 0, none⟩), .string s, .int .i64 10] w (SeP o s w) := by
  have hC := Aside0.mk (ss_newReader s w)
  have HH : Aside0 (s.size ≤ 1000000 ∧ gEOF < o ∧ gND < o ∧ o + 1 = w.heap.size) := ⟨hs, h1, h2, ho⟩
  have HE := Aside0.mk (And.intro he he2)
  have HI := Aside0.mk hI
  clear hI he he2 h1 h2 hs ho
  go_enter Tryz.func67, Tryz.ntmps67
  go_wp2_with (go_at_call 79; (with_reducible refine (hC.out).mono ?_))
  rintro e W1 ⟨rfl, hr, hb, hz⟩
  obtain ⟨q1, q2, q3, q4⟩ := HH.out
  have hS := Aside0.mk (ss_setFrom w.heap.size o (w.heap.size + 1) s (-1) a a2 W1 q1 hr (HI.out.move (hb.block o (by omega))) ((hb.cell (p := ⟨gEOF, 0, none⟩) (show gEOF < w.heap.size by omega)).trans HE.out.1) ((hb.cell (p := ⟨gND, 0, none⟩) (show gND < w.heap.size by omega)).trans HE.out.2) q2 q3 (by omega) (by omega) (by omega))
  have HB : Aside0 (Below o w W1) := ⟨hb.mono (by omega)⟩
  clear q1 q2 q3 q4 hr hb hz hC
  go_wp2_with (go_at_call 78; (with_reducible refine (hS.out).mono ?_))
  rintro e W2 ⟨hB, h⟩
  have HB2 := Aside0.mk hB
  clear hB
  rcases h with ⟨hn, rfl⟩ | ⟨z, hz, rfl, hO⟩
  · have HN := Aside0.mk hn
    clear hn
    go_wp2
    go_ret2
    exact ⟨HB.out.trans HB2.out, .inl ⟨HN.out, rfl⟩⟩
  · have HN := Aside0.mk (And.intro hz hO)
    clear hz hO
    go_wp2
    go_ret2
    exact ⟨HB.out.trans HB2.out, .inr ⟨z, HN.out.1, rfl, HN.out.2⟩⟩

open Go.Proofs.YtipfmkfpaglkkaaGreatDoor.Gw
attribute [local go_sem] EV
/-- What convertToBigInt answers. -/
def CvP (s : ByteArray) (w : World) (e : Ending) (w' : World) : Prop := Below w.heap.size w w' ∧
  ((cvt s = none ∧ ∃ a, e = .returned (.tuple #[.pointer none, EV a])) ∨
   (∃ (z : Int) (o : Nat), cvt s = some z ∧ e = .returned (.tuple #[.pointer (some ⟨o, 0, none⟩), .nilIface]) ∧ Big.Own w' w.heap.size (fun _ => True) z (.pointer (some ⟨o, 0, none⟩))))
set_option maxRecDepth 100000 in
set_option maxHeartbeats 2000000 in
theorem ss_convert (s : ByteArray) (w : World) (hs : s.size ≤ 1000000) (hG : GW3 w) : Calls Tryz.prog 59 #[.string s] w (CvP s w) := by
  obtain ⟨a, a2, a3, h1, h2, h3⟩ := hG
  obtain ⟨WA, hWA⟩ : ∃ WA : World, WA = w.alloc (.cells #[.bool false, .slice none 0 0] Big.TI) := ⟨_, rfl⟩
  have hBA : Below w.heap.size w WA := by rw [hWA]; exact (Below.refl _ _).alloc (Nat.le_refl _) _
  have hC := Aside0.mk (ss_SetString s w.heap.size a a2 WA hs (by rw [hWA]; simp) (by rw [hWA]; exact blk_new w _) (h1.below hBA) (h2.below hBA) h1.lt h2.lt)
  have HBA := Aside0.mk hBA
  have HIV : Aside0 (∀ W, Below w.heap.size w W → W.cell? ⟨gIV, 0, none⟩ = some (EV a3)) := ⟨fun W h => h3.below h⟩
  rw [hWA] at hC HBA
  clear h1 h2 h3 hWA hBA
  go_enter Tryz.func59, Tryz.ntmps59
  go_wp2_with (go_at_call 67; (with_reducible refine (hC.out).mono ?_))
  rintro e W2 ⟨hB, h⟩
  have HB := Aside0.mk (HBA.out.trans hB)
  clear hB
  rcases h with ⟨hn, rfl⟩ | ⟨z, hz, rfl, hO⟩
  · have HN := Aside0.mk hn
    have hq := HIV.out W2 HB.out
    clear hn hC HBA
    go_wp2
    go_quiet (fail)
    go_wp2
    go_ret2
    exact ⟨pw_below_drewN HB.out _, .inl ⟨HN.out, _, rfl⟩⟩
  · have HN := Aside0.mk (And.intro hz hO)
    clear hz hO hC HBA
    go_wp2
    go_ret2
    exact ⟨HB.out, .inr ⟨z, _, HN.out.1, rfl, HN.out.2⟩⟩

/-! a number's bytes -/
abbrev TB : Nat := 5
def b8cells (cur : List Int) : Array Value := (cur.map (Value.int .u8)).toArray
def Bu8 (g : Nat) (cur : List Int) (w : World) : Prop := w.heap[g]? = some (.cells (b8cells cur) TB (0, 0))
theorem b8_get (cur : List Int) (i : Nat) (h : i < cur.length) : (b8cells cur)[i]? = some (Value.int .u8 cur[i]) := by
  unfold b8cells
  rw [List.getElem?_toArray, List.getElem?_map, List.getElem?_eq_getElem h]
  rfl
theorem Bu8.cell {g : Nat} {cur : List Int} {w : World} (h : Bu8 g cur w) (i : Nat) (hi : i < cur.length) : w.cell? ⟨g, i, none⟩ = some (.int .u8 cur[i]) := (blk_cell h i).trans (b8_get cur i hi)
theorem Bu8.frozen {g : Nat} {cur : List Int} {w : World} (h : Bu8 g cur w) (i : Nat) : w.frozen? ⟨g, i, none⟩ = false := blk_frozen h i
theorem Bu8.put {g : Nat} {cur : List Int} {w : World} (h : Bu8 g cur w) (i : Nat) (x : Int) : Bu8 g (cur.set i x) (w.setCell ⟨g, i, none⟩ (.int .u8 x)) := by
  refine blk_put h i (.int .u8 x) ?_
  unfold b8cells
  rw [List.map_set]
  simp
theorem Bu8.made (n : Nat) (w : World) : Bu8 w.heap.size (List.replicate n 0) (w.alloc (.cells (madeCells #[Value.int .u8 0] n) TB)) := by
  have e : madeCells #[Value.int .u8 0] n = b8cells (List.replicate n 0) := by
    apply Array.ext'
    rw [toList_madeCells_one]
    unfold b8cells
    simp
  rw [e]
  exact blk_new w _
theorem Bu8.C {g : Nat} {cur : List Int} {w : World} (h : Bu8 g cur w) (hm : cur.length ≤ maxLen) (i : Nat) (hi : i ≤ cur.length) : Kd.C (Kd.int .u8) w (some ⟨g, i, none⟩) (cur.drop i).length (cur.drop i) := by
  refine ⟨rfl, ?_, fun _ => ⟨⟨g, i, none⟩, rfl, fun j p hj => ⟨[.int .u8 p], rfl, ?_, fun k u hu => ?_⟩⟩⟩
  · rw [List.length_drop]
    unfold maxLen at hm
    omega
  · simp [Kd.int, Kd.scalar]
  · have hk : k = 0 := by
      have := (List.getElem?_eq_some_iff.1 hu).1
      simp at this
      exact this
    subst hk
    have hu2 : u = .int .u8 p := by simpa using hu.symm
    subst hu2
    rw [List.getElem?_drop] at hj
    obtain ⟨h1, h2⟩ := List.getElem?_eq_some_iff.1 hj
    have h3 := h.cell (i + j) h1
    rw [h2] at h3
    have e : (Addr.mk g i none).add (j * (Kd.int .u8).sz + 0) = ⟨g, i + j, none⟩ := by
      have : (Kd.int .u8).sz = 1 := rfl
      rw [this, Nat.mul_one, Nat.add_zero]
      simp [Addr.add]
    rw [e]
    exact h3
def bA (xs : List Nat) (m : Nat) : Nat := (xs.getD (m / 8) 0 / 256 ^ (m % 8)) % 256
/-! a number's bytes, the highest one first, without zeros ahead -/
/-! the bytes of a row of words -/
end Go.Proofs.YtipfmkfpaglkkaaGreatDoor.Ss
