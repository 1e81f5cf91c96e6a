-- Written by a program of this session (myprint.py).
import Derived.Test.YtipfmkfpaglkkaaGreatDoorZ0
import Derived.Test.YtipfmkfpaglkkaaGreatDoorZ2
import Derived.Test.YtipfmkfpaglkkaaGreatDoorZ15
import Derived.Test.YtipfmkfpaglkkaaGreatDoorGe
namespace Go.Proofs.YtipfmkfpaglkkaaGreatDoor.Z
open Go.Proofs.YtipfmkfpaglkkaaGreatDoor.Gw
open Go.RowKit Go.Proofs.YtipfmkfpaglkkaaGreatDoorW.PrintWords Go.Proofs.YtipfmkfpaglkkaaGreatDoorW.PrintLast Go.Proofs.YtipfmkfpaglkkaaGreatDoorW.PrintMore
attribute [local go_sem high] Go.Proofs.YtipfmkfpaglkkaaGreatDoor.Ge.gtr_str
attribute [local go_sem] max2_int min2_int max_two min_two max_three min_three max_four min_four   -- for this text's walks alone
set_option linter.unusedVariables false
set_option linter.unusedSimpArgs false

/-! ### spec_PyPIPre: function 23 -/
def spec_PyPIPre.j0 : Nat → Int → Int → Bool → Bool → ByteArray → List (S23) → Bool → ByteArray → Bool → ByteArray → Bool → ByteArray → Bool → ByteArray → Bool → ByteArray → Bool → ByteArray → List ByteArray → List ByteArray → Bool → ByteArray → List (S23) → Bool → ByteArray → Bool → ByteArray → Bool → ByteArray → Bool → ByteArray → Bool → ByteArray → Bool → ByteArray → List ByteArray → List ByteArray → Option (Int)
 | 0, _, _, _, _, _, _, _, _, _, _, _, _, _, _, _, _, _, _, _, _, _, _, _, _, _, _, _, _, _, _, _, _, _, _, _, _, _ => none
 | k + 1, x5, x6, x18, x189000, x189001, x189002, x189003, x189004, x189005, x189006, x189007, x189008, x189009, x189010, x189011, x189012, x189013, x189014, x189015, x189016, x190000, x190001, x190002, x190003, x190004, x190005, x190006, x190007, x190008, x190009, x190010, x190011, x190012, x190013, x190014, x190015, x190016 => if x18 = true then ((spec_orderInts.f x5 x6).bind fun t192 => (some t192)) else (if 0 ≤ 1 then (if 1 ≤ (x189004.size : Int) then (if 1 ≤ (x190004.size : Int) then ((spec_order.f (x189004.extract 0 1) (x190004.extract 0 1)).bind fun t193 => (if t193 = 0 then ((spec_intOrder.f k x189005 x189006 x190005 x190006).bind fun t194 => (some t194)) else (some t193))) else (none)) else (none)) else (none))
def spec_PyPIPre.f (k : Nat) (a0_0 : Bool) (a0_1 : ByteArray) (l0_2 : List (S23)) (a0_3 : Bool) (a0_4 : ByteArray) (a0_5 : Bool) (a0_6 : ByteArray) (a0_7 : Bool) (a0_8 : ByteArray) (a0_9 : Bool) (a0_10 : ByteArray) (a0_11 : Bool) (a0_12 : ByteArray) (a0_13 : Bool) (a0_14 : ByteArray) (l0_15 : List ByteArray) (l0_16 : List ByteArray) (a1_0 : Bool) (a1_1 : ByteArray) (l1_2 : List (S23)) (a1_3 : Bool) (a1_4 : ByteArray) (a1_5 : Bool) (a1_6 : ByteArray) (a1_7 : Bool) (a1_8 : ByteArray) (a1_9 : Bool) (a1_10 : ByteArray) (a1_11 : Bool) (a1_12 : ByteArray) (a1_13 : Bool) (a1_14 : ByteArray) (l1_15 : List ByteArray) (l1_16 : List ByteArray) : Option (Int) := (spec_pypiPlace.f a0_0 a0_1 l0_2 a0_3 a0_4 a0_5 a0_6 a0_7 a0_8 a0_9 a0_10 a0_11 a0_12 a0_13 a0_14 l0_15 l0_16).bind fun t190 => ((spec_pypiPlace.f a1_0 a1_1 l1_2 a1_3 a1_4 a1_5 a1_6 a1_7 a1_8 a1_9 a1_10 a1_11 a1_12 a1_13 a1_14 l1_15 l1_16).bind fun t191 => (if t190 = t191 then (spec_PyPIPre.j0 k t190 t191 (t190 != 0) a0_0 a0_1 l0_2 a0_3 a0_4 a0_5 a0_6 a0_7 a0_8 a0_9 a0_10 a0_11 a0_12 a0_13 a0_14 l0_15 l0_16 a1_0 a1_1 l1_2 a1_3 a1_4 a1_5 a1_6 a1_7 a1_8 a1_9 a1_10 a1_11 a1_12 a1_13 a1_14 l1_15 l1_16) else (spec_PyPIPre.j0 k t190 t191 true a0_0 a0_1 l0_2 a0_3 a0_4 a0_5 a0_6 a0_7 a0_8 a0_9 a0_10 a0_11 a0_12 a0_13 a0_14 l0_15 l0_16 a1_0 a1_1 l1_2 a1_3 a1_4 a1_5 a1_6 a1_7 a1_8 a1_9 a1_10 a1_11 a1_12 a1_13 a1_14 l1_15 l1_16)))
theorem spec_PyPIPre.mono_l : ∀ k, (∀ y0 y1 y2 y3 y4 y5 y6 y7 y8 y9 y10 y11 y12 y13 y14 y15 y16 y17 y18 y19 y20 y21 y22 y23 y24 y25 y26 y27 y28 y29 y30 y31 y32 y33 y34 y35 y36, LeO (spec_PyPIPre.j0 k y0 y1 y2 y3 y4 y5 y6 y7 y8 y9 y10 y11 y12 y13 y14 y15 y16 y17 y18 y19 y20 y21 y22 y23 y24 y25 y26 y27 y28 y29 y30 y31 y32 y33 y34 y35 y36) (spec_PyPIPre.j0 (k + 1) y0 y1 y2 y3 y4 y5 y6 y7 y8 y9 y10 y11 y12 y13 y14 y15 y16 y17 y18 y19 y20 y21 y22 y23 y24 y25 y26 y27 y28 y29 y30 y31 y32 y33 y34 y35 y36))
 | 0 => fun _ _ _ _ _ _ _ _ _ _ _ _ _ _ _ _ _ _ _ _ _ _ _ _ _ _ _ _ _ _ _ _ _ _ _ _ _ r h => by simp [spec_PyPIPre.j0] at h
 | k + 1 => by
  have ih0 := spec_PyPIPre.mono_l k
  ·intro y0 y1 y2 y3 y4 y5 y6 y7 y8 y9 y10 y11 y12 y13 y14 y15 y16 y17 y18 y19 y20 y21 y22 y23 y24 y25 y26 y27 y28 y29 y30 y31 y32 y33 y34 y35 y36
   unfold spec_PyPIPre.j0
   repeat' first
   | (with_reducible exact ih0 _ _ _ _ _ _ _ _ _ _ _ _ _ _ _ _ _ _ _ _ _ _ _ _ _ _ _ _ _ _ _ _ _ _ _ _ _)
   | (with_reducible exact spec_intOrder.mono _ _ _ _ _)
   | (with_reducible exact LeO.refl _)
   | (with_reducible exact LeO.none _)
   | (with_reducible refine LeO.ite ?_ ?_)
   | (with_reducible refine LeO.bind ?_ (fun _ => ?_))
   | exact ih0 _ _ _ _ _ _ _ _ _ _ _ _ _ _ _ _ _ _ _ _ _ _ _ _ _ _ _ _ _ _ _ _ _ _ _ _ _
   | exact spec_intOrder.mono _ _ _ _ _
   | exact LeO.none _
   | refine LeO.ite ?_ ?_
   | refine LeO.bind ?_ (fun _ => ?_)
theorem spec_PyPIPre.mono : ∀ a0 a1 a2 a3 a4 a5 a6 a7 a8 a9 a10 a11 a12 a13 a14 a15 a16 a17 a18 a19 a20 a21 a22 a23 a24 a25 a26 a27 a28 a29 a30 a31 a32 a33 k, LeO (spec_PyPIPre.f k a0 a1 a2 a3 a4 a5 a6 a7 a8 a9 a10 a11 a12 a13 a14 a15 a16 a17 a18 a19 a20 a21 a22 a23 a24 a25 a26 a27 a28 a29 a30 a31 a32 a33) (spec_PyPIPre.f (k + 1) a0 a1 a2 a3 a4 a5 a6 a7 a8 a9 a10 a11 a12 a13 a14 a15 a16 a17 a18 a19 a20 a21 a22 a23 a24 a25 a26 a27 a28 a29 a30 a31 a32 a33) := by
 intro a0 a1 a2 a3 a4 a5 a6 a7 a8 a9 a10 a11 a12 a13 a14 a15 a16 a17 a18 a19 a20 a21 a22 a23 a24 a25 a26 a27 a28 a29 a30 a31 a32 a33 k
 have ih0 := spec_PyPIPre.mono_l k
 unfold spec_PyPIPre.f
 repeat' first
   | (with_reducible exact ih0 _ _ _ _ _ _ _ _ _ _ _ _ _ _ _ _ _ _ _ _ _ _ _ _ _ _ _ _ _ _ _ _ _ _ _ _ _)
   | (with_reducible exact spec_intOrder.mono _ _ _ _ _)
   | (with_reducible exact LeO.refl _)
   | (with_reducible exact LeO.none _)
   | (with_reducible refine LeO.ite ?_ ?_)
   | (with_reducible refine LeO.bind ?_ (fun _ => ?_))
   | exact ih0 _ _ _ _ _ _ _ _ _ _ _ _ _ _ _ _ _ _ _ _ _ _ _ _ _ _ _ _ _ _ _ _ _ _ _ _ _
   | exact spec_intOrder.mono _ _ _ _ _
   | exact LeO.none _
   | refine LeO.ite ?_ ?_
   | refine LeO.bind ?_ (fun _ => ?_)
def spec_PyPIPre.T4 : Bool × List (List Nat × List Nat) := (true, [([], []), ([0], [0]), ([1], [1]), ([2], [2]), ([], []), ([4], [4]), ([5], [5]), ([6], [6]), ([3, 7], [3, 7]), ([8, 8, 0, 1, 2, 3, 4, 5, 6, 7, 8], [8])])
def spec_PyPIPre.B4 : List Nat := [0, 1, 3, 7, 0, 16, 48, 112, 255, 511]
theorem spec_PyPIPre.tab4 : rtab .any (opsOf Tryz.f23 4) = spec_PyPIPre.T4 := by kernel_rfl
theorem spec_PyPIPre.bits4 : waitsOk spec_PyPIPre.T4.2 spec_PyPIPre.B4 = true := by kernel_rfl
set_option maxHeartbeats 8000000 in
set_option maxRecDepth 100000 in
theorem spec_PyPIPre.calls (k : Nat) (a0_0 : Bool) (a0_1 : ByteArray) (A0_2 : Option Addr) (c0_2 : Nat) (l0_2 : List (S23)) (a0_3 : Bool) (a0_4 : ByteArray) (a0_5 : Bool) (a0_6 : ByteArray) (a0_7 : Bool) (a0_8 : ByteArray) (a0_9 : Bool) (a0_10 : ByteArray) (a0_11 : Bool) (a0_12 : ByteArray) (a0_13 : Bool) (a0_14 : ByteArray) (A0_15 : Option Addr) (c0_15 : Nat) (l0_15 : List ByteArray) (A0_16 : Option Addr) (c0_16 : Nat) (l0_16 : List ByteArray) (a1_0 : Bool) (a1_1 : ByteArray) (A1_2 : Option Addr) (c1_2 : Nat) (l1_2 : List (S23)) (a1_3 : Bool) (a1_4 : ByteArray) (a1_5 : Bool) (a1_6 : ByteArray) (a1_7 : Bool) (a1_8 : ByteArray) (a1_9 : Bool) (a1_10 : ByteArray) (a1_11 : Bool) (a1_12 : ByteArray) (a1_13 : Bool) (a1_14 : ByteArray) (A1_15 : Option Addr) (c1_15 : Nat) (l1_15 : List ByteArray) (A1_16 : Option Addr) (c1_16 : Nat) (l1_16 : List ByteArray) (r : Int) (w : World) (hr0_2 : Kd.C k23 w A0_2 l0_2.length l0_2) (hc0_2 : l0_2.length ≤ c0_2) (hr0_15 : Kd.C Kd.string w A0_15 l0_15.length l0_15) (hc0_15 : l0_15.length ≤ c0_15) (hr0_16 : Kd.C Kd.string w A0_16 l0_16.length l0_16) (hc0_16 : l0_16.length ≤ c0_16) (hr1_2 : Kd.C k23 w A1_2 l1_2.length l1_2) (hc1_2 : l1_2.length ≤ c1_2) (hr1_15 : Kd.C Kd.string w A1_15 l1_15.length l1_15) (hc1_15 : l1_15.length ≤ c1_15) (hr1_16 : Kd.C Kd.string w A1_16 l1_16.length l1_16) (hc1_16 : l1_16.length ≤ c1_16) (h : spec_PyPIPre.f k a0_0 a0_1 l0_2 a0_3 a0_4 a0_5 a0_6 a0_7 a0_8 a0_9 a0_10 a0_11 a0_12 a0_13 a0_14 l0_15 l0_16 a1_0 a1_1 l1_2 a1_3 a1_4 a1_5 a1_6 a1_7 a1_8 a1_9 a1_10 a1_11 a1_12 a1_13 a1_14 l1_15 l1_16 = some r) :
  Calls Tryz.prog 23 #[.agg #[.bool a0_0, .string a0_1, .slice A0_2 l0_2.length c0_2, .bool a0_3, .string a0_4, .bool a0_5, .string a0_6, .bool a0_7, .string a0_8, .bool a0_9, .string a0_10, .bool a0_11, .string a0_12, .bool a0_13, .string a0_14, .slice A0_15 l0_15.length c0_15, .slice A0_16 l0_16.length c0_16], .agg #[.bool a1_0, .string a1_1, .slice A1_2 l1_2.length c1_2, .bool a1_3, .string a1_4, .bool a1_5, .string a1_6, .bool a1_7, .string a1_8, .bool a1_9, .string a1_10, .bool a1_11, .string a1_12, .bool a1_13, .string a1_14, .slice A1_15 l1_15.length c1_15, .slice A1_16 l1_16.length c1_16]] w fun e w' => e = .returned (.int .i64 r) ∧ Below w.heap.size w w' := by
 have hu29 := Tryz.underlying29
 have hu23 := Tryz.underlying23
 have HR0_2 := Aside0.mk hr0_2
 have HC0_2 := Aside0.mk hc0_2
 clear hr0_2 hc0_2
 have HR0_15 := Aside0.mk hr0_15
 have HC0_15 := Aside0.mk hc0_15
 clear hr0_15 hc0_15
 have HR0_16 := Aside0.mk hr0_16
 have HC0_16 := Aside0.mk hc0_16
 clear hr0_16 hc0_16
 have HR1_2 := Aside0.mk hr1_2
 have HC1_2 := Aside0.mk hc1_2
 clear hr1_2 hc1_2
 have HR1_15 := Aside0.mk hr1_15
 have HC1_15 := Aside0.mk hc1_15
 clear hr1_15 hc1_15
 have HR1_16 := Aside0.mk hr1_16
 have HC1_16 := Aside0.mk hc1_16
 clear hr1_16 hc1_16
 have HB := Aside0.mk (Below.refl w.heap.size w)
 have H : ((spec_pypiPlace.f a0_0 a0_1 l0_2 a0_3 a0_4 a0_5 a0_6 a0_7 a0_8 a0_9 a0_10 a0_11 a0_12 a0_13 a0_14 l0_15 l0_16).bind fun t190 => ((spec_pypiPlace.f a1_0 a1_1 l1_2 a1_3 a1_4 a1_5 a1_6 a1_7 a1_8 a1_9 a1_10 a1_11 a1_12 a1_13 a1_14 l1_15 l1_16).bind fun t191 => (if t190 = t191 then (spec_PyPIPre.j0 k t190 t191 (t190 != 0) a0_0 a0_1 l0_2 a0_3 a0_4 a0_5 a0_6 a0_7 a0_8 a0_9 a0_10 a0_11 a0_12 a0_13 a0_14 l0_15 l0_16 a1_0 a1_1 l1_2 a1_3 a1_4 a1_5 a1_6 a1_7 a1_8 a1_9 a1_10 a1_11 a1_12 a1_13 a1_14 l1_15 l1_16) else (spec_PyPIPre.j0 k t190 t191 true a0_0 a0_1 l0_2 a0_3 a0_4 a0_5 a0_6 a0_7 a0_8 a0_9 a0_10 a0_11 a0_12 a0_13 a0_14 l0_15 l0_16 a1_0 a1_1 l1_2 a1_3 a1_4 a1_5 a1_6 a1_7 a1_8 a1_9 a1_10 a1_11 a1_12 a1_13 a1_14 l1_15 l1_16)))) = some r := h
 clear h
 replace H := Option.bind_eq_some_iff.mp H
 obtain ⟨t190, A30, H⟩ := H
 replace H : ((spec_pypiPlace.f a1_0 a1_1 l1_2 a1_3 a1_4 a1_5 a1_6 a1_7 a1_8 a1_9 a1_10 a1_11 a1_12 a1_13 a1_14 l1_15 l1_16).bind fun t191 => (if t190 = t191 then (spec_PyPIPre.j0 k t190 t191 (t190 != 0) a0_0 a0_1 l0_2 a0_3 a0_4 a0_5 a0_6 a0_7 a0_8 a0_9 a0_10 a0_11 a0_12 a0_13 a0_14 l0_15 l0_16 a1_0 a1_1 l1_2 a1_3 a1_4 a1_5 a1_6 a1_7 a1_8 a1_9 a1_10 a1_11 a1_12 a1_13 a1_14 l1_15 l1_16) else (spec_PyPIPre.j0 k t190 t191 true a0_0 a0_1 l0_2 a0_3 a0_4 a0_5 a0_6 a0_7 a0_8 a0_9 a0_10 a0_11 a0_12 a0_13 a0_14 l0_15 l0_16 a1_0 a1_1 l1_2 a1_3 a1_4 a1_5 a1_6 a1_7 a1_8 a1_9 a1_10 a1_11 a1_12 a1_13 a1_14 l1_15 l1_16))) = some r := H
 have A3 := Aside0.mk A30
 clear A30
 replace H := Option.bind_eq_some_iff.mp H
 obtain ⟨t191, A40, H⟩ := H
 replace H : (if t190 = t191 then (spec_PyPIPre.j0 k t190 t191 (t190 != 0) a0_0 a0_1 l0_2 a0_3 a0_4 a0_5 a0_6 a0_7 a0_8 a0_9 a0_10 a0_11 a0_12 a0_13 a0_14 l0_15 l0_16 a1_0 a1_1 l1_2 a1_3 a1_4 a1_5 a1_6 a1_7 a1_8 a1_9 a1_10 a1_11 a1_12 a1_13 a1_14 l1_15 l1_16) else (spec_PyPIPre.j0 k t190 t191 true a0_0 a0_1 l0_2 a0_3 a0_4 a0_5 a0_6 a0_7 a0_8 a0_9 a0_10 a0_11 a0_12 a0_13 a0_14 l0_15 l0_16 a1_0 a1_1 l1_2 a1_3 a1_4 a1_5 a1_6 a1_7 a1_8 a1_9 a1_10 a1_11 a1_12 a1_13 a1_14 l1_15 l1_16)) = some r := H
 have A4 := Aside0.mk A40
 clear A40
 have HC5 := Aside0.mk H
 clear H
 go_enter Tryz.func23, Tryz.ntmps23
 try go_wp2_with (first | ((with_reducible refine gate_dst (N := 2) rfl ?_); refine box_event ?hg (N := 2) ?hd (cs := #[.bool a0_0, .string a0_1, .slice A0_2 l0_2.length c0_2, .bool a0_3, .string a0_4, .bool a0_5, .string a0_6, .bool a0_7, .string a0_8, .bool a0_9, .string a0_10, .bool a0_11, .string a0_12, .bool a0_13, .string a0_14, .slice A0_15 l0_15.length c0_15, .slice A0_16 l0_16.length c0_16]) (t := 29) ?hr ?_; (case hd => rfl); (case hg => rfl); (case hr => first | (go_simp; done) | (go_simp; rfl)); intro gb188 hg w6 hbox hb; have n0_ := Aside0.mk (below_step (by repeat (first | (with_reducible first | exact HB.out | apply below_alloc | apply pw_below_drewN | apply below_drew1) | exact HB.out)) hb); have n1_ := Aside0.mk (hbox); have n2_ := Aside0.mk ((by rw [hg]; exact (below_size (by repeat (first | (with_reducible first | exact HB.out | apply below_alloc | apply pw_below_drewN | apply below_drew1) | exact HB.out))) : w.heap.size ≤ gb188)); have n3_ := Aside0.mk ((by rw [hg]; exact (below_size (by repeat (first | (with_reducible first | exact HB.out | apply below_alloc | apply pw_below_drewN | apply below_drew1) | exact HB.out))) : w.heap.size ≤ gb188)); clear HB; have HB := n0_; have BK188 := n1_; have GW188 := n2_; have GE188 := n3_; clear n0_ n1_ n2_ n3_; clear hb hbox hg) | ((with_reducible refine gate_dst (N := 3) rfl ?_); refine box_event ?hg (N := 3) ?hd (cs := #[.bool a1_0, .string a1_1, .slice A1_2 l1_2.length c1_2, .bool a1_3, .string a1_4, .bool a1_5, .string a1_6, .bool a1_7, .string a1_8, .bool a1_9, .string a1_10, .bool a1_11, .string a1_12, .bool a1_13, .string a1_14, .slice A1_15 l1_15.length c1_15, .slice A1_16 l1_16.length c1_16]) (t := 29) ?hr ?_; (case hd => rfl); (case hg => rfl); (case hr => first | (go_simp; done) | (go_simp; rfl)); intro gb189 hg w7 hbox hb; have n0_ := Aside0.mk (blk_below (g := gb188) (o := .cells #[.bool a0_0, .string a0_1, .slice A0_2 l0_2.length c0_2, .bool a0_3, .string a0_4, .bool a0_5, .string a0_6, .bool a0_7, .string a0_8, .bool a0_9, .string a0_10, .bool a0_11, .string a0_12, .bool a0_13, .string a0_14, .slice A0_15 l0_15.length c0_15, .slice A0_16 l0_16.length c0_16] 29 (0, 0)) (by (with_reducible repeat (first | refine blk_drewN ?_ _ | refine blk_drew ?_ | refine blk_alloc ?_ _)); exact BK188.out) hb); have n1_ := Aside0.mk (below_step (by repeat (first | (with_reducible first | exact HB.out | apply below_alloc | apply pw_below_drewN | apply below_drew1 | refine below_set ?_ GE188.out) | exact HB.out)) hb); have n2_ := Aside0.mk (hbox); have n3_ := Aside0.mk ((by rw [hg]; exact (below_size (by repeat (first | (with_reducible first | exact HB.out | apply below_alloc | apply pw_below_drewN | apply below_drew1 | refine below_set ?_ GE188.out) | exact HB.out))) : w.heap.size ≤ gb189)); have n4_ := Aside0.mk ((by rw [hg]; exact (below_size (by repeat (first | (with_reducible first | exact HB.out | apply below_alloc | apply pw_below_drewN | apply below_drew1 | refine below_set ?_ GE188.out) | exact HB.out))) : w.heap.size ≤ gb189)); have n5_ := Aside0.mk ((by rw [hg]; exact Nat.ne_of_lt (blk_lt (g := gb188) (o := .cells #[.bool a0_0, .string a0_1, .slice A0_2 l0_2.length c0_2, .bool a0_3, .string a0_4, .bool a0_5, .string a0_6, .bool a0_7, .string a0_8, .bool a0_9, .string a0_10, .bool a0_11, .string a0_12, .bool a0_13, .string a0_14, .slice A0_15 l0_15.length c0_15, .slice A0_16 l0_16.length c0_16] 29 (0, 0)) (by (with_reducible repeat (first | refine blk_drewN ?_ _ | refine blk_drew ?_ | refine blk_alloc ?_ _)); exact BK188.out)) : gb188 ≠ gb189)); have n6_ := Aside0.mk ((by rw [hg]; exact Nat.ne_of_gt (blk_lt (g := gb188) (o := .cells #[.bool a0_0, .string a0_1, .slice A0_2 l0_2.length c0_2, .bool a0_3, .string a0_4, .bool a0_5, .string a0_6, .bool a0_7, .string a0_8, .bool a0_9, .string a0_10, .bool a0_11, .string a0_12, .bool a0_13, .string a0_14, .slice A0_15 l0_15.length c0_15, .slice A0_16 l0_16.length c0_16] 29 (0, 0)) (by (with_reducible repeat (first | refine blk_drewN ?_ _ | refine blk_drew ?_ | refine blk_alloc ?_ _)); exact BK188.out)) : gb189 ≠ gb188)); clear BK188; clear HB; have BK188 := n0_; have HB := n1_; have BK189 := n2_; have GW189 := n3_; have GE189 := n4_; have NB188_189 := n5_; have NB189_188 := n6_; clear n0_ n1_ n2_ n3_ n4_ n5_ n6_; clear hb hbox hg))
 have n0_ := Aside0.mk (blk_drew BK188.out)
 have n1_ := Aside0.mk (blk_drew BK189.out)
 have n2_ := Aside0.mk (below_drew1 HB.out)
 clear BK188
 clear BK189
 clear HB
 have BK188 := n0_
 have BK189 := n1_
 have HB := n2_
 clear n0_ n1_ n2_
 refine start_ (n := 6) (S := fun w' => w'.cell? ⟨gb188, 0, none⟩ = some (.bool a0_0) ∧ w'.cell? ⟨gb188, 1, none⟩ = some (.string a0_1) ∧ w'.cell? ⟨gb188, 2, none⟩ = some (.slice A0_2 l0_2.length c0_2) ∧ w'.cell? ⟨gb188, 3, none⟩ = some (.bool a0_3) ∧ w'.cell? ⟨gb188, 4, none⟩ = some (.string a0_4) ∧ w'.cell? ⟨gb188, 5, none⟩ = some (.bool a0_5) ∧ w'.cell? ⟨gb188, 6, none⟩ = some (.string a0_6) ∧ w'.cell? ⟨gb188, 7, none⟩ = some (.bool a0_7) ∧ w'.cell? ⟨gb188, 8, none⟩ = some (.string a0_8) ∧ w'.cell? ⟨gb188, 9, none⟩ = some (.bool a0_9) ∧ w'.cell? ⟨gb188, 10, none⟩ = some (.string a0_10) ∧ w'.cell? ⟨gb188, 11, none⟩ = some (.bool a0_11) ∧ w'.cell? ⟨gb188, 12, none⟩ = some (.string a0_12) ∧ w'.cell? ⟨gb188, 13, none⟩ = some (.bool a0_13) ∧ w'.cell? ⟨gb188, 14, none⟩ = some (.string a0_14) ∧ w'.cell? ⟨gb188, 15, none⟩ = some (.slice A0_15 l0_15.length c0_15) ∧ w'.cell? ⟨gb188, 16, none⟩ = some (.slice A0_16 l0_16.length c0_16) ∧ w'.cell? ⟨gb189, 0, none⟩ = some (.bool a1_0) ∧ w'.cell? ⟨gb189, 1, none⟩ = some (.string a1_1) ∧ w'.cell? ⟨gb189, 2, none⟩ = some (.slice A1_2 l1_2.length c1_2) ∧ w'.cell? ⟨gb189, 3, none⟩ = some (.bool a1_3) ∧ w'.cell? ⟨gb189, 4, none⟩ = some (.string a1_4) ∧ w'.cell? ⟨gb189, 5, none⟩ = some (.bool a1_5) ∧ w'.cell? ⟨gb189, 6, none⟩ = some (.string a1_6) ∧ w'.cell? ⟨gb189, 7, none⟩ = some (.bool a1_7) ∧ w'.cell? ⟨gb189, 8, none⟩ = some (.string a1_8) ∧ w'.cell? ⟨gb189, 9, none⟩ = some (.bool a1_9) ∧ w'.cell? ⟨gb189, 10, none⟩ = some (.string a1_10) ∧ w'.cell? ⟨gb189, 11, none⟩ = some (.bool a1_11) ∧ w'.cell? ⟨gb189, 12, none⟩ = some (.string a1_12) ∧ w'.cell? ⟨gb189, 13, none⟩ = some (.bool a1_13) ∧ w'.cell? ⟨gb189, 14, none⟩ = some (.string a1_14) ∧ w'.cell? ⟨gb189, 15, none⟩ = some (.slice A1_15 l1_15.length c1_15) ∧ w'.cell? ⟨gb189, 16, none⟩ = some (.slice A1_16 l1_16.length c1_16)) (ds := []) #[false, false, false, false, false, false] (by kernel_rfl) rfl rfl ⟨(blk_cell BK188.out 0).trans rfl, (blk_cell BK188.out 1).trans rfl, (blk_cell BK188.out 2).trans rfl, (blk_cell BK188.out 3).trans rfl, (blk_cell BK188.out 4).trans rfl, (blk_cell BK188.out 5).trans rfl, (blk_cell BK188.out 6).trans rfl, (blk_cell BK188.out 7).trans rfl, (blk_cell BK188.out 8).trans rfl, (blk_cell BK188.out 9).trans rfl, (blk_cell BK188.out 10).trans rfl, (blk_cell BK188.out 11).trans rfl, (blk_cell BK188.out 12).trans rfl, (blk_cell BK188.out 13).trans rfl, (blk_cell BK188.out 14).trans rfl, (blk_cell BK188.out 15).trans rfl, (blk_cell BK188.out 16).trans rfl, (blk_cell BK189.out 0).trans rfl, (blk_cell BK189.out 1).trans rfl, (blk_cell BK189.out 2).trans rfl, (blk_cell BK189.out 3).trans rfl, (blk_cell BK189.out 4).trans rfl, (blk_cell BK189.out 5).trans rfl, (blk_cell BK189.out 6).trans rfl, (blk_cell BK189.out 7).trans rfl, (blk_cell BK189.out 8).trans rfl, (blk_cell BK189.out 9).trans rfl, (blk_cell BK189.out 10).trans rfl, (blk_cell BK189.out 11).trans rfl, (blk_cell BK189.out 12).trans rfl, (blk_cell BK189.out 13).trans rfl, (blk_cell BK189.out 14).trans rfl, (blk_cell BK189.out 15).trans rfl, (blk_cell BK189.out 16).trans rfl⟩ (fun hHeld => ?_)
 generalize w7.drew = w8 at BK188 BK189 HB hHeld ⊢
 refine take_ (i := 0) (N := some 8) (v := ?_) (a' := ?_) #[true, false, false, false, false, false] rfl rfl (by kernel_rfl) (fun _ _ _ h => h) (Or.inl ⟨by rfl, ?_⟩) hHeld ?_ ?_
 rotate_left
 ·rintro w' ⟨s0, s1, s2, s3, s4, s5, s6, s7, s8, s9, s10, s11, s12, s13, s14, s15, s16, s17, s18, s19, s20, s21, s22, s23, s24, s25, s26, s27, s28, s29, s30, s31, s32, s33⟩
  go_simp
  with_reducible rfl
 rotate_left
 ·simp only [Act.put, List.setIfInBounds_toArray, List.set_cons_zero, List.set_cons_succ, i64_w, i32_w]
  rfl
 refine take_ (i := 2) (N := some 10) (v := ?_) (a' := ?_) #[true, false, true, false, false, false] rfl rfl (by kernel_rfl) (fun _ _ _ h => h) (Or.inl ⟨by rfl, ?_⟩) hHeld ?_ ?_
 rotate_left
 ·rintro w' ⟨s0, s1, s2, s3, s4, s5, s6, s7, s8, s9, s10, s11, s12, s13, s14, s15, s16, s17, s18, s19, s20, s21, s22, s23, s24, s25, s26, s27, s28, s29, s30, s31, s32, s33⟩
  go_simp
  with_reducible rfl
 rotate_left
 ·simp only [Act.put, List.setIfInBounds_toArray, List.set_cons_zero, List.set_cons_succ, i64_w, i32_w]
  rfl
 refine one_ (i := 1) (N := some 9) #[true, true, true, false, false, false] rfl rfl (by kernel_rfl) (by decide) (fun K hK => ?_)
 refine goes_ Tryz.func41 (by kernel_rfl) rfl #[.agg #[.bool a0_0, .string a0_1, .slice A0_2 l0_2.length c0_2, .bool a0_3, .string a0_4, .bool a0_5, .string a0_6, .bool a0_7, .string a0_8, .bool a0_9, .string a0_10, .bool a0_11, .string a0_12, .bool a0_13, .string a0_14, .slice A0_15 l0_15.length c0_15, .slice A0_16 l0_16.length c0_16]] (by rfl) rfl rfl (by (try simp only [List.map_toArray, List.map_cons, List.map_nil]); first | done | rfl | (simp only [List.length_drop, List.length_take]; rfl)) ?_
 with_reducible refine (spec_pypiPlace.calls a0_0 a0_1 _ _ l0_2 a0_3 a0_4 a0_5 a0_6 a0_7 a0_8 a0_9 a0_10 a0_11 a0_12 a0_13 a0_14 _ _ l0_15 _ _ l0_16 t190 _ ?side1 ?side2 ?side3 ?side4 ?side5 ?side6 A3.out).mono ?_
 (case side1 => repeat (first | exact (Kd.C_below HR0_2.out HB.out) | (with_reducible refine Kd.C_alloc ?_ _) | (with_reducible refine Kd.C_drewN ?_ _) | (with_reducible refine Kd.C_drew ?_)))
 (case side2 => exact HC0_2.out)
 (case side3 => repeat (first | exact (Kd.C_below HR0_15.out HB.out) | (with_reducible refine Kd.C_alloc ?_ _) | (with_reducible refine Kd.C_drewN ?_ _) | (with_reducible refine Kd.C_drew ?_)))
 (case side4 => exact HC0_15.out)
 (case side5 => repeat (first | exact (Kd.C_below HR0_16.out HB.out) | (with_reducible refine Kd.C_alloc ?_ _) | (with_reducible refine Kd.C_drewN ?_ _) | (with_reducible refine Kd.C_drew ?_)))
 (case side6 => exact HC0_16.out)
 rintro e w9 ⟨rfl, hb⟩
 refine ⟨_, rfl, ?_⟩
 have n0_ := Aside0.mk (blk_below (g := gb188) (o := .cells #[.bool a0_0, .string a0_1, .slice A0_2 l0_2.length c0_2, .bool a0_3, .string a0_4, .bool a0_5, .string a0_6, .bool a0_7, .string a0_8, .bool a0_9, .string a0_10, .bool a0_11, .string a0_12, .bool a0_13, .string a0_14, .slice A0_15 l0_15.length c0_15, .slice A0_16 l0_16.length c0_16] 29 (0, 0)) (by (with_reducible repeat (first | refine blk_drewN ?_ _ | refine blk_drew ?_ | refine blk_alloc ?_ _)); exact BK188.out) hb)
 have n1_ := Aside0.mk (blk_below (g := gb189) (o := .cells #[.bool a1_0, .string a1_1, .slice A1_2 l1_2.length c1_2, .bool a1_3, .string a1_4, .bool a1_5, .string a1_6, .bool a1_7, .string a1_8, .bool a1_9, .string a1_10, .bool a1_11, .string a1_12, .bool a1_13, .string a1_14, .slice A1_15 l1_15.length c1_15, .slice A1_16 l1_16.length c1_16] 29 (0, 0)) (by (with_reducible repeat (first | refine blk_drewN ?_ _ | refine blk_drew ?_ | refine blk_alloc ?_ _)); exact BK189.out) hb)
 have n2_ := Aside0.mk (below_step (by repeat (first | (with_reducible first | exact HB.out | apply below_alloc | apply pw_below_drewN | apply below_drew1 | refine below_set ?_ GE188.out | refine below_set ?_ GE189.out) | exact HB.out)) hb)
 clear BK188
 clear BK189
 clear HB
 have BK188 := n0_
 have BK189 := n1_
 have HB := n2_
 clear n0_ n1_ n2_
 (try clear hb)
 (try clear hb2)
 (try clear hk)
 (try clear hi)
 refine hK.out _ _ ⟨(blk_cell BK188.out 0).trans rfl, (blk_cell BK188.out 1).trans rfl, (blk_cell BK188.out 2).trans rfl, (blk_cell BK188.out 3).trans rfl, (blk_cell BK188.out 4).trans rfl, (blk_cell BK188.out 5).trans rfl, (blk_cell BK188.out 6).trans rfl, (blk_cell BK188.out 7).trans rfl, (blk_cell BK188.out 8).trans rfl, (blk_cell BK188.out 9).trans rfl, (blk_cell BK188.out 10).trans rfl, (blk_cell BK188.out 11).trans rfl, (blk_cell BK188.out 12).trans rfl, (blk_cell BK188.out 13).trans rfl, (blk_cell BK188.out 14).trans rfl, (blk_cell BK188.out 15).trans rfl, (blk_cell BK188.out 16).trans rfl, (blk_cell BK189.out 0).trans rfl, (blk_cell BK189.out 1).trans rfl, (blk_cell BK189.out 2).trans rfl, (blk_cell BK189.out 3).trans rfl, (blk_cell BK189.out 4).trans rfl, (blk_cell BK189.out 5).trans rfl, (blk_cell BK189.out 6).trans rfl, (blk_cell BK189.out 7).trans rfl, (blk_cell BK189.out 8).trans rfl, (blk_cell BK189.out 9).trans rfl, (blk_cell BK189.out 10).trans rfl, (blk_cell BK189.out 11).trans rfl, (blk_cell BK189.out 12).trans rfl, (blk_cell BK189.out 13).trans rfl, (blk_cell BK189.out 14).trans rfl, (blk_cell BK189.out 15).trans rfl, (blk_cell BK189.out 16).trans rfl⟩ (fun hHeld => ?_)
 clear hK K
 refine norm_ (a' := ?_) ?_ ?_
 rotate_left
 ·show Act.put _ (some 9) _ = _
  simp only [Act.put, List.setIfInBounds_toArray, List.set_cons_zero, List.set_cons_succ, i64_w, i32_w]
  rfl
 refine one_ (i := 3) (N := some 11) #[true, true, true, true, false, false] rfl rfl (by kernel_rfl) (by decide) (fun K hK => ?_)
 refine goes_ Tryz.func41 (by kernel_rfl) rfl #[.agg #[.bool a1_0, .string a1_1, .slice A1_2 l1_2.length c1_2, .bool a1_3, .string a1_4, .bool a1_5, .string a1_6, .bool a1_7, .string a1_8, .bool a1_9, .string a1_10, .bool a1_11, .string a1_12, .bool a1_13, .string a1_14, .slice A1_15 l1_15.length c1_15, .slice A1_16 l1_16.length c1_16]] (by rfl) rfl rfl (by (try simp only [List.map_toArray, List.map_cons, List.map_nil]); first | done | rfl | (simp only [List.length_drop, List.length_take]; rfl)) ?_
 with_reducible refine (spec_pypiPlace.calls a1_0 a1_1 _ _ l1_2 a1_3 a1_4 a1_5 a1_6 a1_7 a1_8 a1_9 a1_10 a1_11 a1_12 a1_13 a1_14 _ _ l1_15 _ _ l1_16 t191 _ ?side1 ?side2 ?side3 ?side4 ?side5 ?side6 A4.out).mono ?_
 (case side1 => repeat (first | exact (Kd.C_below HR1_2.out HB.out) | (with_reducible refine Kd.C_alloc ?_ _) | (with_reducible refine Kd.C_drewN ?_ _) | (with_reducible refine Kd.C_drew ?_)))
 (case side2 => exact HC1_2.out)
 (case side3 => repeat (first | exact (Kd.C_below HR1_15.out HB.out) | (with_reducible refine Kd.C_alloc ?_ _) | (with_reducible refine Kd.C_drewN ?_ _) | (with_reducible refine Kd.C_drew ?_)))
 (case side4 => exact HC1_15.out)
 (case side5 => repeat (first | exact (Kd.C_below HR1_16.out HB.out) | (with_reducible refine Kd.C_alloc ?_ _) | (with_reducible refine Kd.C_drewN ?_ _) | (with_reducible refine Kd.C_drew ?_)))
 (case side6 => exact HC1_16.out)
 rintro e w10 ⟨rfl, hb⟩
 refine ⟨_, rfl, ?_⟩
 have n0_ := Aside0.mk (blk_below (g := gb188) (o := .cells #[.bool a0_0, .string a0_1, .slice A0_2 l0_2.length c0_2, .bool a0_3, .string a0_4, .bool a0_5, .string a0_6, .bool a0_7, .string a0_8, .bool a0_9, .string a0_10, .bool a0_11, .string a0_12, .bool a0_13, .string a0_14, .slice A0_15 l0_15.length c0_15, .slice A0_16 l0_16.length c0_16] 29 (0, 0)) (by (with_reducible repeat (first | refine blk_drewN ?_ _ | refine blk_drew ?_ | refine blk_alloc ?_ _)); exact BK188.out) hb)
 have n1_ := Aside0.mk (blk_below (g := gb189) (o := .cells #[.bool a1_0, .string a1_1, .slice A1_2 l1_2.length c1_2, .bool a1_3, .string a1_4, .bool a1_5, .string a1_6, .bool a1_7, .string a1_8, .bool a1_9, .string a1_10, .bool a1_11, .string a1_12, .bool a1_13, .string a1_14, .slice A1_15 l1_15.length c1_15, .slice A1_16 l1_16.length c1_16] 29 (0, 0)) (by (with_reducible repeat (first | refine blk_drewN ?_ _ | refine blk_drew ?_ | refine blk_alloc ?_ _)); exact BK189.out) hb)
 have n2_ := Aside0.mk (below_step (by repeat (first | (with_reducible first | exact HB.out | apply below_alloc | apply pw_below_drewN | apply below_drew1 | refine below_set ?_ GE188.out | refine below_set ?_ GE189.out) | exact HB.out)) hb)
 clear BK188
 clear BK189
 clear HB
 have BK188 := n0_
 have BK189 := n1_
 have HB := n2_
 clear n0_ n1_ n2_
 (try clear hb)
 (try clear hb2)
 (try clear hk)
 (try clear hi)
 refine hK.out _ _ ⟨(blk_cell BK188.out 0).trans rfl, (blk_cell BK188.out 1).trans rfl, (blk_cell BK188.out 2).trans rfl, (blk_cell BK188.out 3).trans rfl, (blk_cell BK188.out 4).trans rfl, (blk_cell BK188.out 5).trans rfl, (blk_cell BK188.out 6).trans rfl, (blk_cell BK188.out 7).trans rfl, (blk_cell BK188.out 8).trans rfl, (blk_cell BK188.out 9).trans rfl, (blk_cell BK188.out 10).trans rfl, (blk_cell BK188.out 11).trans rfl, (blk_cell BK188.out 12).trans rfl, (blk_cell BK188.out 13).trans rfl, (blk_cell BK188.out 14).trans rfl, (blk_cell BK188.out 15).trans rfl, (blk_cell BK188.out 16).trans rfl, (blk_cell BK189.out 0).trans rfl, (blk_cell BK189.out 1).trans rfl, (blk_cell BK189.out 2).trans rfl, (blk_cell BK189.out 3).trans rfl, (blk_cell BK189.out 4).trans rfl, (blk_cell BK189.out 5).trans rfl, (blk_cell BK189.out 6).trans rfl, (blk_cell BK189.out 7).trans rfl, (blk_cell BK189.out 8).trans rfl, (blk_cell BK189.out 9).trans rfl, (blk_cell BK189.out 10).trans rfl, (blk_cell BK189.out 11).trans rfl, (blk_cell BK189.out 12).trans rfl, (blk_cell BK189.out 13).trans rfl, (blk_cell BK189.out 14).trans rfl, (blk_cell BK189.out 15).trans rfl, (blk_cell BK189.out 16).trans rfl⟩ (fun hHeld => ?_)
 clear hK K
 refine norm_ (a' := ?_) ?_ ?_
 rotate_left
 ·show Act.put _ (some 11) _ = _
  simp only [Act.put, List.setIfInBounds_toArray, List.set_cons_zero, List.set_cons_succ, i64_w, i32_w]
  rfl
 refine pure_ (i := 4) (N := some 5) (v := ?_) (a' := ?_) #[true, true, true, true, true, false] rfl rfl (by kernel_rfl) (fun _ _ _ h => h) (Or.inl ⟨by rfl, ?_⟩) ?_ ?_
 rotate_left
 ·intro w'
  go_simp
  with_reducible rfl
 rotate_left
 ·simp only [Act.put, List.setIfInBounds_toArray, List.set_cons_zero, List.set_cons_succ, i64_w, i32_w]
  rfl
 refine pure_ (i := 5) (N := some 6) (v := ?_) (a' := ?_) #[true, true, true, true, true, true] rfl rfl (by kernel_rfl) (fun _ _ _ h => h) (Or.inl ⟨by rfl, ?_⟩) ?_ ?_
 rotate_left
 ·intro w'
  go_simp
  with_reducible rfl
 rotate_left
 ·simp only [Act.put, List.setIfInBounds_toArray, List.set_cons_zero, List.set_cons_succ, i64_w, i32_w]
  rfl
 refine done_ (by kernel_rfl) ?_
 go_upto_region 2 with (fail)
 go_cut [18] (fun v18 wc => ∃ (kq : Nat) (x18_4 : Bool), v18 = .bool x18_4 ∧ Aside0 (spec_PyPIPre.j0 kq t190 t191 x18_4 a0_0 a0_1 l0_2 a0_3 a0_4 a0_5 a0_6 a0_7 a0_8 a0_9 a0_10 a0_11 a0_12 a0_13 a0_14 l0_15 l0_16 a1_0 a1_1 l1_2 a1_3 a1_4 a1_5 a1_6 a1_7 a1_8 a1_9 a1_10 a1_11 a1_12 a1_13 a1_14 l1_15 l1_16 = some r) ∧ Aside0 (kq ≤ k) ∧ Aside0 (wc.heap[gb188]? = some (.cells #[.bool a0_0, .string a0_1, (.slice A0_2 l0_2.length c0_2), .bool a0_3, .string a0_4, .bool a0_5, .string a0_6, .bool a0_7, .string a0_8, .bool a0_9, .string a0_10, .bool a0_11, .string a0_12, .bool a0_13, .string a0_14, (.slice A0_15 l0_15.length c0_15), (.slice A0_16 l0_16.length c0_16)] 29 (0, 0))) ∧ Aside0 (wc.heap[gb189]? = some (.cells #[.bool a1_0, .string a1_1, (.slice A1_2 l1_2.length c1_2), .bool a1_3, .string a1_4, .bool a1_5, .string a1_6, .bool a1_7, .string a1_8, .bool a1_9, .string a1_10, .bool a1_11, .string a1_12, .bool a1_13, .string a1_14, (.slice A1_15 l1_15.length c1_15), (.slice A1_16 l1_16.length c1_16)] 29 (0, 0))) ∧ Aside0 (Below w.heap.size w wc))
 case first =>
  have H := HC5.out
  clear HC5
  by_cases c11 : t190 = t191
  ·rw [if_pos c11] at H
   have c11b0 : (t190 == t191) = true := beq_iff_eq.mpr c11
   have c11b1 : (t190 != t191) = false := bne_eq_false_iff_eq.mpr c11
   clear c11
   (first | rw [c11b0] | (simp only [i64_w, i32_w]; rw [c11b0]) | skip)
   have H' := Aside0.mk H
   clear H
   go_wp2
   go_meet
   case rel => exact ⟨_, ((t190 != 0)), (by first | rfl | (simp; done) | (simp [*]; done)), H', ⟨by first | omega | exact Nat.le_refl _⟩, ⟨by (with_reducible repeat (first | refine blk_drewN ?_ _ | refine blk_drew ?_ | refine blk_alloc ?_ _)); exact BK188.out⟩, ⟨by (with_reducible repeat (first | refine blk_drewN ?_ _ | refine blk_drew ?_ | refine blk_alloc ?_ _)); exact BK189.out⟩, ⟨by repeat (first | (with_reducible first | exact HB.out | apply below_alloc | apply pw_below_drewN | apply below_drew1 | refine below_set ?_ GE188.out | refine below_set ?_ GE189.out) | exact HB.out)⟩⟩
  ·rw [if_neg c11] at H
   have c11b0 : (t190 == t191) = false := beq_eq_false_iff_ne.mpr c11
   have c11b1 : (t190 != t191) = true := bne_iff_ne.mpr c11
   (first | rw [c11b0] | (simp only [i64_w, i32_w]; rw [c11b0]) | skip)
   have H' := Aside0.mk H
   clear H
   go_wp2
   go_meet
   case rel => exact ⟨_, (true), (by first | rfl | (simp; done) | (simp [*]; done)), H', ⟨by first | omega | exact Nat.le_refl _⟩, ⟨by (with_reducible repeat (first | refine blk_drewN ?_ _ | refine blk_drew ?_ | refine blk_alloc ?_ _)); exact BK188.out⟩, ⟨by (with_reducible repeat (first | refine blk_drewN ?_ _ | refine blk_drew ?_ | refine blk_alloc ?_ _)); exact BK189.out⟩, ⟨by repeat (first | (with_reducible first | exact HB.out | apply below_alloc | apply pw_below_drewN | apply below_drew1 | refine below_set ?_ GE188.out | refine below_set ?_ GE189.out) | exact HB.out)⟩⟩
 case rest =>
  clear HC5
  try clear c1
  try clear c2
  try clear p2
  try clear c4
  try clear c11
  try clear c11b0
  try clear c11b1
  obtain ⟨kq, x18_4, rfl, HA, HJ4, BK188, BK189, HB⟩ := hcut
  cases kq with
  | zero => exact absurd HA.out (by simp [spec_PyPIPre.j0])
  | succ kj4 =>
   have H := HA.out
   clear HA
   simp only [spec_PyPIPre.j0] at H
   by_cases c12 : x18_4 = true
   ·subst c12
    have H1 : ((spec_orderInts.f t190 t191).bind fun t192 => (some t192)) = some r := by rw [if_pos rfl] at H; exact H
    clear H
    have H := H1
    clear H1
    replace H := Option.bind_eq_some_iff.mp H
    obtain ⟨t192, A130, H⟩ := H
    replace H : (some t192) = some r := H
    have A13 := Aside0.mk A130
    clear A130
    obtain rfl := Option.some.inj H
    go_wp2_with (first | ((with_reducible refine gate_callee (f := 38) rfl ?_); refine goesL_ (some 21) rfl rfl Tryz.func38 (by kernel_rfl) rfl #[.int .i64 t190, .int .i64 t191] rfl (by (try simp only [List.map_toArray, List.map_cons, List.map_nil]); first | done | rfl | (simp only [List.length_drop, List.length_take]; rfl)) ?_; (with_reducible refine (spec_orderInts.calls t190 t191 t192 _ A13.out).mono ?_); rintro e w' ⟨rfl, ⟨nd, rfl⟩⟩; refine ⟨_, rfl, ?_⟩))
    go_ret
    exact ⟨by first | rfl | (simp [errW_none, errW_some] <;> rfl) | (simp [*, errW_none, errW_some] <;> rfl), by repeat (first | (with_reducible first | exact HB.out | apply below_alloc | apply pw_below_drewN | apply below_drew1 | refine below_set ?_ GE188.out | refine below_set ?_ GE189.out) | exact HB.out)⟩
   ·replace c12 := Bool.eq_false_iff.mpr c12
    subst c12
    have H1 : (if 0 ≤ 1 then (if 1 ≤ (a0_4.size : Int) then (if 1 ≤ (a1_4.size : Int) then ((spec_order.f (a0_4.extract 0 1) (a1_4.extract 0 1)).bind fun t193 => (if t193 = 0 then ((spec_intOrder.f kj4 a0_5 a0_6 a1_5 a1_6).bind fun t194 => (some t194)) else (some t193))) else (none)) else (none)) else (none)) = some r := by rw [if_neg (show ¬ (false = true) by decide)] at H; exact H
    clear H
    have H := H1
    clear H1
    by_cases c14 : 0 ≤ 1
    ·rw [if_pos c14] at H
     have c14b0 := eq_true c14
     have c14b1 : decide (0 ≤ 1) = true := decide_eq_true c14
     clear c14
     by_cases c15 : 1 ≤ (a0_4.size : Int)
     ·rw [if_pos c15] at H
      have c15b0 := eq_true c15
      have c15b1 : decide (1 ≤ (a0_4.size : Int)) = true := decide_eq_true c15
      clear c15
      have c16b0 := eq_true (of_decide_eq_true (by first | (with_reducible assumption) | assumption) : 0 ≤ 1)
      by_cases c17 : 1 ≤ (a1_4.size : Int)
      ·rw [if_pos c17] at H
       have c17b0 := eq_true c17
       have c17b1 : decide (1 ≤ (a1_4.size : Int)) = true := decide_eq_true c17
       clear c17
       replace H := Option.bind_eq_some_iff.mp H
       obtain ⟨t193, A180, H⟩ := H
       replace H : (if t193 = 0 then ((spec_intOrder.f kj4 a0_5 a0_6 a1_5 a1_6).bind fun t194 => (some t194)) else (some t193)) = some r := H
       have A18 := Aside0.mk A180
       clear A180
       by_cases c19 : t193 = 0
       ·rw [if_pos c19] at H
        have c19b0 : (t193 == 0) = true := beq_iff_eq.mpr c19
        have c19b1 : (t193 != 0) = false := bne_eq_false_iff_eq.mpr c19
        clear c19
        replace H := Option.bind_eq_some_iff.mp H
        obtain ⟨t194, A200, H⟩ := H
        replace H : (some t194) = some r := H
        have A20 := Aside0.mk A200
        clear A200
        obtain rfl := Option.some.inj H
        try go_wp2
        have n0_ := Aside0.mk (blk_drew BK188.out)
        have n1_ := Aside0.mk (blk_drew BK189.out)
        have n2_ := Aside0.mk (below_drew1 HB.out)
        clear BK188
        clear BK189
        clear HB
        have BK188 := n0_
        have BK189 := n1_
        have HB := n2_
        clear n0_ n1_ n2_
        refine start_ (n := 10) (S := fun w' => w'.cell? ⟨gb188, 0, none⟩ = some (.bool a0_0) ∧ w'.cell? ⟨gb188, 1, none⟩ = some (.string a0_1) ∧ w'.cell? ⟨gb188, 2, none⟩ = some (.slice A0_2 l0_2.length c0_2) ∧ w'.cell? ⟨gb188, 3, none⟩ = some (.bool a0_3) ∧ w'.cell? ⟨gb188, 4, none⟩ = some (.string a0_4) ∧ w'.cell? ⟨gb188, 5, none⟩ = some (.bool a0_5) ∧ w'.cell? ⟨gb188, 6, none⟩ = some (.string a0_6) ∧ w'.cell? ⟨gb188, 7, none⟩ = some (.bool a0_7) ∧ w'.cell? ⟨gb188, 8, none⟩ = some (.string a0_8) ∧ w'.cell? ⟨gb188, 9, none⟩ = some (.bool a0_9) ∧ w'.cell? ⟨gb188, 10, none⟩ = some (.string a0_10) ∧ w'.cell? ⟨gb188, 11, none⟩ = some (.bool a0_11) ∧ w'.cell? ⟨gb188, 12, none⟩ = some (.string a0_12) ∧ w'.cell? ⟨gb188, 13, none⟩ = some (.bool a0_13) ∧ w'.cell? ⟨gb188, 14, none⟩ = some (.string a0_14) ∧ w'.cell? ⟨gb188, 15, none⟩ = some (.slice A0_15 l0_15.length c0_15) ∧ w'.cell? ⟨gb188, 16, none⟩ = some (.slice A0_16 l0_16.length c0_16) ∧ w'.cell? ⟨gb189, 0, none⟩ = some (.bool a1_0) ∧ w'.cell? ⟨gb189, 1, none⟩ = some (.string a1_1) ∧ w'.cell? ⟨gb189, 2, none⟩ = some (.slice A1_2 l1_2.length c1_2) ∧ w'.cell? ⟨gb189, 3, none⟩ = some (.bool a1_3) ∧ w'.cell? ⟨gb189, 4, none⟩ = some (.string a1_4) ∧ w'.cell? ⟨gb189, 5, none⟩ = some (.bool a1_5) ∧ w'.cell? ⟨gb189, 6, none⟩ = some (.string a1_6) ∧ w'.cell? ⟨gb189, 7, none⟩ = some (.bool a1_7) ∧ w'.cell? ⟨gb189, 8, none⟩ = some (.string a1_8) ∧ w'.cell? ⟨gb189, 9, none⟩ = some (.bool a1_9) ∧ w'.cell? ⟨gb189, 10, none⟩ = some (.string a1_10) ∧ w'.cell? ⟨gb189, 11, none⟩ = some (.bool a1_11) ∧ w'.cell? ⟨gb189, 12, none⟩ = some (.string a1_12) ∧ w'.cell? ⟨gb189, 13, none⟩ = some (.bool a1_13) ∧ w'.cell? ⟨gb189, 14, none⟩ = some (.string a1_14) ∧ w'.cell? ⟨gb189, 15, none⟩ = some (.slice A1_15 l1_15.length c1_15) ∧ w'.cell? ⟨gb189, 16, none⟩ = some (.slice A1_16 l1_16.length c1_16)) (ds := []) #[false, false, false, false, false, false, false, false, false, false] (by kernel_rfl) rfl rfl ⟨(blk_cell BK188.out 0).trans rfl, (blk_cell BK188.out 1).trans rfl, (blk_cell BK188.out 2).trans rfl, (blk_cell BK188.out 3).trans rfl, (blk_cell BK188.out 4).trans rfl, (blk_cell BK188.out 5).trans rfl, (blk_cell BK188.out 6).trans rfl, (blk_cell BK188.out 7).trans rfl, (blk_cell BK188.out 8).trans rfl, (blk_cell BK188.out 9).trans rfl, (blk_cell BK188.out 10).trans rfl, (blk_cell BK188.out 11).trans rfl, (blk_cell BK188.out 12).trans rfl, (blk_cell BK188.out 13).trans rfl, (blk_cell BK188.out 14).trans rfl, (blk_cell BK188.out 15).trans rfl, (blk_cell BK188.out 16).trans rfl, (blk_cell BK189.out 0).trans rfl, (blk_cell BK189.out 1).trans rfl, (blk_cell BK189.out 2).trans rfl, (blk_cell BK189.out 3).trans rfl, (blk_cell BK189.out 4).trans rfl, (blk_cell BK189.out 5).trans rfl, (blk_cell BK189.out 6).trans rfl, (blk_cell BK189.out 7).trans rfl, (blk_cell BK189.out 8).trans rfl, (blk_cell BK189.out 9).trans rfl, (blk_cell BK189.out 10).trans rfl, (blk_cell BK189.out 11).trans rfl, (blk_cell BK189.out 12).trans rfl, (blk_cell BK189.out 13).trans rfl, (blk_cell BK189.out 14).trans rfl, (blk_cell BK189.out 15).trans rfl, (blk_cell BK189.out 16).trans rfl⟩ (fun hHeld => ?_); refine with_tabW spec_PyPIPre.tab4 spec_PyPIPre.bits4 (fun HT_ HW_ => ?_)
        generalize wc.drew = w21 at BK188 BK189 HB hHeld ⊢
        refine pure_ (i := 0) (N := some 22) (v := ?_) (a' := ?_) #[true, false, false, false, false, false, false, false, false, false] rfl rfl (any_of HT_.out (by kernel_rfl)) (fun _ _ _ h => h) (Or.inl ⟨by rfl, ?_⟩) ?_ ?_
        rotate_left
        ·intro w'
         go_simp
         with_reducible rfl
        rotate_left
        ·simp only [Act.put, List.setIfInBounds_toArray, List.set_cons_zero, List.set_cons_succ, i64_w, i32_w]
         rfl
        refine pure_ (i := 1) (N := some 23) (v := ?_) (a' := ?_) #[true, true, false, false, false, false, false, false, false, false] rfl rfl (any_of HT_.out (by kernel_rfl)) (fun _ _ _ h => h) (Or.inl ⟨by rfl, ?_⟩) ?_ ?_
        rotate_left
        ·intro w'
         go_simp
         with_reducible rfl
        rotate_left
        ·simp only [Act.put, List.setIfInBounds_toArray, List.set_cons_zero, List.set_cons_succ, i64_w, i32_w]
         rfl
        refine pure_ (i := 4) (N := some 26) (v := ?_) (a' := ?_) #[true, true, false, false, true, false, false, false, false, false] rfl rfl (any_of HT_.out (by kernel_rfl)) (fun _ _ _ h => h) (Or.inl ⟨by rfl, ?_⟩) ?_ ?_
        rotate_left
        ·intro w'
         go_simp
         with_reducible rfl
        rotate_left
        ·simp only [Act.put, List.setIfInBounds_toArray, List.set_cons_zero, List.set_cons_succ, i64_w, i32_w]
         rfl
        refine pure_ (i := 5) (N := some 27) (v := ?_) (a' := ?_) #[true, true, false, false, true, true, false, false, false, false] rfl rfl (any_of HT_.out (by kernel_rfl)) (fun _ _ _ h => h) (Or.inl ⟨by rfl, ?_⟩) ?_ ?_
        rotate_left
        ·intro w'
         go_simp
         with_reducible rfl
        rotate_left
        ·simp only [Act.put, List.setIfInBounds_toArray, List.set_cons_zero, List.set_cons_succ, i64_w, i32_w]
         rfl
        refine take_ (i := 2) (N := some 24) (v := ?_) (a' := ?_) #[true, true, true, false, true, true, false, false, false, false] rfl rfl (take_ofW HT_.out HW_.out (by kernel_rfl)) (fun _ _ _ h => h) (Or.inl ⟨by rfl, ?_⟩) hHeld ?_ ?_
        rotate_left
        ·rintro w' ⟨s0, s1, s2, s3, s4, s5, s6, s7, s8, s9, s10, s11, s12, s13, s14, s15, s16, s17, s18, s19, s20, s21, s22, s23, s24, s25, s26, s27, s28, s29, s30, s31, s32, s33⟩
         go_simp
         with_reducible rfl
        rotate_left
        ·simp only [Act.put, List.setIfInBounds_toArray, List.set_cons_zero, List.set_cons_succ, i64_w, i32_w]
         rfl
        refine pure_ (i := 3) (N := some 25) (v := ?_) (a' := ?_) #[true, true, true, true, true, true, false, false, false, false] rfl rfl (any_of HT_.out (by kernel_rfl)) (fun _ _ _ h => h) (Or.inl ⟨by rfl, ?_⟩) ?_ ?_
        rotate_left
        ·intro w'
         go_simp
         with_reducible rfl
        rotate_left
        ·simp only [Act.put, List.setIfInBounds_toArray, List.set_cons_zero, List.set_cons_succ, i64_w, i32_w]
         rfl
        refine take_ (i := 6) (N := some 28) (v := ?_) (a' := ?_) #[true, true, true, true, true, true, true, false, false, false] rfl rfl (take_ofW HT_.out HW_.out (by kernel_rfl)) (fun _ _ _ h => h) (Or.inl ⟨by rfl, ?_⟩) hHeld ?_ ?_
        rotate_left
        ·rintro w' ⟨s0, s1, s2, s3, s4, s5, s6, s7, s8, s9, s10, s11, s12, s13, s14, s15, s16, s17, s18, s19, s20, s21, s22, s23, s24, s25, s26, s27, s28, s29, s30, s31, s32, s33⟩
         go_simp
         with_reducible rfl
        rotate_left
        ·simp only [Act.put, List.setIfInBounds_toArray, List.set_cons_zero, List.set_cons_succ, i64_w, i32_w]
         rfl
        refine pure_ (i := 7) (N := some 29) (v := ?_) (a' := ?_) #[true, true, true, true, true, true, true, true, false, false] rfl rfl (any_of HT_.out (by kernel_rfl)) (fun _ _ _ h => h) (Or.inl ⟨by rfl, ?_⟩) ?_ ?_
        rotate_left
        ·intro w'
         go_simp
         with_reducible rfl
        rotate_left
        ·simp only [Act.put, List.setIfInBounds_toArray, List.set_cons_zero, List.set_cons_succ, i64_w, i32_w]
         rfl
        refine one_ (i := 8) (N := some 30) #[true, true, true, true, true, true, true, true, true, false] rfl rfl (one_of HT_.out (by kernel_rfl)) (by decide) (fun K hK => ?_)
        refine goes_ Tryz.func39 (by kernel_rfl) rfl #[.string (a0_4.extract 0 1), .string (a1_4.extract 0 1)] (by rfl) rfl rfl (by (try simp only [List.map_toArray, List.map_cons, List.map_nil]); first | done | rfl | (simp only [List.length_drop, List.length_take]; rfl)) ?_
        with_reducible refine (spec_order.calls (a0_4.extract 0 1) (a1_4.extract 0 1) t193 _ A18.out).mono ?_
        rintro e w' ⟨rfl, ⟨nd, rfl⟩⟩
        refine ⟨_, rfl, ?_⟩
        refine hK.out _ _ ⟨(blk_cell BK188.out 0).trans rfl, (blk_cell BK188.out 1).trans rfl, (blk_cell BK188.out 2).trans rfl, (blk_cell BK188.out 3).trans rfl, (blk_cell BK188.out 4).trans rfl, (blk_cell BK188.out 5).trans rfl, (blk_cell BK188.out 6).trans rfl, (blk_cell BK188.out 7).trans rfl, (blk_cell BK188.out 8).trans rfl, (blk_cell BK188.out 9).trans rfl, (blk_cell BK188.out 10).trans rfl, (blk_cell BK188.out 11).trans rfl, (blk_cell BK188.out 12).trans rfl, (blk_cell BK188.out 13).trans rfl, (blk_cell BK188.out 14).trans rfl, (blk_cell BK188.out 15).trans rfl, (blk_cell BK188.out 16).trans rfl, (blk_cell BK189.out 0).trans rfl, (blk_cell BK189.out 1).trans rfl, (blk_cell BK189.out 2).trans rfl, (blk_cell BK189.out 3).trans rfl, (blk_cell BK189.out 4).trans rfl, (blk_cell BK189.out 5).trans rfl, (blk_cell BK189.out 6).trans rfl, (blk_cell BK189.out 7).trans rfl, (blk_cell BK189.out 8).trans rfl, (blk_cell BK189.out 9).trans rfl, (blk_cell BK189.out 10).trans rfl, (blk_cell BK189.out 11).trans rfl, (blk_cell BK189.out 12).trans rfl, (blk_cell BK189.out 13).trans rfl, (blk_cell BK189.out 14).trans rfl, (blk_cell BK189.out 15).trans rfl, (blk_cell BK189.out 16).trans rfl⟩ (fun hHeld => ?_)
        clear hK K
        refine norm_ (a' := ?_) ?_ ?_
        rotate_left
        ·show Act.put _ (some 30) _ = _
         simp only [Act.put, List.setIfInBounds_toArray, List.set_cons_zero, List.set_cons_succ, i64_w, i32_w]
         rfl
        refine pure_ (i := 9) (N := some 7) (v := ?_) (a' := ?_) #[true, true, true, true, true, true, true, true, true, true] rfl rfl (any_of HT_.out (by kernel_rfl)) (fun _ _ _ h => h) (Or.inl ⟨by rfl, ?_⟩) ?_ ?_
        rotate_left
        ·intro w'
         go_simp
         with_reducible rfl
        rotate_left
        ·simp only [Act.put, List.setIfInBounds_toArray, List.set_cons_zero, List.set_cons_succ, i64_w, i32_w]
         rfl
        refine done_ (done_of HT_.out (by kernel_rfl)) ?_
        have hnb22 := NB188_189.out
        have hnc22 := NB189_188.out
        have hcz23_0 : w21.cell? ⟨gb188, 0, none⟩ = some (.bool a0_0) := (blk_cell BK188.out 0).trans rfl
        have hcz23_1 : w21.cell? ⟨gb188, 1, none⟩ = some (.string a0_1) := (blk_cell BK188.out 1).trans rfl
        have hcz23_2 : w21.cell? ⟨gb188, 2, none⟩ = some (.slice A0_2 l0_2.length c0_2) := (blk_cell BK188.out 2).trans rfl
        have hcz23_3 : w21.cell? ⟨gb188, 3, none⟩ = some (.bool a0_3) := (blk_cell BK188.out 3).trans rfl
        have hcz23_4 : w21.cell? ⟨gb188, 4, none⟩ = some (.string a0_4) := (blk_cell BK188.out 4).trans rfl
        have hcz23_5 : w21.cell? ⟨gb188, 5, none⟩ = some (.bool a0_5) := (blk_cell BK188.out 5).trans rfl
        have hcz23_6 : w21.cell? ⟨gb188, 6, none⟩ = some (.string a0_6) := (blk_cell BK188.out 6).trans rfl
        have hcz23_7 : w21.cell? ⟨gb188, 7, none⟩ = some (.bool a0_7) := (blk_cell BK188.out 7).trans rfl
        have hcz23_8 : w21.cell? ⟨gb188, 8, none⟩ = some (.string a0_8) := (blk_cell BK188.out 8).trans rfl
        have hcz23_9 : w21.cell? ⟨gb188, 9, none⟩ = some (.bool a0_9) := (blk_cell BK188.out 9).trans rfl
        have hcz23_10 : w21.cell? ⟨gb188, 10, none⟩ = some (.string a0_10) := (blk_cell BK188.out 10).trans rfl
        have hcz23_11 : w21.cell? ⟨gb188, 11, none⟩ = some (.bool a0_11) := (blk_cell BK188.out 11).trans rfl
        have hcz23_12 : w21.cell? ⟨gb188, 12, none⟩ = some (.string a0_12) := (blk_cell BK188.out 12).trans rfl
        have hcz23_13 : w21.cell? ⟨gb188, 13, none⟩ = some (.bool a0_13) := (blk_cell BK188.out 13).trans rfl
        have hcz23_14 : w21.cell? ⟨gb188, 14, none⟩ = some (.string a0_14) := (blk_cell BK188.out 14).trans rfl
        have hcz23_15 : w21.cell? ⟨gb188, 15, none⟩ = some (.slice A0_15 l0_15.length c0_15) := (blk_cell BK188.out 15).trans rfl
        have hcz23_16 : w21.cell? ⟨gb188, 16, none⟩ = some (.slice A0_16 l0_16.length c0_16) := (blk_cell BK188.out 16).trans rfl
        have hfz23_0 := blk_frozen BK188.out 0
        have hfz23_1 := blk_frozen BK188.out 1
        have hfz23_2 := blk_frozen BK188.out 2
        have hfz23_3 := blk_frozen BK188.out 3
        have hfz23_4 := blk_frozen BK188.out 4
        have hfz23_5 := blk_frozen BK188.out 5
        have hfz23_6 := blk_frozen BK188.out 6
        have hfz23_7 := blk_frozen BK188.out 7
        have hfz23_8 := blk_frozen BK188.out 8
        have hfz23_9 := blk_frozen BK188.out 9
        have hfz23_10 := blk_frozen BK188.out 10
        have hfz23_11 := blk_frozen BK188.out 11
        have hfz23_12 := blk_frozen BK188.out 12
        have hfz23_13 := blk_frozen BK188.out 13
        have hfz23_14 := blk_frozen BK188.out 14
        have hfz23_15 := blk_frozen BK188.out 15
        have hfz23_16 := blk_frozen BK188.out 16
        have hcz24_0 : w21.cell? ⟨gb189, 0, none⟩ = some (.bool a1_0) := (blk_cell BK189.out 0).trans rfl
        have hcz24_1 : w21.cell? ⟨gb189, 1, none⟩ = some (.string a1_1) := (blk_cell BK189.out 1).trans rfl
        have hcz24_2 : w21.cell? ⟨gb189, 2, none⟩ = some (.slice A1_2 l1_2.length c1_2) := (blk_cell BK189.out 2).trans rfl
        have hcz24_3 : w21.cell? ⟨gb189, 3, none⟩ = some (.bool a1_3) := (blk_cell BK189.out 3).trans rfl
        have hcz24_4 : w21.cell? ⟨gb189, 4, none⟩ = some (.string a1_4) := (blk_cell BK189.out 4).trans rfl
        have hcz24_5 : w21.cell? ⟨gb189, 5, none⟩ = some (.bool a1_5) := (blk_cell BK189.out 5).trans rfl
        have hcz24_6 : w21.cell? ⟨gb189, 6, none⟩ = some (.string a1_6) := (blk_cell BK189.out 6).trans rfl
        have hcz24_7 : w21.cell? ⟨gb189, 7, none⟩ = some (.bool a1_7) := (blk_cell BK189.out 7).trans rfl
        have hcz24_8 : w21.cell? ⟨gb189, 8, none⟩ = some (.string a1_8) := (blk_cell BK189.out 8).trans rfl
        have hcz24_9 : w21.cell? ⟨gb189, 9, none⟩ = some (.bool a1_9) := (blk_cell BK189.out 9).trans rfl
        have hcz24_10 : w21.cell? ⟨gb189, 10, none⟩ = some (.string a1_10) := (blk_cell BK189.out 10).trans rfl
        have hcz24_11 : w21.cell? ⟨gb189, 11, none⟩ = some (.bool a1_11) := (blk_cell BK189.out 11).trans rfl
        have hcz24_12 : w21.cell? ⟨gb189, 12, none⟩ = some (.string a1_12) := (blk_cell BK189.out 12).trans rfl
        have hcz24_13 : w21.cell? ⟨gb189, 13, none⟩ = some (.bool a1_13) := (blk_cell BK189.out 13).trans rfl
        have hcz24_14 : w21.cell? ⟨gb189, 14, none⟩ = some (.string a1_14) := (blk_cell BK189.out 14).trans rfl
        have hcz24_15 : w21.cell? ⟨gb189, 15, none⟩ = some (.slice A1_15 l1_15.length c1_15) := (blk_cell BK189.out 15).trans rfl
        have hcz24_16 : w21.cell? ⟨gb189, 16, none⟩ = some (.slice A1_16 l1_16.length c1_16) := (blk_cell BK189.out 16).trans rfl
        have hfz24_0 := blk_frozen BK189.out 0
        have hfz24_1 := blk_frozen BK189.out 1
        have hfz24_2 := blk_frozen BK189.out 2
        have hfz24_3 := blk_frozen BK189.out 3
        have hfz24_4 := blk_frozen BK189.out 4
        have hfz24_5 := blk_frozen BK189.out 5
        have hfz24_6 := blk_frozen BK189.out 6
        have hfz24_7 := blk_frozen BK189.out 7
        have hfz24_8 := blk_frozen BK189.out 8
        have hfz24_9 := blk_frozen BK189.out 9
        have hfz24_10 := blk_frozen BK189.out 10
        have hfz24_11 := blk_frozen BK189.out 11
        have hfz24_12 := blk_frozen BK189.out 12
        have hfz24_13 := blk_frozen BK189.out 13
        have hfz24_14 := blk_frozen BK189.out 14
        have hfz24_15 := blk_frozen BK189.out 15
        have hfz24_16 := blk_frozen BK189.out 16
        try go_wp2_with (first | ((with_reducible refine gate_callee (f := 21) rfl ?_); refine goesL_ (some 40) rfl rfl Tryz.func21 (by kernel_rfl) rfl #[.agg #[.bool a0_5, .string a0_6], .agg #[.bool a1_5, .string a1_6]] rfl (by (try simp only [List.map_toArray, List.map_cons, List.map_nil]); first | done | rfl | (simp only [List.length_drop, List.length_take]; rfl)) ?_; (with_reducible refine (spec_intOrder.calls kj4 a0_5 a0_6 a1_5 a1_6 t194 _ A20.out).mono ?_); rintro e w25 ⟨rfl, hb⟩; refine ⟨_, rfl, ?_⟩; have n0_ := Aside0.mk (blk_below (g := gb188) (o := .cells #[.bool a0_0, .string a0_1, .slice A0_2 l0_2.length c0_2, .bool a0_3, .string a0_4, .bool a0_5, .string a0_6, .bool a0_7, .string a0_8, .bool a0_9, .string a0_10, .bool a0_11, .string a0_12, .bool a0_13, .string a0_14, .slice A0_15 l0_15.length c0_15, .slice A0_16 l0_16.length c0_16] 29 (0, 0)) (by (with_reducible repeat (first | refine blk_drewN ?_ _ | refine blk_drew ?_ | refine blk_alloc ?_ _)); exact BK188.out) hb); have n1_ := Aside0.mk (blk_below (g := gb189) (o := .cells #[.bool a1_0, .string a1_1, .slice A1_2 l1_2.length c1_2, .bool a1_3, .string a1_4, .bool a1_5, .string a1_6, .bool a1_7, .string a1_8, .bool a1_9, .string a1_10, .bool a1_11, .string a1_12, .bool a1_13, .string a1_14, .slice A1_15 l1_15.length c1_15, .slice A1_16 l1_16.length c1_16] 29 (0, 0)) (by (with_reducible repeat (first | refine blk_drewN ?_ _ | refine blk_drew ?_ | refine blk_alloc ?_ _)); exact BK189.out) hb); have n2_ := Aside0.mk (below_step (by repeat (first | (with_reducible first | exact HB.out | apply below_alloc | apply pw_below_drewN | apply below_drew1 | refine below_set ?_ GE188.out | refine below_set ?_ GE189.out) | exact HB.out)) hb); clear BK188; clear BK189; clear HB; have BK188 := n0_; have BK189 := n1_; have HB := n2_; clear n0_ n1_ n2_; (try clear hb); (try clear hb2); (try clear hk); (try clear hi)))
        go_ret
        exact ⟨by first | rfl | (simp [errW_none, errW_some] <;> rfl) | (simp [*, errW_none, errW_some] <;> rfl), by repeat (first | (with_reducible first | exact HB.out | apply below_alloc | apply pw_below_drewN | apply below_drew1 | refine below_set ?_ GE188.out | refine below_set ?_ GE189.out) | exact HB.out)⟩
       ·rw [if_neg c19] at H
        have c19b0 : (t193 == 0) = false := beq_eq_false_iff_ne.mpr c19
        have c19b1 : (t193 != 0) = true := bne_iff_ne.mpr c19
        obtain rfl := Option.some.inj H
        try go_wp2
        have n0_ := Aside0.mk (blk_drew BK188.out)
        have n1_ := Aside0.mk (blk_drew BK189.out)
        have n2_ := Aside0.mk (below_drew1 HB.out)
        clear BK188
        clear BK189
        clear HB
        have BK188 := n0_
        have BK189 := n1_
        have HB := n2_
        clear n0_ n1_ n2_
        refine start_ (n := 10) (S := fun w' => w'.cell? ⟨gb188, 0, none⟩ = some (.bool a0_0) ∧ w'.cell? ⟨gb188, 1, none⟩ = some (.string a0_1) ∧ w'.cell? ⟨gb188, 2, none⟩ = some (.slice A0_2 l0_2.length c0_2) ∧ w'.cell? ⟨gb188, 3, none⟩ = some (.bool a0_3) ∧ w'.cell? ⟨gb188, 4, none⟩ = some (.string a0_4) ∧ w'.cell? ⟨gb188, 5, none⟩ = some (.bool a0_5) ∧ w'.cell? ⟨gb188, 6, none⟩ = some (.string a0_6) ∧ w'.cell? ⟨gb188, 7, none⟩ = some (.bool a0_7) ∧ w'.cell? ⟨gb188, 8, none⟩ = some (.string a0_8) ∧ w'.cell? ⟨gb188, 9, none⟩ = some (.bool a0_9) ∧ w'.cell? ⟨gb188, 10, none⟩ = some (.string a0_10) ∧ w'.cell? ⟨gb188, 11, none⟩ = some (.bool a0_11) ∧ w'.cell? ⟨gb188, 12, none⟩ = some (.string a0_12) ∧ w'.cell? ⟨gb188, 13, none⟩ = some (.bool a0_13) ∧ w'.cell? ⟨gb188, 14, none⟩ = some (.string a0_14) ∧ w'.cell? ⟨gb188, 15, none⟩ = some (.slice A0_15 l0_15.length c0_15) ∧ w'.cell? ⟨gb188, 16, none⟩ = some (.slice A0_16 l0_16.length c0_16) ∧ w'.cell? ⟨gb189, 0, none⟩ = some (.bool a1_0) ∧ w'.cell? ⟨gb189, 1, none⟩ = some (.string a1_1) ∧ w'.cell? ⟨gb189, 2, none⟩ = some (.slice A1_2 l1_2.length c1_2) ∧ w'.cell? ⟨gb189, 3, none⟩ = some (.bool a1_3) ∧ w'.cell? ⟨gb189, 4, none⟩ = some (.string a1_4) ∧ w'.cell? ⟨gb189, 5, none⟩ = some (.bool a1_5) ∧ w'.cell? ⟨gb189, 6, none⟩ = some (.string a1_6) ∧ w'.cell? ⟨gb189, 7, none⟩ = some (.bool a1_7) ∧ w'.cell? ⟨gb189, 8, none⟩ = some (.string a1_8) ∧ w'.cell? ⟨gb189, 9, none⟩ = some (.bool a1_9) ∧ w'.cell? ⟨gb189, 10, none⟩ = some (.string a1_10) ∧ w'.cell? ⟨gb189, 11, none⟩ = some (.bool a1_11) ∧ w'.cell? ⟨gb189, 12, none⟩ = some (.string a1_12) ∧ w'.cell? ⟨gb189, 13, none⟩ = some (.bool a1_13) ∧ w'.cell? ⟨gb189, 14, none⟩ = some (.string a1_14) ∧ w'.cell? ⟨gb189, 15, none⟩ = some (.slice A1_15 l1_15.length c1_15) ∧ w'.cell? ⟨gb189, 16, none⟩ = some (.slice A1_16 l1_16.length c1_16)) (ds := []) #[false, false, false, false, false, false, false, false, false, false] (by kernel_rfl) rfl rfl ⟨(blk_cell BK188.out 0).trans rfl, (blk_cell BK188.out 1).trans rfl, (blk_cell BK188.out 2).trans rfl, (blk_cell BK188.out 3).trans rfl, (blk_cell BK188.out 4).trans rfl, (blk_cell BK188.out 5).trans rfl, (blk_cell BK188.out 6).trans rfl, (blk_cell BK188.out 7).trans rfl, (blk_cell BK188.out 8).trans rfl, (blk_cell BK188.out 9).trans rfl, (blk_cell BK188.out 10).trans rfl, (blk_cell BK188.out 11).trans rfl, (blk_cell BK188.out 12).trans rfl, (blk_cell BK188.out 13).trans rfl, (blk_cell BK188.out 14).trans rfl, (blk_cell BK188.out 15).trans rfl, (blk_cell BK188.out 16).trans rfl, (blk_cell BK189.out 0).trans rfl, (blk_cell BK189.out 1).trans rfl, (blk_cell BK189.out 2).trans rfl, (blk_cell BK189.out 3).trans rfl, (blk_cell BK189.out 4).trans rfl, (blk_cell BK189.out 5).trans rfl, (blk_cell BK189.out 6).trans rfl, (blk_cell BK189.out 7).trans rfl, (blk_cell BK189.out 8).trans rfl, (blk_cell BK189.out 9).trans rfl, (blk_cell BK189.out 10).trans rfl, (blk_cell BK189.out 11).trans rfl, (blk_cell BK189.out 12).trans rfl, (blk_cell BK189.out 13).trans rfl, (blk_cell BK189.out 14).trans rfl, (blk_cell BK189.out 15).trans rfl, (blk_cell BK189.out 16).trans rfl⟩ (fun hHeld => ?_); refine with_tabW spec_PyPIPre.tab4 spec_PyPIPre.bits4 (fun HT_ HW_ => ?_)
        generalize wc.drew = w26 at BK188 BK189 HB hHeld ⊢
        refine pure_ (i := 0) (N := some 22) (v := ?_) (a' := ?_) #[true, false, false, false, false, false, false, false, false, false] rfl rfl (any_of HT_.out (by kernel_rfl)) (fun _ _ _ h => h) (Or.inl ⟨by rfl, ?_⟩) ?_ ?_
        rotate_left
        ·intro w'
         go_simp
         with_reducible rfl
        rotate_left
        ·simp only [Act.put, List.setIfInBounds_toArray, List.set_cons_zero, List.set_cons_succ, i64_w, i32_w]
         rfl
        refine pure_ (i := 1) (N := some 23) (v := ?_) (a' := ?_) #[true, true, false, false, false, false, false, false, false, false] rfl rfl (any_of HT_.out (by kernel_rfl)) (fun _ _ _ h => h) (Or.inl ⟨by rfl, ?_⟩) ?_ ?_
        rotate_left
        ·intro w'
         go_simp
         with_reducible rfl
        rotate_left
        ·simp only [Act.put, List.setIfInBounds_toArray, List.set_cons_zero, List.set_cons_succ, i64_w, i32_w]
         rfl
        refine pure_ (i := 4) (N := some 26) (v := ?_) (a' := ?_) #[true, true, false, false, true, false, false, false, false, false] rfl rfl (any_of HT_.out (by kernel_rfl)) (fun _ _ _ h => h) (Or.inl ⟨by rfl, ?_⟩) ?_ ?_
        rotate_left
        ·intro w'
         go_simp
         with_reducible rfl
        rotate_left
        ·simp only [Act.put, List.setIfInBounds_toArray, List.set_cons_zero, List.set_cons_succ, i64_w, i32_w]
         rfl
        refine pure_ (i := 5) (N := some 27) (v := ?_) (a' := ?_) #[true, true, false, false, true, true, false, false, false, false] rfl rfl (any_of HT_.out (by kernel_rfl)) (fun _ _ _ h => h) (Or.inl ⟨by rfl, ?_⟩) ?_ ?_
        rotate_left
        ·intro w'
         go_simp
         with_reducible rfl
        rotate_left
        ·simp only [Act.put, List.setIfInBounds_toArray, List.set_cons_zero, List.set_cons_succ, i64_w, i32_w]
         rfl
        refine take_ (i := 2) (N := some 24) (v := ?_) (a' := ?_) #[true, true, true, false, true, true, false, false, false, false] rfl rfl (take_ofW HT_.out HW_.out (by kernel_rfl)) (fun _ _ _ h => h) (Or.inl ⟨by rfl, ?_⟩) hHeld ?_ ?_
        rotate_left
        ·rintro w' ⟨s0, s1, s2, s3, s4, s5, s6, s7, s8, s9, s10, s11, s12, s13, s14, s15, s16, s17, s18, s19, s20, s21, s22, s23, s24, s25, s26, s27, s28, s29, s30, s31, s32, s33⟩
         go_simp
         with_reducible rfl
        rotate_left
        ·simp only [Act.put, List.setIfInBounds_toArray, List.set_cons_zero, List.set_cons_succ, i64_w, i32_w]
         rfl
        refine pure_ (i := 3) (N := some 25) (v := ?_) (a' := ?_) #[true, true, true, true, true, true, false, false, false, false] rfl rfl (any_of HT_.out (by kernel_rfl)) (fun _ _ _ h => h) (Or.inl ⟨by rfl, ?_⟩) ?_ ?_
        rotate_left
        ·intro w'
         go_simp
         with_reducible rfl
        rotate_left
        ·simp only [Act.put, List.setIfInBounds_toArray, List.set_cons_zero, List.set_cons_succ, i64_w, i32_w]
         rfl
        refine take_ (i := 6) (N := some 28) (v := ?_) (a' := ?_) #[true, true, true, true, true, true, true, false, false, false] rfl rfl (take_ofW HT_.out HW_.out (by kernel_rfl)) (fun _ _ _ h => h) (Or.inl ⟨by rfl, ?_⟩) hHeld ?_ ?_
        rotate_left
        ·rintro w' ⟨s0, s1, s2, s3, s4, s5, s6, s7, s8, s9, s10, s11, s12, s13, s14, s15, s16, s17, s18, s19, s20, s21, s22, s23, s24, s25, s26, s27, s28, s29, s30, s31, s32, s33⟩
         go_simp
         with_reducible rfl
        rotate_left
        ·simp only [Act.put, List.setIfInBounds_toArray, List.set_cons_zero, List.set_cons_succ, i64_w, i32_w]
         rfl
        refine pure_ (i := 7) (N := some 29) (v := ?_) (a' := ?_) #[true, true, true, true, true, true, true, true, false, false] rfl rfl (any_of HT_.out (by kernel_rfl)) (fun _ _ _ h => h) (Or.inl ⟨by rfl, ?_⟩) ?_ ?_
        rotate_left
        ·intro w'
         go_simp
         with_reducible rfl
        rotate_left
        ·simp only [Act.put, List.setIfInBounds_toArray, List.set_cons_zero, List.set_cons_succ, i64_w, i32_w]
         rfl
        refine one_ (i := 8) (N := some 30) #[true, true, true, true, true, true, true, true, true, false] rfl rfl (one_of HT_.out (by kernel_rfl)) (by decide) (fun K hK => ?_)
        refine goes_ Tryz.func39 (by kernel_rfl) rfl #[.string (a0_4.extract 0 1), .string (a1_4.extract 0 1)] (by rfl) rfl rfl (by (try simp only [List.map_toArray, List.map_cons, List.map_nil]); first | done | rfl | (simp only [List.length_drop, List.length_take]; rfl)) ?_
        with_reducible refine (spec_order.calls (a0_4.extract 0 1) (a1_4.extract 0 1) t193 _ A18.out).mono ?_
        rintro e w' ⟨rfl, ⟨nd, rfl⟩⟩
        refine ⟨_, rfl, ?_⟩
        refine hK.out _ _ ⟨(blk_cell BK188.out 0).trans rfl, (blk_cell BK188.out 1).trans rfl, (blk_cell BK188.out 2).trans rfl, (blk_cell BK188.out 3).trans rfl, (blk_cell BK188.out 4).trans rfl, (blk_cell BK188.out 5).trans rfl, (blk_cell BK188.out 6).trans rfl, (blk_cell BK188.out 7).trans rfl, (blk_cell BK188.out 8).trans rfl, (blk_cell BK188.out 9).trans rfl, (blk_cell BK188.out 10).trans rfl, (blk_cell BK188.out 11).trans rfl, (blk_cell BK188.out 12).trans rfl, (blk_cell BK188.out 13).trans rfl, (blk_cell BK188.out 14).trans rfl, (blk_cell BK188.out 15).trans rfl, (blk_cell BK188.out 16).trans rfl, (blk_cell BK189.out 0).trans rfl, (blk_cell BK189.out 1).trans rfl, (blk_cell BK189.out 2).trans rfl, (blk_cell BK189.out 3).trans rfl, (blk_cell BK189.out 4).trans rfl, (blk_cell BK189.out 5).trans rfl, (blk_cell BK189.out 6).trans rfl, (blk_cell BK189.out 7).trans rfl, (blk_cell BK189.out 8).trans rfl, (blk_cell BK189.out 9).trans rfl, (blk_cell BK189.out 10).trans rfl, (blk_cell BK189.out 11).trans rfl, (blk_cell BK189.out 12).trans rfl, (blk_cell BK189.out 13).trans rfl, (blk_cell BK189.out 14).trans rfl, (blk_cell BK189.out 15).trans rfl, (blk_cell BK189.out 16).trans rfl⟩ (fun hHeld => ?_)
        clear hK K
        refine norm_ (a' := ?_) ?_ ?_
        rotate_left
        ·show Act.put _ (some 30) _ = _
         simp only [Act.put, List.setIfInBounds_toArray, List.set_cons_zero, List.set_cons_succ, i64_w, i32_w]
         rfl
        refine pure_ (i := 9) (N := some 7) (v := ?_) (a' := ?_) #[true, true, true, true, true, true, true, true, true, true] rfl rfl (any_of HT_.out (by kernel_rfl)) (fun _ _ _ h => h) (Or.inl ⟨by rfl, ?_⟩) ?_ ?_
        rotate_left
        ·intro w'
         go_simp
         with_reducible rfl
        rotate_left
        ·simp only [Act.put, List.setIfInBounds_toArray, List.set_cons_zero, List.set_cons_succ, i64_w, i32_w]
         rfl
        refine done_ (done_of HT_.out (by kernel_rfl)) ?_
        try go_wp2
        go_ret
        exact ⟨by first | rfl | (simp [errW_none, errW_some] <;> rfl) | (simp [*, errW_none, errW_some] <;> rfl), by repeat (first | (with_reducible first | exact HB.out | apply below_alloc | apply pw_below_drewN | apply below_drew1 | refine below_set ?_ GE188.out | refine below_set ?_ GE189.out) | exact HB.out)⟩
      ·rw [if_neg c17] at H
       exact absurd H (by simp)
     ·rw [if_neg c15] at H
      exact absurd H (by simp)
    ·rw [if_neg c14] at H
     exact absurd H (by simp)

/-! ### spec_pypiPost: function 24 -/
def spec_pypiPost.j0 : Nat → Bool → Bool → ByteArray → Bool → ByteArray → Bool → ByteArray → Bool → ByteArray → Option (Int)
 | 0, _, _, _, _, _, _, _, _, _ => none
 | k + 1, x5, x196000, x196001, x196002, x196003, x197000, x197001, x197002, x197003 => if x5 = true then ((spec_intOrder.f k x196002 x196003 x197002 x197003).bind fun t197 => (some t197)) else (if x196000 = true then (some 1) else (if x197000 = true then (some (-1)) else (some 0)))
def spec_pypiPost.f (k : Nat) (a0_0 : Bool) (a0_1 : ByteArray) (a0_2 : Bool) (a0_3 : ByteArray) (a1_0 : Bool) (a1_1 : ByteArray) (a1_2 : Bool) (a1_3 : ByteArray) : Option (Int) := if a0_0 = true then (spec_pypiPost.j0 k a1_0 a0_0 a0_1 a0_2 a0_3 a1_0 a1_1 a1_2 a1_3) else (spec_pypiPost.j0 k false a0_0 a0_1 a0_2 a0_3 a1_0 a1_1 a1_2 a1_3)
theorem spec_pypiPost.mono_l : ∀ k, (∀ y0 y1 y2 y3 y4 y5 y6 y7 y8, LeO (spec_pypiPost.j0 k y0 y1 y2 y3 y4 y5 y6 y7 y8) (spec_pypiPost.j0 (k + 1) y0 y1 y2 y3 y4 y5 y6 y7 y8))
 | 0 => fun _ _ _ _ _ _ _ _ _ r h => by simp [spec_pypiPost.j0] at h
 | k + 1 => by
  have ih0 := spec_pypiPost.mono_l k
  ·intro y0 y1 y2 y3 y4 y5 y6 y7 y8
   unfold spec_pypiPost.j0
   repeat' first
   | (with_reducible exact ih0 _ _ _ _ _ _ _ _ _)
   | (with_reducible exact spec_intOrder.mono _ _ _ _ _)
   | (with_reducible exact LeO.refl _)
   | (with_reducible exact LeO.none _)
   | (with_reducible refine LeO.ite ?_ ?_)
   | (with_reducible refine LeO.bind ?_ (fun _ => ?_))
   | exact ih0 _ _ _ _ _ _ _ _ _
   | exact spec_intOrder.mono _ _ _ _ _
   | exact LeO.none _
   | refine LeO.ite ?_ ?_
   | refine LeO.bind ?_ (fun _ => ?_)
theorem spec_pypiPost.mono : ∀ a0 a1 a2 a3 a4 a5 a6 a7 k, LeO (spec_pypiPost.f k a0 a1 a2 a3 a4 a5 a6 a7) (spec_pypiPost.f (k + 1) a0 a1 a2 a3 a4 a5 a6 a7) := by
 intro a0 a1 a2 a3 a4 a5 a6 a7 k
 have ih0 := spec_pypiPost.mono_l k
 unfold spec_pypiPost.f
 repeat' first
   | (with_reducible exact ih0 _ _ _ _ _ _ _ _ _)
   | (with_reducible exact spec_intOrder.mono _ _ _ _ _)
   | (with_reducible exact LeO.refl _)
   | (with_reducible exact LeO.none _)
   | (with_reducible refine LeO.ite ?_ ?_)
   | (with_reducible refine LeO.bind ?_ (fun _ => ?_))
   | exact ih0 _ _ _ _ _ _ _ _ _
   | exact spec_intOrder.mono _ _ _ _ _
   | exact LeO.none _
   | refine LeO.ite ?_ ?_
   | refine LeO.bind ?_ (fun _ => ?_)
set_option maxHeartbeats 8000000 in
set_option maxRecDepth 100000 in
theorem spec_pypiPost.calls (k : Nat) (a0_0 : Bool) (a0_1 : ByteArray) (a0_2 : Bool) (a0_3 : ByteArray) (a1_0 : Bool) (a1_1 : ByteArray) (a1_2 : Bool) (a1_3 : ByteArray) (r : Int) (w : World) (h : spec_pypiPost.f k a0_0 a0_1 a0_2 a0_3 a1_0 a1_1 a1_2 a1_3 = some r) :
  Calls Tryz.prog 24 #[.agg #[.bool a0_0, .string a0_1, .bool a0_2, .string a0_3], .agg #[.bool a1_0, .string a1_1, .bool a1_2, .string a1_3]] w fun e w' => e = .returned (.int .i64 r) ∧ Below w.heap.size w w' := by
 have hu26 := Tryz.underlying26
 have hu23 := Tryz.underlying23
 have HB := Aside0.mk (Below.refl w.heap.size w)
 have H : (if a0_0 = true then (spec_pypiPost.j0 k a1_0 a0_0 a0_1 a0_2 a0_3 a1_0 a1_1 a1_2 a1_3) else (spec_pypiPost.j0 k false a0_0 a0_1 a0_2 a0_3 a1_0 a1_1 a1_2 a1_3)) = some r := h
 clear h
 have HC3 := Aside0.mk H
 clear H
 go_enter Tryz.func24, Tryz.ntmps24
 go_upto_region 1 with (first | ((with_reducible refine gate_dst (N := 2) rfl ?_); refine box_event ?hg (N := 2) ?hd (cs := #[.bool a0_0, .string a0_1, .bool a0_2, .string a0_3]) (t := 26) ?hr ?_; (case hd => rfl); (case hg => rfl); (case hr => first | (go_simp; done) | (go_simp; rfl)); intro gb195 hg w4 hbox hb; have n0_ := Aside0.mk (below_step (by repeat (first | (with_reducible first | exact HB.out | apply below_alloc | apply pw_below_drewN | apply below_drew1) | exact HB.out)) hb); have n1_ := Aside0.mk (hbox); have n2_ := Aside0.mk ((by rw [hg]; exact (below_size (by repeat (first | (with_reducible first | exact HB.out | apply below_alloc | apply pw_below_drewN | apply below_drew1) | exact HB.out))) : w.heap.size ≤ gb195)); have n3_ := Aside0.mk ((by rw [hg]; exact (below_size (by repeat (first | (with_reducible first | exact HB.out | apply below_alloc | apply pw_below_drewN | apply below_drew1) | exact HB.out))) : w.heap.size ≤ gb195)); clear HB; have HB := n0_; have BK195 := n1_; have GW195 := n2_; have GE195 := n3_; clear n0_ n1_ n2_ n3_; clear hb hbox hg) | ((with_reducible refine gate_dst (N := 3) rfl ?_); refine box_event ?hg (N := 3) ?hd (cs := #[.bool a1_0, .string a1_1, .bool a1_2, .string a1_3]) (t := 26) ?hr ?_; (case hd => rfl); (case hg => rfl); (case hr => first | (go_simp; done) | (go_simp; rfl)); intro gb196 hg w5 hbox hb; have n0_ := Aside0.mk (blk_below (g := gb195) (o := .cells #[.bool a0_0, .string a0_1, .bool a0_2, .string a0_3] 26 (0, 0)) (by (with_reducible repeat (first | refine blk_drewN ?_ _ | refine blk_drew ?_ | refine blk_alloc ?_ _)); exact BK195.out) hb); have n1_ := Aside0.mk (below_step (by repeat (first | (with_reducible first | exact HB.out | apply below_alloc | apply pw_below_drewN | apply below_drew1 | refine below_set ?_ GE195.out) | exact HB.out)) hb); have n2_ := Aside0.mk (hbox); have n3_ := Aside0.mk ((by rw [hg]; exact (below_size (by repeat (first | (with_reducible first | exact HB.out | apply below_alloc | apply pw_below_drewN | apply below_drew1 | refine below_set ?_ GE195.out) | exact HB.out))) : w.heap.size ≤ gb196)); have n4_ := Aside0.mk ((by rw [hg]; exact (below_size (by repeat (first | (with_reducible first | exact HB.out | apply below_alloc | apply pw_below_drewN | apply below_drew1 | refine below_set ?_ GE195.out) | exact HB.out))) : w.heap.size ≤ gb196)); have n5_ := Aside0.mk ((by rw [hg]; exact Nat.ne_of_lt (blk_lt (g := gb195) (o := .cells #[.bool a0_0, .string a0_1, .bool a0_2, .string a0_3] 26 (0, 0)) (by (with_reducible repeat (first | refine blk_drewN ?_ _ | refine blk_drew ?_ | refine blk_alloc ?_ _)); exact BK195.out)) : gb195 ≠ gb196)); have n6_ := Aside0.mk ((by rw [hg]; exact Nat.ne_of_gt (blk_lt (g := gb195) (o := .cells #[.bool a0_0, .string a0_1, .bool a0_2, .string a0_3] 26 (0, 0)) (by (with_reducible repeat (first | refine blk_drewN ?_ _ | refine blk_drew ?_ | refine blk_alloc ?_ _)); exact BK195.out)) : gb196 ≠ gb195)); clear BK195; clear HB; have BK195 := n0_; have HB := n1_; have BK196 := n2_; have GW196 := n3_; have GE196 := n4_; have NB195_196 := n5_; have NB196_195 := n6_; clear n0_ n1_ n2_ n3_ n4_ n5_ n6_; clear hb hbox hg))
 (try simp only [Act.put, List.setIfInBounds_toArray, List.set_cons_zero, List.set_cons_succ])
 go_cut [5] (fun v5 wc => ∃ (kq : Nat) (x5_2 : Bool), v5 = .bool x5_2 ∧ Aside0 (spec_pypiPost.j0 kq x5_2 a0_0 a0_1 a0_2 a0_3 a1_0 a1_1 a1_2 a1_3 = some r) ∧ Aside0 (kq ≤ k) ∧ Aside0 (wc.heap[gb195]? = some (.cells #[.bool a0_0, .string a0_1, .bool a0_2, .string a0_3] 26 (0, 0))) ∧ Aside0 (wc.heap[gb196]? = some (.cells #[.bool a1_0, .string a1_1, .bool a1_2, .string a1_3] 26 (0, 0))) ∧ Aside0 (Below w.heap.size w wc))
 case first =>
  have H := HC3.out
  clear HC3
  by_cases c6 : a0_0 = true
  ·subst c6
   have H1 : (spec_pypiPost.j0 k a1_0 true a0_1 a0_2 a0_3 a1_0 a1_1 a1_2 a1_3) = some r := by rw [if_pos rfl] at H; exact H
   clear H
   have H := H1
   clear H1
   have H' := Aside0.mk H
   clear H
   have hnb7 := NB195_196.out
   have hnc7 := NB196_195.out
   have hcz8_0 : w5.cell? ⟨gb195, 0, none⟩ = some (.bool true) := (blk_cell BK195.out 0).trans rfl
   have hcz8_1 : w5.cell? ⟨gb195, 1, none⟩ = some (.string a0_1) := (blk_cell BK195.out 1).trans rfl
   have hcz8_2 : w5.cell? ⟨gb195, 2, none⟩ = some (.bool a0_2) := (blk_cell BK195.out 2).trans rfl
   have hcz8_3 : w5.cell? ⟨gb195, 3, none⟩ = some (.string a0_3) := (blk_cell BK195.out 3).trans rfl
   have hfz8_0 := blk_frozen BK195.out 0
   have hfz8_1 := blk_frozen BK195.out 1
   have hfz8_2 := blk_frozen BK195.out 2
   have hfz8_3 := blk_frozen BK195.out 3
   have hcz9_0 : w5.cell? ⟨gb196, 0, none⟩ = some (.bool a1_0) := (blk_cell BK196.out 0).trans rfl
   have hcz9_1 : w5.cell? ⟨gb196, 1, none⟩ = some (.string a1_1) := (blk_cell BK196.out 1).trans rfl
   have hcz9_2 : w5.cell? ⟨gb196, 2, none⟩ = some (.bool a1_2) := (blk_cell BK196.out 2).trans rfl
   have hcz9_3 : w5.cell? ⟨gb196, 3, none⟩ = some (.string a1_3) := (blk_cell BK196.out 3).trans rfl
   have hfz9_0 := blk_frozen BK196.out 0
   have hfz9_1 := blk_frozen BK196.out 1
   have hfz9_2 := blk_frozen BK196.out 2
   have hfz9_3 := blk_frozen BK196.out 3
   go_wp2
   go_meet
   case rel => exact ⟨_, (a1_0), (by first | rfl | (simp; done) | (simp [*]; done)), H', ⟨by first | omega | exact Nat.le_refl _⟩, ⟨by (with_reducible repeat (first | refine blk_drewN ?_ _ | refine blk_drew ?_ | refine blk_alloc ?_ _)); exact BK195.out⟩, ⟨by (with_reducible repeat (first | refine blk_drewN ?_ _ | refine blk_drew ?_ | refine blk_alloc ?_ _)); exact BK196.out⟩, ⟨by repeat (first | (with_reducible first | exact HB.out | apply below_alloc | apply pw_below_drewN | apply below_drew1 | refine below_set ?_ GE195.out | refine below_set ?_ GE196.out) | exact HB.out)⟩⟩
  ·replace c6 := Bool.eq_false_iff.mpr c6
   subst c6
   have H1 : (spec_pypiPost.j0 k false false a0_1 a0_2 a0_3 a1_0 a1_1 a1_2 a1_3) = some r := by rw [if_neg (show ¬ (false = true) by decide)] at H; exact H
   clear H
   have H := H1
   clear H1
   have H' := Aside0.mk H
   clear H
   have hnb10 := NB195_196.out
   have hnc10 := NB196_195.out
   have hcz11_0 : w5.cell? ⟨gb195, 0, none⟩ = some (.bool false) := (blk_cell BK195.out 0).trans rfl
   have hcz11_1 : w5.cell? ⟨gb195, 1, none⟩ = some (.string a0_1) := (blk_cell BK195.out 1).trans rfl
   have hcz11_2 : w5.cell? ⟨gb195, 2, none⟩ = some (.bool a0_2) := (blk_cell BK195.out 2).trans rfl
   have hcz11_3 : w5.cell? ⟨gb195, 3, none⟩ = some (.string a0_3) := (blk_cell BK195.out 3).trans rfl
   have hfz11_0 := blk_frozen BK195.out 0
   have hfz11_1 := blk_frozen BK195.out 1
   have hfz11_2 := blk_frozen BK195.out 2
   have hfz11_3 := blk_frozen BK195.out 3
   go_wp2
   go_meet
   case rel => exact ⟨_, (false), (by first | rfl | (simp; done) | (simp [*]; done)), H', ⟨by first | omega | exact Nat.le_refl _⟩, ⟨by (with_reducible repeat (first | refine blk_drewN ?_ _ | refine blk_drew ?_ | refine blk_alloc ?_ _)); exact BK195.out⟩, ⟨by (with_reducible repeat (first | refine blk_drewN ?_ _ | refine blk_drew ?_ | refine blk_alloc ?_ _)); exact BK196.out⟩, ⟨by repeat (first | (with_reducible first | exact HB.out | apply below_alloc | apply pw_below_drewN | apply below_drew1 | refine below_set ?_ GE195.out | refine below_set ?_ GE196.out) | exact HB.out)⟩⟩
 case rest =>
  clear HC3
  try clear c1
  try clear c2
  try clear p2
  try clear c6
  try clear c7
  try clear c10
  try clear hcz11_0
  try clear hcz11_1
  try clear hcz11_2
  try clear hcz11_3
  try clear hcz8_0
  try clear hcz8_1
  try clear hcz8_2
  try clear hcz8_3
  try clear hcz9_0
  try clear hcz9_1
  try clear hcz9_2
  try clear hcz9_3
  try clear hfz11_0
  try clear hfz11_1
  try clear hfz11_2
  try clear hfz11_3
  try clear hfz8_0
  try clear hfz8_1
  try clear hfz8_2
  try clear hfz8_3
  try clear hfz9_0
  try clear hfz9_1
  try clear hfz9_2
  try clear hfz9_3
  obtain ⟨kq, x5_2, rfl, HA, HJ2, BK195, BK196, HB⟩ := hcut
  cases kq with
  | zero => exact absurd HA.out (by simp [spec_pypiPost.j0])
  | succ kj2 =>
   have H := HA.out
   clear HA
   simp only [spec_pypiPost.j0] at H
   by_cases c12 : x5_2 = true
   ·subst c12
    have H1 : ((spec_intOrder.f kj2 a0_2 a0_3 a1_2 a1_3).bind fun t197 => (some t197)) = some r := by rw [if_pos rfl] at H; exact H
    clear H
    have H := H1
    clear H1
    replace H := Option.bind_eq_some_iff.mp H
    obtain ⟨t197, A130, H⟩ := H
    replace H : (some t197) = some r := H
    have A13 := Aside0.mk A130
    clear A130
    obtain rfl := Option.some.inj H
    have hnb14 := NB195_196.out
    have hnc14 := NB196_195.out
    have hcz15_0 : wc.cell? ⟨gb195, 0, none⟩ = some (.bool a0_0) := (blk_cell BK195.out 0).trans rfl
    have hcz15_1 : wc.cell? ⟨gb195, 1, none⟩ = some (.string a0_1) := (blk_cell BK195.out 1).trans rfl
    have hcz15_2 : wc.cell? ⟨gb195, 2, none⟩ = some (.bool a0_2) := (blk_cell BK195.out 2).trans rfl
    have hcz15_3 : wc.cell? ⟨gb195, 3, none⟩ = some (.string a0_3) := (blk_cell BK195.out 3).trans rfl
    have hfz15_0 := blk_frozen BK195.out 0
    have hfz15_1 := blk_frozen BK195.out 1
    have hfz15_2 := blk_frozen BK195.out 2
    have hfz15_3 := blk_frozen BK195.out 3
    have hcz16_0 : wc.cell? ⟨gb196, 0, none⟩ = some (.bool a1_0) := (blk_cell BK196.out 0).trans rfl
    have hcz16_1 : wc.cell? ⟨gb196, 1, none⟩ = some (.string a1_1) := (blk_cell BK196.out 1).trans rfl
    have hcz16_2 : wc.cell? ⟨gb196, 2, none⟩ = some (.bool a1_2) := (blk_cell BK196.out 2).trans rfl
    have hcz16_3 : wc.cell? ⟨gb196, 3, none⟩ = some (.string a1_3) := (blk_cell BK196.out 3).trans rfl
    have hfz16_0 := blk_frozen BK196.out 0
    have hfz16_1 := blk_frozen BK196.out 1
    have hfz16_2 := blk_frozen BK196.out 2
    have hfz16_3 := blk_frozen BK196.out 3
    go_wp2_with (first | ((with_reducible refine gate_callee (f := 21) rfl ?_); refine goesL_ (some 16) rfl rfl Tryz.func21 (by kernel_rfl) rfl #[.agg #[.bool a0_2, .string a0_3], .agg #[.bool a1_2, .string a1_3]] rfl (by (try simp only [List.map_toArray, List.map_cons, List.map_nil]); first | done | rfl | (simp only [List.length_drop, List.length_take]; rfl)) ?_; (with_reducible refine (spec_intOrder.calls kj2 a0_2 a0_3 a1_2 a1_3 t197 _ A13.out).mono ?_); rintro e w17 ⟨rfl, hb⟩; refine ⟨_, rfl, ?_⟩; have n0_ := Aside0.mk (blk_below (g := gb195) (o := .cells #[.bool a0_0, .string a0_1, .bool a0_2, .string a0_3] 26 (0, 0)) (by (with_reducible repeat (first | refine blk_drewN ?_ _ | refine blk_drew ?_ | refine blk_alloc ?_ _)); exact BK195.out) hb); have n1_ := Aside0.mk (blk_below (g := gb196) (o := .cells #[.bool a1_0, .string a1_1, .bool a1_2, .string a1_3] 26 (0, 0)) (by (with_reducible repeat (first | refine blk_drewN ?_ _ | refine blk_drew ?_ | refine blk_alloc ?_ _)); exact BK196.out) hb); have n2_ := Aside0.mk (below_step (by repeat (first | (with_reducible first | exact HB.out | apply below_alloc | apply pw_below_drewN | apply below_drew1 | refine below_set ?_ GE195.out | refine below_set ?_ GE196.out) | exact HB.out)) hb); clear BK195; clear BK196; clear HB; have BK195 := n0_; have BK196 := n1_; have HB := n2_; clear n0_ n1_ n2_; (try clear hb); (try clear hb2); (try clear hk); (try clear hi)))
    go_ret
    exact ⟨by first | rfl | (simp [errW_none, errW_some] <;> rfl) | (simp [*, errW_none, errW_some] <;> rfl), by repeat (first | (with_reducible first | exact HB.out | apply below_alloc | apply pw_below_drewN | apply below_drew1 | refine below_set ?_ GE195.out | refine below_set ?_ GE196.out) | exact HB.out)⟩
   ·replace c12 := Bool.eq_false_iff.mpr c12
    subst c12
    have H1 : (if a0_0 = true then (some 1) else (if a1_0 = true then (some (-1)) else (some 0))) = some r := by rw [if_neg (show ¬ (false = true) by decide)] at H; exact H
    clear H
    have H := H1
    clear H1
    by_cases c18 : a0_0 = true
    ·subst c18
     have H1 : (some 1) = some r := by rw [if_pos rfl] at H; exact H
     clear H
     have H := H1
     clear H1
     obtain rfl := Option.some.inj H
     have hnb19 := NB195_196.out
     have hnc19 := NB196_195.out
     have hcz20_0 : wc.cell? ⟨gb195, 0, none⟩ = some (.bool true) := (blk_cell BK195.out 0).trans rfl
     have hcz20_1 : wc.cell? ⟨gb195, 1, none⟩ = some (.string a0_1) := (blk_cell BK195.out 1).trans rfl
     have hcz20_2 : wc.cell? ⟨gb195, 2, none⟩ = some (.bool a0_2) := (blk_cell BK195.out 2).trans rfl
     have hcz20_3 : wc.cell? ⟨gb195, 3, none⟩ = some (.string a0_3) := (blk_cell BK195.out 3).trans rfl
     have hfz20_0 := blk_frozen BK195.out 0
     have hfz20_1 := blk_frozen BK195.out 1
     have hfz20_2 := blk_frozen BK195.out 2
     have hfz20_3 := blk_frozen BK195.out 3
     go_wp2
     go_ret
     exact ⟨by first | rfl | (simp [errW_none, errW_some] <;> rfl) | (simp [*, errW_none, errW_some] <;> rfl), by repeat (first | (with_reducible first | exact HB.out | apply below_alloc | apply pw_below_drewN | apply below_drew1 | refine below_set ?_ GE195.out | refine below_set ?_ GE196.out) | exact HB.out)⟩
    ·replace c18 := Bool.eq_false_iff.mpr c18
     subst c18
     have H1 : (if a1_0 = true then (some (-1)) else (some 0)) = some r := by rw [if_neg (show ¬ (false = true) by decide)] at H; exact H
     clear H
     have H := H1
     clear H1
     by_cases c21 : a1_0 = true
     ·subst c21
      have H1 : (some (-1)) = some r := by rw [if_pos rfl] at H; exact H
      clear H
      have H := H1
      clear H1
      obtain rfl := Option.some.inj H
      have hnb22 := NB195_196.out
      have hnc22 := NB196_195.out
      have hcz23_0 : wc.cell? ⟨gb195, 0, none⟩ = some (.bool false) := (blk_cell BK195.out 0).trans rfl
      have hcz23_1 : wc.cell? ⟨gb195, 1, none⟩ = some (.string a0_1) := (blk_cell BK195.out 1).trans rfl
      have hcz23_2 : wc.cell? ⟨gb195, 2, none⟩ = some (.bool a0_2) := (blk_cell BK195.out 2).trans rfl
      have hcz23_3 : wc.cell? ⟨gb195, 3, none⟩ = some (.string a0_3) := (blk_cell BK195.out 3).trans rfl
      have hfz23_0 := blk_frozen BK195.out 0
      have hfz23_1 := blk_frozen BK195.out 1
      have hfz23_2 := blk_frozen BK195.out 2
      have hfz23_3 := blk_frozen BK195.out 3
      have hcz24_0 : wc.cell? ⟨gb196, 0, none⟩ = some (.bool true) := (blk_cell BK196.out 0).trans rfl
      have hcz24_1 : wc.cell? ⟨gb196, 1, none⟩ = some (.string a1_1) := (blk_cell BK196.out 1).trans rfl
      have hcz24_2 : wc.cell? ⟨gb196, 2, none⟩ = some (.bool a1_2) := (blk_cell BK196.out 2).trans rfl
      have hcz24_3 : wc.cell? ⟨gb196, 3, none⟩ = some (.string a1_3) := (blk_cell BK196.out 3).trans rfl
      have hfz24_0 := blk_frozen BK196.out 0
      have hfz24_1 := blk_frozen BK196.out 1
      have hfz24_2 := blk_frozen BK196.out 2
      have hfz24_3 := blk_frozen BK196.out 3
      go_wp2
      go_ret
      exact ⟨by first | rfl | (simp [errW_none, errW_some] <;> rfl) | (simp [*, errW_none, errW_some] <;> rfl), by repeat (first | (with_reducible first | exact HB.out | apply below_alloc | apply pw_below_drewN | apply below_drew1 | refine below_set ?_ GE195.out | refine below_set ?_ GE196.out) | exact HB.out)⟩
     ·replace c21 := Bool.eq_false_iff.mpr c21
      subst c21
      have H1 : (some 0) = some r := by rw [if_neg (show ¬ (false = true) by decide)] at H; exact H
      clear H
      have H := H1
      clear H1
      obtain rfl := Option.some.inj H
      have hnb25 := NB195_196.out
      have hnc25 := NB196_195.out
      have hcz26_0 : wc.cell? ⟨gb195, 0, none⟩ = some (.bool false) := (blk_cell BK195.out 0).trans rfl
      have hcz26_1 : wc.cell? ⟨gb195, 1, none⟩ = some (.string a0_1) := (blk_cell BK195.out 1).trans rfl
      have hcz26_2 : wc.cell? ⟨gb195, 2, none⟩ = some (.bool a0_2) := (blk_cell BK195.out 2).trans rfl
      have hcz26_3 : wc.cell? ⟨gb195, 3, none⟩ = some (.string a0_3) := (blk_cell BK195.out 3).trans rfl
      have hfz26_0 := blk_frozen BK195.out 0
      have hfz26_1 := blk_frozen BK195.out 1
      have hfz26_2 := blk_frozen BK195.out 2
      have hfz26_3 := blk_frozen BK195.out 3
      have hcz27_0 : wc.cell? ⟨gb196, 0, none⟩ = some (.bool false) := (blk_cell BK196.out 0).trans rfl
      have hcz27_1 : wc.cell? ⟨gb196, 1, none⟩ = some (.string a1_1) := (blk_cell BK196.out 1).trans rfl
      have hcz27_2 : wc.cell? ⟨gb196, 2, none⟩ = some (.bool a1_2) := (blk_cell BK196.out 2).trans rfl
      have hcz27_3 : wc.cell? ⟨gb196, 3, none⟩ = some (.string a1_3) := (blk_cell BK196.out 3).trans rfl
      have hfz27_0 := blk_frozen BK196.out 0
      have hfz27_1 := blk_frozen BK196.out 1
      have hfz27_2 := blk_frozen BK196.out 2
      have hfz27_3 := blk_frozen BK196.out 3
      go_wp2
      go_ret
      exact ⟨by first | rfl | (simp [errW_none, errW_some] <;> rfl) | (simp [*, errW_none, errW_some] <;> rfl), by repeat (first | (with_reducible first | exact HB.out | apply below_alloc | apply pw_below_drewN | apply below_drew1 | refine below_set ?_ GE195.out | refine below_set ?_ GE196.out) | exact HB.out)⟩

/-! ### spec_orderNumbers: function 43 -/
mutual
def spec_orderNumbers.j1 : Nat → ByteArray → ByteArray → Option (Int)
 | 0, _, _ => none
 | k + 1, x0, x1 => spec_orderNumbers.l1 k x0 x1
def spec_orderNumbers.j3 : Nat → ByteArray → ByteArray → Option (Int)
 | 0, _, _ => none
 | k + 1, x0, x1 => if (x0.size : Int) = (x1.size : Int) then ((spec_order.f x0 x1).bind fun t198 => (some t198)) else ((spec_orderInts.f (x0.size : Int) (x1.size : Int)).bind fun t199 => (some t199))
def spec_orderNumbers.l1 : Nat → ByteArray → ByteArray → Option (Int)
 | 0, _, _ => none
 | k + 1, x0, x1 => if (x1.size : Int) > 0 then (if 0 < (x1.size : Int) then (if (bt x1 0) = 48 then (if 1 ≤ (x1.size : Int) then (spec_orderNumbers.l1 k x0 (x1.extract 1 x1.size)) else (none)) else (spec_orderNumbers.j3 k x0 x1)) else (none)) else (spec_orderNumbers.j3 k x0 x1)
def spec_orderNumbers.l0 : Nat → ByteArray → ByteArray → Option (Int)
 | 0, _, _ => none
 | k + 1, x0, x1 => if (x0.size : Int) > 0 then (if 0 < (x0.size : Int) then (if (bt x0 0) = 48 then (if 1 ≤ (x0.size : Int) then (spec_orderNumbers.l0 k (x0.extract 1 x0.size) x1) else (none)) else (spec_orderNumbers.j1 k x0 x1)) else (none)) else (spec_orderNumbers.j1 k x0 x1)
end
def spec_orderNumbers.f (k : Nat) (a0 : ByteArray) (a1 : ByteArray) : Option (Int) := spec_orderNumbers.l0 k a0 a1
theorem spec_orderNumbers.mono_l : ∀ k, (∀ y0 y1, LeO (spec_orderNumbers.j1 k y0 y1) (spec_orderNumbers.j1 (k + 1) y0 y1)) ∧ (∀ y0 y1, LeO (spec_orderNumbers.j3 k y0 y1) (spec_orderNumbers.j3 (k + 1) y0 y1)) ∧ (∀ y0 y1, LeO (spec_orderNumbers.l1 k y0 y1) (spec_orderNumbers.l1 (k + 1) y0 y1)) ∧ (∀ y0 y1, LeO (spec_orderNumbers.l0 k y0 y1) (spec_orderNumbers.l0 (k + 1) y0 y1))
 | 0 => ⟨fun _ _ r h => by simp [spec_orderNumbers.j1] at h, fun _ _ r h => by simp [spec_orderNumbers.j3] at h, fun _ _ r h => by simp [spec_orderNumbers.l1] at h, fun _ _ r h => by simp [spec_orderNumbers.l0] at h⟩
 | k + 1 => by
  obtain ⟨ih0, ih1, ih2, ih3⟩ := spec_orderNumbers.mono_l k
  refine ⟨?_, ?_, ?_, ?_⟩
  ·intro y0 y1
   unfold spec_orderNumbers.j1
   repeat' first
   | (with_reducible exact ih0 _ _)
   | (with_reducible exact ih1 _ _)
   | (with_reducible exact ih2 _ _)
   | (with_reducible exact ih3 _ _)
   | (with_reducible exact LeO.refl _)
   | (with_reducible exact LeO.none _)
   | (with_reducible refine LeO.ite ?_ ?_)
   | (with_reducible refine LeO.bind ?_ (fun _ => ?_))
   | exact ih0 _ _
   | exact ih1 _ _
   | exact ih2 _ _
   | exact ih3 _ _
   | exact LeO.none _
   | refine LeO.ite ?_ ?_
   | refine LeO.bind ?_ (fun _ => ?_)
  ·intro y0 y1
   unfold spec_orderNumbers.j3
   repeat' first
   | (with_reducible exact ih0 _ _)
   | (with_reducible exact ih1 _ _)
   | (with_reducible exact ih2 _ _)
   | (with_reducible exact ih3 _ _)
   | (with_reducible exact LeO.refl _)
   | (with_reducible exact LeO.none _)
   | (with_reducible refine LeO.ite ?_ ?_)
   | (with_reducible refine LeO.bind ?_ (fun _ => ?_))
   | exact ih0 _ _
   | exact ih1 _ _
   | exact ih2 _ _
   | exact ih3 _ _
   | exact LeO.none _
   | refine LeO.ite ?_ ?_
   | refine LeO.bind ?_ (fun _ => ?_)
  ·intro y0 y1
   unfold spec_orderNumbers.l1
   repeat' first
   | (with_reducible exact ih0 _ _)
   | (with_reducible exact ih1 _ _)
   | (with_reducible exact ih2 _ _)
   | (with_reducible exact ih3 _ _)
   | (with_reducible exact LeO.refl _)
   | (with_reducible exact LeO.none _)
   | (with_reducible refine LeO.ite ?_ ?_)
   | (with_reducible refine LeO.bind ?_ (fun _ => ?_))
   | exact ih0 _ _
   | exact ih1 _ _
   | exact ih2 _ _
   | exact ih3 _ _
   | exact LeO.none _
   | refine LeO.ite ?_ ?_
   | refine LeO.bind ?_ (fun _ => ?_)
  ·intro y0 y1
   unfold spec_orderNumbers.l0
   repeat' first
   | (with_reducible exact ih0 _ _)
   | (with_reducible exact ih1 _ _)
   | (with_reducible exact ih2 _ _)
   | (with_reducible exact ih3 _ _)
   | (with_reducible exact LeO.refl _)
   | (with_reducible exact LeO.none _)
   | (with_reducible refine LeO.ite ?_ ?_)
   | (with_reducible refine LeO.bind ?_ (fun _ => ?_))
   | exact ih0 _ _
   | exact ih1 _ _
   | exact ih2 _ _
   | exact ih3 _ _
   | exact LeO.none _
   | refine LeO.ite ?_ ?_
   | refine LeO.bind ?_ (fun _ => ?_)
theorem spec_orderNumbers.mono : ∀ a0 a1 k, LeO (spec_orderNumbers.f k a0 a1) (spec_orderNumbers.f (k + 1) a0 a1) := by
 intro a0 a1 k
 obtain ⟨ih0, ih1, ih2, ih3⟩ := spec_orderNumbers.mono_l k
 unfold spec_orderNumbers.f
 repeat' first
   | (with_reducible exact ih0 _ _)
   | (with_reducible exact ih1 _ _)
   | (with_reducible exact ih2 _ _)
   | (with_reducible exact ih3 _ _)
   | (with_reducible exact LeO.refl _)
   | (with_reducible exact LeO.none _)
   | (with_reducible refine LeO.ite ?_ ?_)
   | (with_reducible refine LeO.bind ?_ (fun _ => ?_))
   | exact ih0 _ _
   | exact ih1 _ _
   | exact ih2 _ _
   | exact ih3 _ _
   | exact LeO.none _
   | refine LeO.ite ?_ ?_
   | refine LeO.bind ?_ (fun _ => ?_)
set_option maxHeartbeats 8000000 in
set_option maxRecDepth 100000 in
theorem spec_orderNumbers.calls (k : Nat) (a0 : ByteArray) (a1 : ByteArray) (r : Int) (w : World) (h : spec_orderNumbers.f k a0 a1 = some r) :
  Calls Tryz.prog 43 #[.string a0, .string a1] w fun e w' => e = .returned (.int .i64 r) ∧ Drawn0 w w' := by
 have H : (spec_orderNumbers.l0 k a0 a1) = some r := h
 clear h
 have HC3 := Aside0.mk H
 clear H
 go_enter Tryz.func43, Tryz.ntmps43
 go_upto_block 0 with (fail)
 go_cut [0] (fun v0 wc => ∃ (kq : Nat) (x0_2 : ByteArray), v0 = .string x0_2 ∧ Aside0 (spec_orderNumbers.j1 kq x0_2 a1 = some r) ∧ Aside0 (kq ≤ k) ∧ Drawn0 w wc)
 case first =>
  have H := HC3.out
  clear HC3
  have H' := Aside0.mk H
  clear H
  go_wp2
  go_loopg [0] k (fun kq v0 w' => ∃ (x0_1 : ByteArray), v0 = .string x0_1 ∧ Aside0 (spec_orderNumbers.l0 kq x0_1 a1 = some r) ∧ Aside0 (kq ≤ k) ∧ Drawn0 w w')
  case atStart => exact ⟨(a0), (by first | rfl | (simp; done) | (simp [*]; done)), H', ⟨Nat.le_refl _⟩, by repeat (first | exact Drawn0.refl _ | apply Drawn0.step)⟩
  case round =>
   clear H'
   try clear p2
   obtain ⟨x0_1, rfl, HA, HK1, ⟨m1, rfl⟩⟩ := hrel
   cases gk with
   | zero => exact absurd HA.out (by simp [spec_orderNumbers.l0])
   | succ k1 =>
    have H := HA.out
    clear HA
    simp only [spec_orderNumbers.l0] at H
    by_cases c4 : (x0_1.size : Int) > 0
    ·rw [if_pos c4] at H
     have c4b0 : decide (0 < (x0_1.size : Int)) = true := decide_eq_true c4
     have c4b1 : decide (0 < x0_1.size) = true := decide_eq_true (by omega)
     clear c4
     (first | rw [c4b0] | (simp only [i64_w, i32_w]; rw [c4b0]) | skip)
     by_cases c5 : 0 < (x0_1.size : Int)
     ·rw [if_pos c5] at H
      have c5b0 : decide (0 < (x0_1.size : Int)) = true := decide_eq_true c5
      have c5b1 : decide (0 < x0_1.size) = true := decide_eq_true (by omega)
      clear c5
      by_cases c7 : (bt x0_1 0) = 48
      ·rw [if_pos c7] at H
       have c7b0 : ((bt x0_1 0) == 48) = true := beq_iff_eq.mpr c7
       have c7b1 : ((bt x0_1 0) != 48) = false := bne_eq_false_iff_eq.mpr c7
       clear c7
       by_cases c8 : 1 ≤ (x0_1.size : Int)
       ·rw [if_pos c8] at H
        have c8b0 := eq_true c8
        have c8b1 : decide (1 ≤ (x0_1.size : Int)) = true := decide_eq_true c8
        clear c8
        have H' := Aside0.mk H
        clear H
        have p6 : 0 ≤ (0 : Int) := (by omega)
        have q6 : 0 < x0_1.size := (by have : (0 : Int) < (x0_1.size : Int) := of_decide_eq_true (by first | (with_reducible assumption) | assumption); omega)
        have hx6 : ∀ h : 0 < x0_1.size, ((x0_1[0]'h).toNat : Int) = bt x0_1 0 := bt_at x0_1 0
        clear p6
        have qi6 : (0 < (x0_1.size : Int)) = True := eq_true (of_decide_eq_true (by first | (with_reducible assumption) | assumption))
        replace q6 := eq_true q6
        go_wp2
        go_roundg k1
        case measure => have := HK1.out; omega
        case rel => exact ⟨(x0_1.extract 1 x0_1.size), (by first | rfl | (simp; done) | (simp [*]; done)), H', ⟨by have := HK1.out; omega⟩, by repeat (first | exact Drawn0.refl _ | apply Drawn0.step)⟩
       ·rw [if_neg c8] at H
        exact absurd H (by simp)
      ·rw [if_neg c7] at H
       have c7b0 : ((bt x0_1 0) == 48) = false := beq_eq_false_iff_ne.mpr c7
       have c7b1 : ((bt x0_1 0) != 48) = true := bne_iff_ne.mpr c7
       have H' := Aside0.mk H
       clear H
       have p6 : 0 ≤ (0 : Int) := (by omega)
       have q6 : 0 < x0_1.size := (by have : (0 : Int) < (x0_1.size : Int) := of_decide_eq_true (by first | (with_reducible assumption) | assumption); omega)
       have hx6 : ∀ h : 0 < x0_1.size, ((x0_1[0]'h).toNat : Int) = bt x0_1 0 := bt_at x0_1 0
       clear p6
       have qi6 : (0 < (x0_1.size : Int)) = True := eq_true (of_decide_eq_true (by first | (with_reducible assumption) | assumption))
       replace q6 := eq_true q6
       go_wp2
       go_meet
       case rel => exact ⟨_, (x0_1), (by first | rfl | (simp; done) | (simp [*]; done)), H', ⟨by have := HK1.out; first | omega | exact Nat.le_refl _⟩, by repeat (first | exact Drawn0.refl _ | apply Drawn0.step)⟩
     ·rw [if_neg c5] at H
      exact absurd H (by simp)
    ·rw [if_neg c4] at H
     have c4b0 : decide (0 < (x0_1.size : Int)) = false := decide_eq_false c4
     have c4b1 : decide (0 < x0_1.size) = false := decide_eq_false (by omega)
     clear c4
     (first | rw [c4b0] | (simp only [i64_w, i32_w]; rw [c4b0]) | skip)
     have H' := Aside0.mk H
     clear H
     go_wp2
     go_meet
     case rel => exact ⟨_, (x0_1), (by first | rfl | (simp; done) | (simp [*]; done)), H', ⟨by have := HK1.out; first | omega | exact Nat.le_refl _⟩, by repeat (first | exact Drawn0.refl _ | apply Drawn0.step)⟩
 case rest =>
  clear HC3
  try clear p2
  try clear c4
  try clear c4b0
  try clear c4b1
  try clear c5
  try clear c5b0
  try clear c5b1
  try clear p6
  try clear q6
  try clear hx6
  try clear qi6
  try clear c7
  try clear c7b0
  try clear c7b1
  try clear c8
  try clear c8b0
  try clear c8b1
  try clear p2
  try clear p6
  try clear q6
  obtain ⟨kq, x0_2, rfl, HA, HJ2, ⟨mc2, rfl⟩⟩ := hcut
  cases kq with
  | zero => exact absurd HA.out (by simp [spec_orderNumbers.j1])
  | succ kj2 =>
   have H := HA.out
   clear HA
   simp only [spec_orderNumbers.j1] at H
   have HC9 := Aside0.mk H
   clear H
   go_upto_block 2 with (fail)
   go_cut [1] (fun v1 wc => ∃ (kq : Nat) (x1_8 : ByteArray), v1 = .string x1_8 ∧ Aside0 (spec_orderNumbers.j3 kq x0_2 x1_8 = some r) ∧ Aside0 (kq ≤ kj2) ∧ Drawn0 w wc)
   case first =>
    have H := HC9.out
    clear HC9
    have H' := Aside0.mk H
    clear H
    go_wp2
    go_loopg [1] kj2 (fun kq v1 w' => ∃ (x1_2 : ByteArray), v1 = .string x1_2 ∧ Aside0 (spec_orderNumbers.l1 kq x0_2 x1_2 = some r) ∧ Aside0 (kq ≤ kj2) ∧ Drawn0 w w')
    case atStart => exact ⟨(a1), (by first | rfl | (simp; done) | (simp [*]; done)), H', ⟨Nat.le_refl _⟩, by repeat (first | exact Drawn0.refl _ | apply Drawn0.step)⟩
    case round =>
     clear H'
     try clear c2
     try clear p2
     try clear c4
     try clear c4b0
     try clear c4b1
     try clear c5
     try clear c5b0
     try clear c5b1
     try clear p6
     try clear q6
     try clear hx6
     try clear qi6
     try clear c7
     try clear c7b0
     try clear c7b1
     try clear c8
     try clear c8b0
     try clear c8b1
     try clear p2
     try clear p6
     try clear q6
     obtain ⟨x1_2, rfl, HA, HK2, ⟨m2, rfl⟩⟩ := hrel
     cases gk with
     | zero => exact absurd HA.out (by simp [spec_orderNumbers.l1])
     | succ k2 =>
      have H := HA.out
      clear HA
      simp only [spec_orderNumbers.l1] at H
      by_cases c10 : (x1_2.size : Int) > 0
      ·rw [if_pos c10] at H
       have c10b0 : decide (0 < (x1_2.size : Int)) = true := decide_eq_true c10
       have c10b1 : decide (0 < x1_2.size) = true := decide_eq_true (by omega)
       clear c10
       (first | rw [c10b0] | (simp only [i64_w, i32_w]; rw [c10b0]) | skip)
       by_cases c11 : 0 < (x1_2.size : Int)
       ·rw [if_pos c11] at H
        have c11b0 : decide (0 < (x1_2.size : Int)) = true := decide_eq_true c11
        have c11b1 : decide (0 < x1_2.size) = true := decide_eq_true (by omega)
        clear c11
        by_cases c13 : (bt x1_2 0) = 48
        ·rw [if_pos c13] at H
         have c13b0 : ((bt x1_2 0) == 48) = true := beq_iff_eq.mpr c13
         have c13b1 : ((bt x1_2 0) != 48) = false := bne_eq_false_iff_eq.mpr c13
         clear c13
         by_cases c14 : 1 ≤ (x1_2.size : Int)
         ·rw [if_pos c14] at H
          have c14b0 := eq_true c14
          have c14b1 : decide (1 ≤ (x1_2.size : Int)) = true := decide_eq_true c14
          clear c14
          have H' := Aside0.mk H
          clear H
          have p12 : 0 ≤ (0 : Int) := (by omega)
          have q12 : 0 < x1_2.size := (by have : (0 : Int) < (x1_2.size : Int) := of_decide_eq_true (by first | (with_reducible assumption) | assumption); omega)
          have hx12 : ∀ h : 0 < x1_2.size, ((x1_2[0]'h).toNat : Int) = bt x1_2 0 := bt_at x1_2 0
          clear p12
          have qi12 : (0 < (x1_2.size : Int)) = True := eq_true (of_decide_eq_true (by first | (with_reducible assumption) | assumption))
          replace q12 := eq_true q12
          go_wp2
          go_roundg k2
          case measure => have := HJ2.out; have := HK2.out; omega
          case rel => exact ⟨(x1_2.extract 1 x1_2.size), (by first | rfl | (simp; done) | (simp [*]; done)), H', ⟨by have := HJ2.out; have := HK2.out; omega⟩, by repeat (first | exact Drawn0.refl _ | apply Drawn0.step)⟩
         ·rw [if_neg c14] at H
          exact absurd H (by simp)
        ·rw [if_neg c13] at H
         have c13b0 : ((bt x1_2 0) == 48) = false := beq_eq_false_iff_ne.mpr c13
         have c13b1 : ((bt x1_2 0) != 48) = true := bne_iff_ne.mpr c13
         have H' := Aside0.mk H
         clear H
         have p12 : 0 ≤ (0 : Int) := (by omega)
         have q12 : 0 < x1_2.size := (by have : (0 : Int) < (x1_2.size : Int) := of_decide_eq_true (by first | (with_reducible assumption) | assumption); omega)
         have hx12 : ∀ h : 0 < x1_2.size, ((x1_2[0]'h).toNat : Int) = bt x1_2 0 := bt_at x1_2 0
         clear p12
         have qi12 : (0 < (x1_2.size : Int)) = True := eq_true (of_decide_eq_true (by first | (with_reducible assumption) | assumption))
         replace q12 := eq_true q12
         go_wp2
         go_meet
         case rel => exact ⟨_, (x1_2), (by first | rfl | (simp; done) | (simp [*]; done)), H', ⟨by have := HJ2.out; have := HK2.out; first | omega | exact Nat.le_refl _⟩, by repeat (first | exact Drawn0.refl _ | apply Drawn0.step)⟩
       ·rw [if_neg c11] at H
        exact absurd H (by simp)
      ·rw [if_neg c10] at H
       have c10b0 : decide (0 < (x1_2.size : Int)) = false := decide_eq_false c10
       have c10b1 : decide (0 < x1_2.size) = false := decide_eq_false (by omega)
       clear c10
       (first | rw [c10b0] | (simp only [i64_w, i32_w]; rw [c10b0]) | skip)
       have H' := Aside0.mk H
       clear H
       go_wp2
       go_meet
       case rel => exact ⟨_, (x1_2), (by first | rfl | (simp; done) | (simp [*]; done)), H', ⟨by have := HJ2.out; have := HK2.out; first | omega | exact Nat.le_refl _⟩, by repeat (first | exact Drawn0.refl _ | apply Drawn0.step)⟩
   case rest =>
    clear HC9
    try clear c1
    try clear p1
    try clear q1
    try clear hx1
    try clear qi1
    try clear c2
    try clear p2
    try clear c4
    try clear c4b0
    try clear c4b1
    try clear c5
    try clear c5b0
    try clear c5b1
    try clear p6
    try clear q6
    try clear hx6
    try clear qi6
    try clear c7
    try clear c7b0
    try clear c7b1
    try clear c8
    try clear c8b0
    try clear c8b1
    try clear c10
    try clear c10b0
    try clear c10b1
    try clear c11
    try clear c11b0
    try clear c11b1
    try clear p12
    try clear q12
    try clear hx12
    try clear qi12
    try clear c13
    try clear c13b0
    try clear c13b1
    try clear c14
    try clear c14b0
    try clear c14b1
    try clear p12
    try clear p2
    try clear p6
    try clear q12
    try clear q6
    obtain ⟨kq, x1_8, rfl, HA, HJ8, ⟨mc8, rfl⟩⟩ := hcut
    cases kq with
    | zero => exact absurd HA.out (by simp [spec_orderNumbers.j3])
    | succ kj8 =>
     have H := HA.out
     clear HA
     simp only [spec_orderNumbers.j3] at H
     by_cases c15 : (x0_2.size : Int) = (x1_8.size : Int)
     ·rw [if_pos c15] at H
      have c15b0 : ((x0_2.size : Int) == (x1_8.size : Int)) = true := beq_iff_eq.mpr c15
      have c15b1 : ((x0_2.size : Int) != (x1_8.size : Int)) = false := bne_eq_false_iff_eq.mpr c15
      have c15b2 : (x0_2.size == x1_8.size) = true := by first | simpa using c15 | (simp at c15 ⊢; omega)
      clear c15
      replace H := Option.bind_eq_some_iff.mp H
      obtain ⟨t198, A160, H⟩ := H
      replace H : (some t198) = some r := H
      have A16 := Aside0.mk A160
      clear A160
      obtain rfl := Option.some.inj H
      go_wp2_with (first | ((with_reducible refine gate_callee (f := 39) rfl ?_); refine goesL_ (some 37) rfl rfl Tryz.func39 (by kernel_rfl) rfl #[.string x0_2, .string x1_8] rfl (by (try simp only [List.map_toArray, List.map_cons, List.map_nil]); first | done | rfl | (simp only [List.length_drop, List.length_take]; rfl)) ?_; (with_reducible refine (spec_order.calls x0_2 x1_8 t198 _ A16.out).mono ?_); rintro e w' ⟨rfl, ⟨nd, rfl⟩⟩; refine ⟨_, rfl, ?_⟩))
      go_ret
      exact ⟨by first | rfl | (simp; done) | (simp [*]; done), by repeat (first | exact Drawn0.refl _ | apply Drawn0.step)⟩
     ·rw [if_neg c15] at H
      have c15b0 : ((x0_2.size : Int) == (x1_8.size : Int)) = false := beq_eq_false_iff_ne.mpr c15
      have c15b1 : ((x0_2.size : Int) != (x1_8.size : Int)) = true := bne_iff_ne.mpr c15
      have c15b2 : (x0_2.size == x1_8.size) = false := by first | simpa using c15 | (simp at c15 ⊢; omega)
      replace H := Option.bind_eq_some_iff.mp H
      obtain ⟨t199, A170, H⟩ := H
      replace H : (some t199) = some r := H
      have A17 := Aside0.mk A170
      clear A170
      obtain rfl := Option.some.inj H
      go_wp2_with (first | ((with_reducible refine gate_callee (f := 38) rfl ?_); refine goesL_ (some 34) rfl rfl Tryz.func38 (by kernel_rfl) rfl #[.int .i64 (x0_2.size : Int), .int .i64 (x1_8.size : Int)] rfl (by (try simp only [List.map_toArray, List.map_cons, List.map_nil]); first | done | rfl | (simp only [List.length_drop, List.length_take]; rfl)) ?_; (with_reducible refine (spec_orderInts.calls (x0_2.size : Int) (x1_8.size : Int) t199 _ A17.out).mono ?_); rintro e w' ⟨rfl, ⟨nd, rfl⟩⟩; refine ⟨_, rfl, ?_⟩))
      go_ret
      exact ⟨by first | rfl | (simp; done) | (simp [*]; done), by repeat (first | exact Drawn0.refl _ | apply Drawn0.step)⟩

/-! ### spec_PyPILocal: function 25 -/
mutual
def spec_PyPILocal.l0 : Nat → List ByteArray → List ByteArray → Int → Option (Int)
 | 0, _, _, _ => none
 | k + 1, x0, x1, x5 => if x5 < (x0.length : Int) then (spec_PyPILocal.j1 k x0 x1 x5 (decide (x5 < (x1.length : Int)))) else (spec_PyPILocal.j1 k x0 x1 x5 false)
def spec_PyPILocal.j1 : Nat → List ByteArray → List ByteArray → Int → Bool → Option (Int)
 | 0, _, _, _, _ => none
 | k + 1, x0, x1, x5, x18 => if x18 = true then (if 0 ≤ x5 then (if x5 < (x0.length : Int) then ((spec_allDigits.f k (rdOf ByteArray.empty x0 x5)).bind fun t202 => (if x5 < (x1.length : Int) then ((spec_allDigits.f k (rdOf ByteArray.empty x1 x5)).bind fun t204 => (if t202 = true then (spec_PyPILocal.j2 k x0 x1 x5 t202 t204 t204) else (spec_PyPILocal.j2 k x0 x1 x5 t202 t204 false))) else (none))) else (none)) else (none)) else ((spec_orderInts.f (x0.length : Int) (x1.length : Int)).bind fun t200 => (some t200))
def spec_PyPILocal.j2 : Nat → List ByteArray → List ByteArray → Int → Bool → Bool → Bool → Option (Int)
 | 0, _, _, _, _, _, _ => none
 | k + 1, x0, x1, x5, x6, x7, x40 => if x40 = true then (if 0 ≤ x5 then (if x5 < (x0.length : Int) then (if x5 < (x1.length : Int) then ((spec_orderNumbers.f k (rdOf ByteArray.empty x0 x5) (rdOf ByteArray.empty x1 x5)).bind fun t207 => (if t207 = 0 then (spec_PyPILocal.l0 k x0 x1 (wrap64 (x5 + 1))) else (some t207))) else (none)) else (none)) else (none)) else (if x6 = true then (if 1 = 0 then (spec_PyPILocal.l0 k x0 x1 (wrap64 (x5 + 1))) else (some 1)) else (if x7 = true then (if (-1) = 0 then (spec_PyPILocal.l0 k x0 x1 (wrap64 (x5 + 1))) else (some (-1))) else (if 0 ≤ x5 then (if x5 < (x0.length : Int) then (if x5 < (x1.length : Int) then ((spec_order.f (rdOf ByteArray.empty x0 x5) (rdOf ByteArray.empty x1 x5)).bind fun t210 => (if t210 = 0 then (spec_PyPILocal.l0 k x0 x1 (wrap64 (x5 + 1))) else (some t210))) else (none)) else (none)) else (none))))
end
def spec_PyPILocal.f (k : Nat) (l0 : List ByteArray) (l1 : List ByteArray) : Option (Int) := spec_PyPILocal.l0 k l0 l1 0
theorem spec_PyPILocal.mono_l : ∀ k, (∀ y0 y1 y2, LeO (spec_PyPILocal.l0 k y0 y1 y2) (spec_PyPILocal.l0 (k + 1) y0 y1 y2)) ∧ (∀ y0 y1 y2 y3, LeO (spec_PyPILocal.j1 k y0 y1 y2 y3) (spec_PyPILocal.j1 (k + 1) y0 y1 y2 y3)) ∧ (∀ y0 y1 y2 y3 y4 y5, LeO (spec_PyPILocal.j2 k y0 y1 y2 y3 y4 y5) (spec_PyPILocal.j2 (k + 1) y0 y1 y2 y3 y4 y5))
 | 0 => ⟨fun _ _ _ r h => by simp [spec_PyPILocal.l0] at h, fun _ _ _ _ r h => by simp [spec_PyPILocal.j1] at h, fun _ _ _ _ _ _ r h => by simp [spec_PyPILocal.j2] at h⟩
 | k + 1 => by
  obtain ⟨ih0, ih1, ih2⟩ := spec_PyPILocal.mono_l k
  refine ⟨?_, ?_, ?_⟩
  ·intro y0 y1 y2
   unfold spec_PyPILocal.l0
   repeat' first
   | (with_reducible exact ih0 _ _ _)
   | (with_reducible exact ih1 _ _ _ _)
   | (with_reducible exact ih2 _ _ _ _ _ _)
   | (with_reducible exact spec_allDigits.mono _ _)
   | (with_reducible exact spec_orderNumbers.mono _ _ _)
   | (with_reducible exact LeO.refl _)
   | (with_reducible exact LeO.none _)
   | (with_reducible refine LeO.ite ?_ ?_)
   | (with_reducible refine LeO.bind ?_ (fun _ => ?_))
   | exact ih0 _ _ _
   | exact ih1 _ _ _ _
   | exact ih2 _ _ _ _ _ _
   | exact spec_allDigits.mono _ _
   | exact spec_orderNumbers.mono _ _ _
   | exact LeO.none _
   | refine LeO.ite ?_ ?_
   | refine LeO.bind ?_ (fun _ => ?_)
  ·intro y0 y1 y2 y3
   unfold spec_PyPILocal.j1
   repeat' first
   | (with_reducible exact ih0 _ _ _)
   | (with_reducible exact ih1 _ _ _ _)
   | (with_reducible exact ih2 _ _ _ _ _ _)
   | (with_reducible exact spec_allDigits.mono _ _)
   | (with_reducible exact spec_orderNumbers.mono _ _ _)
   | (with_reducible exact LeO.refl _)
   | (with_reducible exact LeO.none _)
   | (with_reducible refine LeO.ite ?_ ?_)
   | (with_reducible refine LeO.bind ?_ (fun _ => ?_))
   | exact ih0 _ _ _
   | exact ih1 _ _ _ _
   | exact ih2 _ _ _ _ _ _
   | exact spec_allDigits.mono _ _
   | exact spec_orderNumbers.mono _ _ _
   | exact LeO.none _
   | refine LeO.ite ?_ ?_
   | refine LeO.bind ?_ (fun _ => ?_)
  ·intro y0 y1 y2 y3 y4 y5
   unfold spec_PyPILocal.j2
   repeat' first
   | (with_reducible exact ih0 _ _ _)
   | (with_reducible exact ih1 _ _ _ _)
   | (with_reducible exact ih2 _ _ _ _ _ _)
   | (with_reducible exact spec_allDigits.mono _ _)
   | (with_reducible exact spec_orderNumbers.mono _ _ _)
   | (with_reducible exact LeO.refl _)
   | (with_reducible exact LeO.none _)
   | (with_reducible refine LeO.ite ?_ ?_)
   | (with_reducible refine LeO.bind ?_ (fun _ => ?_))
   | exact ih0 _ _ _
   | exact ih1 _ _ _ _
   | exact ih2 _ _ _ _ _ _
   | exact spec_allDigits.mono _ _
   | exact spec_orderNumbers.mono _ _ _
   | exact LeO.none _
   | refine LeO.ite ?_ ?_
   | refine LeO.bind ?_ (fun _ => ?_)
theorem spec_PyPILocal.mono : ∀ a0 a1 k, LeO (spec_PyPILocal.f k a0 a1) (spec_PyPILocal.f (k + 1) a0 a1) := by
 intro a0 a1 k
 obtain ⟨ih0, ih1, ih2⟩ := spec_PyPILocal.mono_l k
 unfold spec_PyPILocal.f
 repeat' first
   | (with_reducible exact ih0 _ _ _)
   | (with_reducible exact ih1 _ _ _ _)
   | (with_reducible exact ih2 _ _ _ _ _ _)
   | (with_reducible exact spec_allDigits.mono _ _)
   | (with_reducible exact spec_orderNumbers.mono _ _ _)
   | (with_reducible exact LeO.refl _)
   | (with_reducible exact LeO.none _)
   | (with_reducible refine LeO.ite ?_ ?_)
   | (with_reducible refine LeO.bind ?_ (fun _ => ?_))
   | exact ih0 _ _ _
   | exact ih1 _ _ _ _
   | exact ih2 _ _ _ _ _ _
   | exact spec_allDigits.mono _ _
   | exact spec_orderNumbers.mono _ _ _
   | exact LeO.none _
   | refine LeO.ite ?_ ?_
   | refine LeO.bind ?_ (fun _ => ?_)
set_option maxHeartbeats 8000000 in
set_option maxRecDepth 100000 in
theorem spec_PyPILocal.calls (k : Nat) (A0 : Option Addr) (c0 : Nat) (l0 : List ByteArray) (A1 : Option Addr) (c1 : Nat) (l1 : List ByteArray) (r : Int) (w : World) (hr0 : Kd.C Kd.string w A0 l0.length l0) (hc0 : l0.length ≤ c0) (hr1 : Kd.C Kd.string w A1 l1.length l1) (hc1 : l1.length ≤ c1) (h : spec_PyPILocal.f k l0 l1 = some r) :
  Calls Tryz.prog 25 #[.slice A0 l0.length c0, .slice A1 l1.length c1] w fun e w' => e = .returned (.int .i64 r) ∧ Drawn0 w w' := by
 have HR0 := Aside0.mk hr0
 have HC0 := Aside0.mk hc0
 clear hr0 hc0
 have HR1 := Aside0.mk hr1
 have HC1 := Aside0.mk hc1
 clear hr1 hc1
 have H : (spec_PyPILocal.l0 k l0 l1 0) = some r := h
 clear h
 have H' := Aside0.mk H
 clear H
 go_enter Tryz.func25, Tryz.ntmps25
 go_wp2
 repeat (go_quiet (fail); try go_wp2)
 go_loopg [5] k (fun kq v5 w' => ∃ (x5_1 : Int), v5 = .int .i64 x5_1 ∧ Aside0 (spec_PyPILocal.l0 kq l0 l1 x5_1 = some r) ∧ Aside0 (kq ≤ k) ∧ Drawn0 w w')
 case atStart => exact ⟨(0), (by first | rfl | (simp; done) | (simp [*]; done)), H', ⟨Nat.le_refl _⟩, by repeat (first | exact Drawn0.refl _ | apply Drawn0.step)⟩
 case round =>
  clear H'
  try clear c1
  try clear c2
  try clear p2
  obtain ⟨x5_1, rfl, HA, HK1, ⟨m1, rfl⟩⟩ := hrel
  cases gk with
  | zero => exact absurd HA.out (by simp [spec_PyPILocal.l0])
  | succ k1 =>
   have H := HA.out
   clear HA
   simp only [spec_PyPILocal.l0] at H
   have HC3 := Aside0.mk H
   clear H
   go_upto_region 2 with (fail)
   repeat (go_quiet (fail); go_upto_region 2 with (fail))
   go_cut [18] (fun v18 wc => ∃ (kq : Nat) (x18_2 : Bool), v18 = .bool x18_2 ∧ Aside0 (spec_PyPILocal.j1 kq l0 l1 x5_1 x18_2 = some r) ∧ Aside0 (kq ≤ k1) ∧ Drawn0 w wc)
   case first =>
    have H := HC3.out
    clear HC3
    by_cases c4 : x5_1 < (l0.length : Int)
    ·rw [if_pos c4] at H
     have c4b0 : decide (x5_1 < (l0.length : Int)) = true := decide_eq_true c4
     clear c4
     (first | rw [c4b0] | (simp only [i64_w, i32_w]; rw [c4b0]) | skip)
     have H' := Aside0.mk H
     clear H
     go_wp2
     repeat (go_quiet (fail); try go_wp2)
     go_meet
     case rel => exact ⟨_, (decide (x5_1 < (l1.length : Int))), (by first | rfl | (simp; done) | (simp [*]; done)), H', ⟨by have := HK1.out; first | omega | exact Nat.le_refl _⟩, by repeat (first | exact Drawn0.refl _ | apply Drawn0.step)⟩
    ·rw [if_neg c4] at H
     have c4b0 : decide (x5_1 < (l0.length : Int)) = false := decide_eq_false c4
     clear c4
     (first | rw [c4b0] | (simp only [i64_w, i32_w]; rw [c4b0]) | skip)
     have H' := Aside0.mk H
     clear H
     go_wp2
     repeat (go_quiet (fail); try go_wp2)
     go_meet
     case rel => exact ⟨_, (false), (by first | rfl | (simp; done) | (simp [*]; done)), H', ⟨by have := HK1.out; first | omega | exact Nat.le_refl _⟩, by repeat (first | exact Drawn0.refl _ | apply Drawn0.step)⟩
   case rest =>
    clear HC3
    try clear c1
    try clear c2
    try clear p2
    try clear c4
    try clear c4b0
    try clear p2
    obtain ⟨kq, x18_2, rfl, HA, HJ2, ⟨mc2, rfl⟩⟩ := hcut
    cases kq with
    | zero => exact absurd HA.out (by simp [spec_PyPILocal.j1])
    | succ kj2 =>
     have H := HA.out
     clear HA
     simp only [spec_PyPILocal.j1] at H
     by_cases c5 : x18_2 = true
     ·subst c5
      have H1 : (if 0 ≤ x5_1 then (if x5_1 < (l0.length : Int) then ((spec_allDigits.f kj2 (rdOf ByteArray.empty l0 x5_1)).bind fun t202 => (if x5_1 < (l1.length : Int) then ((spec_allDigits.f kj2 (rdOf ByteArray.empty l1 x5_1)).bind fun t204 => (if t202 = true then (spec_PyPILocal.j2 kj2 l0 l1 x5_1 t202 t204 t204) else (spec_PyPILocal.j2 kj2 l0 l1 x5_1 t202 t204 false))) else (none))) else (none)) else (none)) = some r := by rw [if_pos rfl] at H; exact H
      clear H
      have H := H1
      clear H1
      by_cases c6 : 0 ≤ x5_1
      ·rw [if_pos c6] at H
       have c6b0 : decide (0 ≤ x5_1) = true := decide_eq_true c6
       clear c6
       by_cases c7 : x5_1 < (l0.length : Int)
       ·rw [if_pos c7] at H
        have c7b0 : decide (x5_1 < (l0.length : Int)) = true := decide_eq_true c7
        clear c7
        replace H := Option.bind_eq_some_iff.mp H
        obtain ⟨t202, A80, H⟩ := H
        replace H : (if x5_1 < (l1.length : Int) then ((spec_allDigits.f kj2 (rdOf ByteArray.empty l1 x5_1)).bind fun t204 => (if t202 = true then (spec_PyPILocal.j2 kj2 l0 l1 x5_1 t202 t204 t204) else (spec_PyPILocal.j2 kj2 l0 l1 x5_1 t202 t204 false))) else (none)) = some r := H
        have A8 := Aside0.mk A80
        clear A80
        by_cases c9 : x5_1 < (l1.length : Int)
        ·rw [if_pos c9] at H
         have c9b0 : decide (x5_1 < (l1.length : Int)) = true := decide_eq_true c9
         clear c9
         replace H := Option.bind_eq_some_iff.mp H
         obtain ⟨t204, A100, H⟩ := H
         replace H : (if t202 = true then (spec_PyPILocal.j2 kj2 l0 l1 x5_1 t202 t204 t204) else (spec_PyPILocal.j2 kj2 l0 l1 x5_1 t202 t204 false)) = some r := H
         have A10 := Aside0.mk A100
         clear A100
         have HC11 := Aside0.mk H
         clear H
         have p201 : 0 ≤ (x5_1 : Int) := of_decide_eq_true (by first | (with_reducible assumption) | assumption)
         have q201 : x5_1 < (l0.length : Int) := of_decide_eq_true (by first | (with_reducible assumption) | assumption)
         obtain ⟨ad201, e201, hx201_0⟩ := Kd.at_string HR0.out x5_1 p201 q201
         cases e201
         replace p201 := eq_true p201
         replace q201 := eq_true q201
         go_upto_region 7 with (first | (go_at_call 42; (with_reducible refine (spec_allDigits.calls kj2 (rdOf ByteArray.empty l0 x5_1) t202 _ A8.out).mono ?_); rintro e w' ⟨rfl, ⟨nd, rfl⟩⟩; (try first | exact ⟨rfl, _, World.drewN_drewN _ _ _⟩ | exact ⟨rfl, _, Eq.trans (World.drewN_drewN _ _ _) (congrArg (World.drewN _) (Nat.add_assoc _ _ _))⟩); have p203 : 0 ≤ (x5_1 : Int) := of_decide_eq_true (by first | (with_reducible assumption) | assumption); have q203 : x5_1 < (l1.length : Int) := of_decide_eq_true (by first | (with_reducible assumption) | assumption); obtain ⟨ad203, e203, hx203_0⟩ := Kd.at_string HR1.out x5_1 p203 q203; cases e203; replace p203 := eq_true p203; replace q203 := eq_true q203) | (go_at_call 42; (with_reducible refine (spec_allDigits.calls kj2 (rdOf ByteArray.empty l1 x5_1) t204 _ A10.out).mono ?_); rintro e w' ⟨rfl, ⟨nd, rfl⟩⟩; (try first | exact ⟨rfl, _, World.drewN_drewN _ _ _⟩ | exact ⟨rfl, _, Eq.trans (World.drewN_drewN _ _ _) (congrArg (World.drewN _) (Nat.add_assoc _ _ _))⟩)))
         repeat (go_quiet (first | (go_at_call 42; (with_reducible refine (spec_allDigits.calls kj2 (rdOf ByteArray.empty l0 x5_1) t202 _ A8.out).mono ?_); rintro e w' ⟨rfl, ⟨nd, rfl⟩⟩; (try first | exact ⟨rfl, _, World.drewN_drewN _ _ _⟩ | exact ⟨rfl, _, Eq.trans (World.drewN_drewN _ _ _) (congrArg (World.drewN _) (Nat.add_assoc _ _ _))⟩); have p203 : 0 ≤ (x5_1 : Int) := of_decide_eq_true (by first | (with_reducible assumption) | assumption); have q203 : x5_1 < (l1.length : Int) := of_decide_eq_true (by first | (with_reducible assumption) | assumption); obtain ⟨ad203, e203, hx203_0⟩ := Kd.at_string HR1.out x5_1 p203 q203; cases e203; replace p203 := eq_true p203; replace q203 := eq_true q203) | (go_at_call 42; (with_reducible refine (spec_allDigits.calls kj2 (rdOf ByteArray.empty l1 x5_1) t204 _ A10.out).mono ?_); rintro e w' ⟨rfl, ⟨nd, rfl⟩⟩; (try first | exact ⟨rfl, _, World.drewN_drewN _ _ _⟩ | exact ⟨rfl, _, Eq.trans (World.drewN_drewN _ _ _) (congrArg (World.drewN _) (Nat.add_assoc _ _ _))⟩))); go_upto_region 7 with (first | (go_at_call 42; (with_reducible refine (spec_allDigits.calls kj2 (rdOf ByteArray.empty l0 x5_1) t202 _ A8.out).mono ?_); rintro e w' ⟨rfl, ⟨nd, rfl⟩⟩; (try first | exact ⟨rfl, _, World.drewN_drewN _ _ _⟩ | exact ⟨rfl, _, Eq.trans (World.drewN_drewN _ _ _) (congrArg (World.drewN _) (Nat.add_assoc _ _ _))⟩); have p203 : 0 ≤ (x5_1 : Int) := of_decide_eq_true (by first | (with_reducible assumption) | assumption); have q203 : x5_1 < (l1.length : Int) := of_decide_eq_true (by first | (with_reducible assumption) | assumption); obtain ⟨ad203, e203, hx203_0⟩ := Kd.at_string HR1.out x5_1 p203 q203; cases e203; replace p203 := eq_true p203; replace q203 := eq_true q203) | (go_at_call 42; (with_reducible refine (spec_allDigits.calls kj2 (rdOf ByteArray.empty l1 x5_1) t204 _ A10.out).mono ?_); rintro e w' ⟨rfl, ⟨nd, rfl⟩⟩; (try first | exact ⟨rfl, _, World.drewN_drewN _ _ _⟩ | exact ⟨rfl, _, Eq.trans (World.drewN_drewN _ _ _) (congrArg (World.drewN _) (Nat.add_assoc _ _ _))⟩))))
         (try simp only [Act.put, List.setIfInBounds_toArray, List.set_cons_zero, List.set_cons_succ])
         go_cut [40] (fun v40 wc => ∃ (kq : Nat) (x40_10 : Bool), v40 = .bool x40_10 ∧ Aside0 (spec_PyPILocal.j2 kq l0 l1 x5_1 t202 t204 x40_10 = some r) ∧ Aside0 (kq ≤ kj2) ∧ Drawn0 w wc)
         case first =>
          have H := HC11.out
          clear HC11
          by_cases c12 : t202 = true
          ·subst c12
           have H1 : (spec_PyPILocal.j2 kj2 l0 l1 x5_1 true t204 t204) = some r := by rw [if_pos rfl] at H; exact H
           clear H
           have H := H1
           clear H1
           have H' := Aside0.mk H
           clear H
           go_wp2
           repeat (go_quiet (fail); try go_wp2)
           go_meet
           case rel => exact ⟨_, (t204), (by first | rfl | (simp; done) | (simp [*]; done)), H', ⟨by have := HK1.out; have := HJ2.out; first | omega | exact Nat.le_refl _⟩, by repeat (first | exact Drawn0.refl _ | apply Drawn0.step)⟩
          ·replace c12 := Bool.eq_false_iff.mpr c12
           subst c12
           have H1 : (spec_PyPILocal.j2 kj2 l0 l1 x5_1 false t204 false) = some r := by rw [if_neg (show ¬ (false = true) by decide)] at H; exact H
           clear H
           have H := H1
           clear H1
           have H' := Aside0.mk H
           clear H
           go_wp2
           repeat (go_quiet (fail); try go_wp2)
           go_meet
           case rel => exact ⟨_, (false), (by first | rfl | (simp; done) | (simp [*]; done)), H', ⟨by have := HK1.out; have := HJ2.out; first | omega | exact Nat.le_refl _⟩, by repeat (first | exact Drawn0.refl _ | apply Drawn0.step)⟩
         case rest =>
          clear HC11
          try clear c1
          try clear c2
          try clear p2
          try clear q2
          try clear hx2
          try clear c4
          try clear c4b0
          try clear c5
          try clear c6
          try clear c6b0
          try clear c7
          try clear c7b0
          try clear c9
          try clear c9b0
          try clear c12
          try clear hx201_0
          try clear hx203_0
          try clear p2
          try clear p201
          try clear p203
          try clear q201
          try clear q203
          obtain ⟨kq, x40_10, rfl, HA, HJ10, ⟨mc10, rfl⟩⟩ := hcut
          cases kq with
          | zero => exact absurd HA.out (by simp [spec_PyPILocal.j2])
          | succ kj10 =>
           have H := HA.out
           clear HA
           simp only [spec_PyPILocal.j2] at H
           by_cases c13 : x40_10 = true
           ·subst c13
            have H1 : (if 0 ≤ x5_1 then (if x5_1 < (l0.length : Int) then (if x5_1 < (l1.length : Int) then ((spec_orderNumbers.f kj10 (rdOf ByteArray.empty l0 x5_1) (rdOf ByteArray.empty l1 x5_1)).bind fun t207 => (if t207 = 0 then (spec_PyPILocal.l0 kj10 l0 l1 (wrap64 (x5_1 + 1))) else (some t207))) else (none)) else (none)) else (none)) = some r := by rw [if_pos rfl] at H; exact H
            clear H
            have H := H1
            clear H1
            by_cases c14 : 0 ≤ x5_1
            ·rw [if_pos c14] at H
             have c14b0 : decide (0 ≤ x5_1) = true := decide_eq_true c14
             clear c14
             by_cases c15 : x5_1 < (l0.length : Int)
             ·rw [if_pos c15] at H
              have c15b0 : decide (x5_1 < (l0.length : Int)) = true := decide_eq_true c15
              clear c15
              by_cases c16 : x5_1 < (l1.length : Int)
              ·rw [if_pos c16] at H
               have c16b0 : decide (x5_1 < (l1.length : Int)) = true := decide_eq_true c16
               clear c16
               replace H := Option.bind_eq_some_iff.mp H
               obtain ⟨t207, A170, H⟩ := H
               replace H : (if t207 = 0 then (spec_PyPILocal.l0 kj10 l0 l1 (wrap64 (x5_1 + 1))) else (some t207)) = some r := H
               have A17 := Aside0.mk A170
               clear A170
               by_cases c18 : t207 = 0
               ·rw [if_pos c18] at H
                have c18b0 : (t207 == 0) = true := beq_iff_eq.mpr c18
                have c18b1 : (t207 != 0) = false := bne_eq_false_iff_eq.mpr c18
                clear c18
                have H' := Aside0.mk H
                clear H
                have p205 : 0 ≤ (x5_1 : Int) := of_decide_eq_true (by first | (with_reducible assumption) | assumption)
                have q205 : x5_1 < (l0.length : Int) := of_decide_eq_true (by first | (with_reducible assumption) | assumption)
                obtain ⟨ad205, e205, hx205_0⟩ := Kd.at_string HR0.out x5_1 p205 q205
                obtain rfl : ad201 = ad205 := (by injection e205)
                replace p205 := eq_true p205
                replace q205 := eq_true q205
                have p206 : 0 ≤ (x5_1 : Int) := of_decide_eq_true (by first | (with_reducible assumption) | assumption)
                have q206 : x5_1 < (l1.length : Int) := of_decide_eq_true (by first | (with_reducible assumption) | assumption)
                obtain ⟨ad206, e206, hx206_0⟩ := Kd.at_string HR1.out x5_1 p206 q206
                obtain rfl : ad203 = ad206 := (by injection e206)
                replace p206 := eq_true p206
                replace q206 := eq_true q206
                go_wp2_with (first | (go_at_call 43; (with_reducible refine (spec_orderNumbers.calls kj10 (rdOf ByteArray.empty l0 x5_1) (rdOf ByteArray.empty l1 x5_1) t207 _ A17.out).mono ?_); rintro e w' ⟨rfl, ⟨nd, rfl⟩⟩; (try first | exact ⟨rfl, _, World.drewN_drewN _ _ _⟩ | exact ⟨rfl, _, Eq.trans (World.drewN_drewN _ _ _) (congrArg (World.drewN _) (Nat.add_assoc _ _ _))⟩)))
                repeat (go_quiet (first | (go_at_call 43; (with_reducible refine (spec_orderNumbers.calls kj10 (rdOf ByteArray.empty l0 x5_1) (rdOf ByteArray.empty l1 x5_1) t207 _ A17.out).mono ?_); rintro e w' ⟨rfl, ⟨nd, rfl⟩⟩; (try first | exact ⟨rfl, _, World.drewN_drewN _ _ _⟩ | exact ⟨rfl, _, Eq.trans (World.drewN_drewN _ _ _) (congrArg (World.drewN _) (Nat.add_assoc _ _ _))⟩))); try go_wp2_with (first | (go_at_call 43; (with_reducible refine (spec_orderNumbers.calls kj10 (rdOf ByteArray.empty l0 x5_1) (rdOf ByteArray.empty l1 x5_1) t207 _ A17.out).mono ?_); rintro e w' ⟨rfl, ⟨nd, rfl⟩⟩; (try first | exact ⟨rfl, _, World.drewN_drewN _ _ _⟩ | exact ⟨rfl, _, Eq.trans (World.drewN_drewN _ _ _) (congrArg (World.drewN _) (Nat.add_assoc _ _ _))⟩))))
                go_roundg kj10
                case measure => have := HK1.out; have := HJ2.out; have := HJ10.out; omega
                case rel => exact ⟨(wrap64 (x5_1 + 1)), (by first | rfl | (simp; done) | (simp [*]; done)), H', ⟨by have := HK1.out; have := HJ2.out; have := HJ10.out; omega⟩, by repeat (first | exact Drawn0.refl _ | apply Drawn0.step)⟩
               ·rw [if_neg c18] at H
                have c18b0 : (t207 == 0) = false := beq_eq_false_iff_ne.mpr c18
                have c18b1 : (t207 != 0) = true := bne_iff_ne.mpr c18
                obtain rfl := Option.some.inj H
                have p205 : 0 ≤ (x5_1 : Int) := of_decide_eq_true (by first | (with_reducible assumption) | assumption)
                have q205 : x5_1 < (l0.length : Int) := of_decide_eq_true (by first | (with_reducible assumption) | assumption)
                obtain ⟨ad205, e205, hx205_0⟩ := Kd.at_string HR0.out x5_1 p205 q205
                obtain rfl : ad201 = ad205 := (by injection e205)
                replace p205 := eq_true p205
                replace q205 := eq_true q205
                have p206 : 0 ≤ (x5_1 : Int) := of_decide_eq_true (by first | (with_reducible assumption) | assumption)
                have q206 : x5_1 < (l1.length : Int) := of_decide_eq_true (by first | (with_reducible assumption) | assumption)
                obtain ⟨ad206, e206, hx206_0⟩ := Kd.at_string HR1.out x5_1 p206 q206
                obtain rfl : ad203 = ad206 := (by injection e206)
                replace p206 := eq_true p206
                replace q206 := eq_true q206
                go_wp2_with (first | (go_at_call 43; (with_reducible refine (spec_orderNumbers.calls kj10 (rdOf ByteArray.empty l0 x5_1) (rdOf ByteArray.empty l1 x5_1) t207 _ A17.out).mono ?_); rintro e w' ⟨rfl, ⟨nd, rfl⟩⟩; (try first | exact ⟨rfl, _, World.drewN_drewN _ _ _⟩ | exact ⟨rfl, _, Eq.trans (World.drewN_drewN _ _ _) (congrArg (World.drewN _) (Nat.add_assoc _ _ _))⟩)))
                repeat (go_quiet (first | (go_at_call 43; (with_reducible refine (spec_orderNumbers.calls kj10 (rdOf ByteArray.empty l0 x5_1) (rdOf ByteArray.empty l1 x5_1) t207 _ A17.out).mono ?_); rintro e w' ⟨rfl, ⟨nd, rfl⟩⟩; (try first | exact ⟨rfl, _, World.drewN_drewN _ _ _⟩ | exact ⟨rfl, _, Eq.trans (World.drewN_drewN _ _ _) (congrArg (World.drewN _) (Nat.add_assoc _ _ _))⟩))); try go_wp2_with (first | (go_at_call 43; (with_reducible refine (spec_orderNumbers.calls kj10 (rdOf ByteArray.empty l0 x5_1) (rdOf ByteArray.empty l1 x5_1) t207 _ A17.out).mono ?_); rintro e w' ⟨rfl, ⟨nd, rfl⟩⟩; (try first | exact ⟨rfl, _, World.drewN_drewN _ _ _⟩ | exact ⟨rfl, _, Eq.trans (World.drewN_drewN _ _ _) (congrArg (World.drewN _) (Nat.add_assoc _ _ _))⟩))))
                go_ret
                exact ⟨by first | rfl | (simp; done) | (simp [*]; done), by repeat (first | exact Drawn0.refl _ | apply Drawn0.step)⟩
              ·rw [if_neg c16] at H
               exact absurd H (by simp)
             ·rw [if_neg c15] at H
              exact absurd H (by simp)
            ·rw [if_neg c14] at H
             exact absurd H (by simp)
           ·replace c13 := Bool.eq_false_iff.mpr c13
            subst c13
            have H1 : (if t202 = true then (if 1 = 0 then (spec_PyPILocal.l0 kj10 l0 l1 (wrap64 (x5_1 + 1))) else (some 1)) else (if t204 = true then (if (-1) = 0 then (spec_PyPILocal.l0 kj10 l0 l1 (wrap64 (x5_1 + 1))) else (some (-1))) else (if 0 ≤ x5_1 then (if x5_1 < (l0.length : Int) then (if x5_1 < (l1.length : Int) then ((spec_order.f (rdOf ByteArray.empty l0 x5_1) (rdOf ByteArray.empty l1 x5_1)).bind fun t210 => (if t210 = 0 then (spec_PyPILocal.l0 kj10 l0 l1 (wrap64 (x5_1 + 1))) else (some t210))) else (none)) else (none)) else (none)))) = some r := by rw [if_neg (show ¬ (false = true) by decide)] at H; exact H
            clear H
            have H := H1
            clear H1
            by_cases c19 : t202 = true
            ·subst c19
             have H1 : (if 1 = 0 then (spec_PyPILocal.l0 kj10 l0 l1 (wrap64 (x5_1 + 1))) else (some 1)) = some r := by rw [if_pos rfl] at H; exact H
             clear H
             have H := H1
             clear H1
             by_cases c20 : 1 = 0
             ·exact absurd c20 (by decide)
             ·rw [if_neg c20] at H
              have c20b0 : (1 == 0) = false := beq_eq_false_iff_ne.mpr c20
              have c20b1 : (1 != 0) = true := bne_iff_ne.mpr c20
              obtain rfl := Option.some.inj H
              go_wp2
              repeat (go_quiet (fail); try go_wp2)
              go_ret
              exact ⟨by first | rfl | (simp; done) | (simp [*]; done), by repeat (first | exact Drawn0.refl _ | apply Drawn0.step)⟩
            ·replace c19 := Bool.eq_false_iff.mpr c19
             subst c19
             have H1 : (if t204 = true then (if (-1) = 0 then (spec_PyPILocal.l0 kj10 l0 l1 (wrap64 (x5_1 + 1))) else (some (-1))) else (if 0 ≤ x5_1 then (if x5_1 < (l0.length : Int) then (if x5_1 < (l1.length : Int) then ((spec_order.f (rdOf ByteArray.empty l0 x5_1) (rdOf ByteArray.empty l1 x5_1)).bind fun t210 => (if t210 = 0 then (spec_PyPILocal.l0 kj10 l0 l1 (wrap64 (x5_1 + 1))) else (some t210))) else (none)) else (none)) else (none))) = some r := by rw [if_neg (show ¬ (false = true) by decide)] at H; exact H
             clear H
             have H := H1
             clear H1
             by_cases c21 : t204 = true
             ·subst c21
              have H1 : (if (-1) = 0 then (spec_PyPILocal.l0 kj10 l0 l1 (wrap64 (x5_1 + 1))) else (some (-1))) = some r := by rw [if_pos rfl] at H; exact H
              clear H
              have H := H1
              clear H1
              by_cases c22 : (-1) = 0
              ·exact absurd c22 (by decide)
              ·rw [if_neg c22] at H
               have c22b0 : ((-1) == 0) = false := beq_eq_false_iff_ne.mpr c22
               have c22b1 : ((-1) != 0) = true := bne_iff_ne.mpr c22
               obtain rfl := Option.some.inj H
               go_wp2
               repeat (go_quiet (fail); try go_wp2)
               go_ret
               exact ⟨by first | rfl | (simp; done) | (simp [*]; done), by repeat (first | exact Drawn0.refl _ | apply Drawn0.step)⟩
             ·replace c21 := Bool.eq_false_iff.mpr c21
              subst c21
              have H1 : (if 0 ≤ x5_1 then (if x5_1 < (l0.length : Int) then (if x5_1 < (l1.length : Int) then ((spec_order.f (rdOf ByteArray.empty l0 x5_1) (rdOf ByteArray.empty l1 x5_1)).bind fun t210 => (if t210 = 0 then (spec_PyPILocal.l0 kj10 l0 l1 (wrap64 (x5_1 + 1))) else (some t210))) else (none)) else (none)) else (none)) = some r := by rw [if_neg (show ¬ (false = true) by decide)] at H; exact H
              clear H
              have H := H1
              clear H1
              by_cases c23 : 0 ≤ x5_1
              ·rw [if_pos c23] at H
               have c23b0 : decide (0 ≤ x5_1) = true := decide_eq_true c23
               clear c23
               by_cases c24 : x5_1 < (l0.length : Int)
               ·rw [if_pos c24] at H
                have c24b0 : decide (x5_1 < (l0.length : Int)) = true := decide_eq_true c24
                clear c24
                by_cases c25 : x5_1 < (l1.length : Int)
                ·rw [if_pos c25] at H
                 have c25b0 : decide (x5_1 < (l1.length : Int)) = true := decide_eq_true c25
                 clear c25
                 replace H := Option.bind_eq_some_iff.mp H
                 obtain ⟨t210, A260, H⟩ := H
                 replace H : (if t210 = 0 then (spec_PyPILocal.l0 kj10 l0 l1 (wrap64 (x5_1 + 1))) else (some t210)) = some r := H
                 have A26 := Aside0.mk A260
                 clear A260
                 by_cases c27 : t210 = 0
                 ·rw [if_pos c27] at H
                  have c27b0 : (t210 == 0) = true := beq_iff_eq.mpr c27
                  have c27b1 : (t210 != 0) = false := bne_eq_false_iff_eq.mpr c27
                  clear c27
                  have H' := Aside0.mk H
                  clear H
                  have p208 : 0 ≤ (x5_1 : Int) := of_decide_eq_true (by first | (with_reducible assumption) | assumption)
                  have q208 : x5_1 < (l0.length : Int) := of_decide_eq_true (by first | (with_reducible assumption) | assumption)
                  obtain ⟨ad208, e208, hx208_0⟩ := Kd.at_string HR0.out x5_1 p208 q208
                  obtain rfl : ad201 = ad208 := (by injection e208)
                  replace p208 := eq_true p208
                  replace q208 := eq_true q208
                  have p209 : 0 ≤ (x5_1 : Int) := of_decide_eq_true (by first | (with_reducible assumption) | assumption)
                  have q209 : x5_1 < (l1.length : Int) := of_decide_eq_true (by first | (with_reducible assumption) | assumption)
                  obtain ⟨ad209, e209, hx209_0⟩ := Kd.at_string HR1.out x5_1 p209 q209
                  obtain rfl : ad203 = ad209 := (by injection e209)
                  replace p209 := eq_true p209
                  replace q209 := eq_true q209
                  go_wp2_with (first | (go_at_call 39; (with_reducible refine (spec_order.calls (rdOf ByteArray.empty l0 x5_1) (rdOf ByteArray.empty l1 x5_1) t210 _ A26.out).mono ?_); rintro e w' ⟨rfl, ⟨nd, rfl⟩⟩; (try first | exact ⟨rfl, _, World.drewN_drewN _ _ _⟩ | exact ⟨rfl, _, Eq.trans (World.drewN_drewN _ _ _) (congrArg (World.drewN _) (Nat.add_assoc _ _ _))⟩)))
                  repeat (go_quiet (first | (go_at_call 39; (with_reducible refine (spec_order.calls (rdOf ByteArray.empty l0 x5_1) (rdOf ByteArray.empty l1 x5_1) t210 _ A26.out).mono ?_); rintro e w' ⟨rfl, ⟨nd, rfl⟩⟩; (try first | exact ⟨rfl, _, World.drewN_drewN _ _ _⟩ | exact ⟨rfl, _, Eq.trans (World.drewN_drewN _ _ _) (congrArg (World.drewN _) (Nat.add_assoc _ _ _))⟩))); try go_wp2_with (first | (go_at_call 39; (with_reducible refine (spec_order.calls (rdOf ByteArray.empty l0 x5_1) (rdOf ByteArray.empty l1 x5_1) t210 _ A26.out).mono ?_); rintro e w' ⟨rfl, ⟨nd, rfl⟩⟩; (try first | exact ⟨rfl, _, World.drewN_drewN _ _ _⟩ | exact ⟨rfl, _, Eq.trans (World.drewN_drewN _ _ _) (congrArg (World.drewN _) (Nat.add_assoc _ _ _))⟩))))
                  go_roundg kj10
                  case measure => have := HK1.out; have := HJ2.out; have := HJ10.out; omega
                  case rel => exact ⟨(wrap64 (x5_1 + 1)), (by first | rfl | (simp; done) | (simp [*]; done)), H', ⟨by have := HK1.out; have := HJ2.out; have := HJ10.out; omega⟩, by repeat (first | exact Drawn0.refl _ | apply Drawn0.step)⟩
                 ·rw [if_neg c27] at H
                  have c27b0 : (t210 == 0) = false := beq_eq_false_iff_ne.mpr c27
                  have c27b1 : (t210 != 0) = true := bne_iff_ne.mpr c27
                  obtain rfl := Option.some.inj H
                  have p208 : 0 ≤ (x5_1 : Int) := of_decide_eq_true (by first | (with_reducible assumption) | assumption)
                  have q208 : x5_1 < (l0.length : Int) := of_decide_eq_true (by first | (with_reducible assumption) | assumption)
                  obtain ⟨ad208, e208, hx208_0⟩ := Kd.at_string HR0.out x5_1 p208 q208
                  obtain rfl : ad201 = ad208 := (by injection e208)
                  replace p208 := eq_true p208
                  replace q208 := eq_true q208
                  have p209 : 0 ≤ (x5_1 : Int) := of_decide_eq_true (by first | (with_reducible assumption) | assumption)
                  have q209 : x5_1 < (l1.length : Int) := of_decide_eq_true (by first | (with_reducible assumption) | assumption)
                  obtain ⟨ad209, e209, hx209_0⟩ := Kd.at_string HR1.out x5_1 p209 q209
                  obtain rfl : ad203 = ad209 := (by injection e209)
                  replace p209 := eq_true p209
                  replace q209 := eq_true q209
                  go_wp2_with (first | (go_at_call 39; (with_reducible refine (spec_order.calls (rdOf ByteArray.empty l0 x5_1) (rdOf ByteArray.empty l1 x5_1) t210 _ A26.out).mono ?_); rintro e w' ⟨rfl, ⟨nd, rfl⟩⟩; (try first | exact ⟨rfl, _, World.drewN_drewN _ _ _⟩ | exact ⟨rfl, _, Eq.trans (World.drewN_drewN _ _ _) (congrArg (World.drewN _) (Nat.add_assoc _ _ _))⟩)))
                  repeat (go_quiet (first | (go_at_call 39; (with_reducible refine (spec_order.calls (rdOf ByteArray.empty l0 x5_1) (rdOf ByteArray.empty l1 x5_1) t210 _ A26.out).mono ?_); rintro e w' ⟨rfl, ⟨nd, rfl⟩⟩; (try first | exact ⟨rfl, _, World.drewN_drewN _ _ _⟩ | exact ⟨rfl, _, Eq.trans (World.drewN_drewN _ _ _) (congrArg (World.drewN _) (Nat.add_assoc _ _ _))⟩))); try go_wp2_with (first | (go_at_call 39; (with_reducible refine (spec_order.calls (rdOf ByteArray.empty l0 x5_1) (rdOf ByteArray.empty l1 x5_1) t210 _ A26.out).mono ?_); rintro e w' ⟨rfl, ⟨nd, rfl⟩⟩; (try first | exact ⟨rfl, _, World.drewN_drewN _ _ _⟩ | exact ⟨rfl, _, Eq.trans (World.drewN_drewN _ _ _) (congrArg (World.drewN _) (Nat.add_assoc _ _ _))⟩))))
                  go_ret
                  exact ⟨by first | rfl | (simp; done) | (simp [*]; done), by repeat (first | exact Drawn0.refl _ | apply Drawn0.step)⟩
                ·rw [if_neg c25] at H
                 exact absurd H (by simp)
               ·rw [if_neg c24] at H
                exact absurd H (by simp)
              ·rw [if_neg c23] at H
               exact absurd H (by simp)
        ·rw [if_neg c9] at H
         exact absurd H (by simp)
       ·rw [if_neg c7] at H
        exact absurd H (by simp)
      ·rw [if_neg c6] at H
       exact absurd H (by simp)
     ·replace c5 := Bool.eq_false_iff.mpr c5
      subst c5
      have H1 : ((spec_orderInts.f (l0.length : Int) (l1.length : Int)).bind fun t200 => (some t200)) = some r := by rw [if_neg (show ¬ (false = true) by decide)] at H; exact H
      clear H
      have H := H1
      clear H1
      replace H := Option.bind_eq_some_iff.mp H
      obtain ⟨t200, A280, H⟩ := H
      replace H : (some t200) = some r := H
      have A28 := Aside0.mk A280
      clear A280
      obtain rfl := Option.some.inj H
      go_wp2_with (first | (go_at_call 38; (with_reducible refine (spec_orderInts.calls (l0.length : Int) (l1.length : Int) t200 _ A28.out).mono ?_); rintro e w' ⟨rfl, ⟨nd, rfl⟩⟩; (try first | exact ⟨rfl, _, World.drewN_drewN _ _ _⟩ | exact ⟨rfl, _, Eq.trans (World.drewN_drewN _ _ _) (congrArg (World.drewN _) (Nat.add_assoc _ _ _))⟩)))
      repeat (go_quiet (first | (go_at_call 38; (with_reducible refine (spec_orderInts.calls (l0.length : Int) (l1.length : Int) t200 _ A28.out).mono ?_); rintro e w' ⟨rfl, ⟨nd, rfl⟩⟩; (try first | exact ⟨rfl, _, World.drewN_drewN _ _ _⟩ | exact ⟨rfl, _, Eq.trans (World.drewN_drewN _ _ _) (congrArg (World.drewN _) (Nat.add_assoc _ _ _))⟩))); try go_wp2_with (first | (go_at_call 38; (with_reducible refine (spec_orderInts.calls (l0.length : Int) (l1.length : Int) t200 _ A28.out).mono ?_); rintro e w' ⟨rfl, ⟨nd, rfl⟩⟩; (try first | exact ⟨rfl, _, World.drewN_drewN _ _ _⟩ | exact ⟨rfl, _, Eq.trans (World.drewN_drewN _ _ _) (congrArg (World.drewN _) (Nat.add_assoc _ _ _))⟩))))
      go_ret
      exact ⟨by first | rfl | (simp; done) | (simp [*]; done), by repeat (first | exact Drawn0.refl _ | apply Drawn0.step)⟩

end Go.Proofs.YtipfmkfpaglkkaaGreatDoor.Z
