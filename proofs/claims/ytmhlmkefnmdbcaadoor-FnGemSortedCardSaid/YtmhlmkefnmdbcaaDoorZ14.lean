-- Written by a program of this session (myprint.py).
import Derived.Test.YtmhlmkefnmdbcaaDoorZ0
import Derived.Test.YtmhlmkefnmdbcaaDoorZ1
import Derived.Test.YtmhlmkefnmdbcaaDoorZ2
import Derived.Test.YtmhlmkefnmdbcaaDoorZ11
import Derived.Test.YtmhlmkefnmdbcaaDoorZ13
import Derived.Test.YtmhlmkefnmdbcaaDoorGe
import Derived.Test.YtmhlmkefnmdbcaaDoorAf
namespace Go.Proofs.YtmhlmkefnmdbcaaDoor.Z
open Go.Proofs.YtmhlmkefnmdbcaaDoor.Gw
open Go.RowKit Go.Proofs.YtmhlmkefnmdbcaaDoorW.PrintWords Go.Proofs.YtmhlmkefnmdbcaaDoorW.PrintLast Go.Proofs.YtmhlmkefnmdbcaaDoorW.PrintMore
attribute [local go_sem high] Go.Proofs.YtmhlmkefnmdbcaaDoor.Ge.gtr_str
attribute [local go_sem] max2_int min2_int max_two min_two max_three min_three max_four min_four   -- for this text's walks alone
set_option linter.unusedVariables false
set_option linter.unusedSimpArgs false

/-! ### laws_FnGemSorted: function 7 -/
mutual
def laws_FnGemSorted.j0 : Nat → List ByteArray → Bool → Option (Bool)
 | 0, _, _ => none
 | k + 1, x0, x23 => if x23 = true then (some true) else (laws_FnGemSorted.l0 k x0 x0 (x0.length : Int) 0)
def laws_FnGemSorted.l0 : Nat → List ByteArray → List ByteArray → Int → Int → Option (Bool)
 | 0, _, _, _, _ => none
 | k + 1, x0, x24, x25, x26 => if x26 < x25 then (if 0 ≤ x26 then (if x26 < (x24.length : Int) then ((spec_GemValid.f k (rdOf ByteArray.empty x24 x26)).bind fun t271 => (if t271 = true then (laws_FnGemSorted.l0 k x0 x24 x25 (wrap64 (x26 + 1))) else (some true))) else (none)) else (none)) else (laws_FnGemSorted.l1 k ([] : List ByteArray) x0 (x0.length : Int) 0)
def laws_FnGemSorted.l1 : Nat → List ByteArray → List ByteArray → Int → Int → Option (Bool)
 | 0, _, _, _, _ => none
 | k + 1, x5, x34, x35, x36 => if x36 < x35 then (if 0 ≤ x36 then (if x36 < (x34.length : Int) then (laws_FnGemSorted.l2 k x5 (rdOf ByteArray.empty x34 x36) 0 x34 x35 x36) else (none)) else (none)) else (laws_FnGemSorted.l3 k x5 (x5.length : Int) 0)
def laws_FnGemSorted.l2 : Nat → List ByteArray → ByteArray → Int → List ByteArray → Int → Int → Option (Bool)
 | 0, _, _, _, _, _, _ => none
 | k + 1, x5, x7, x8, x34, x35, x36 => if x8 < (x5.length : Int) then (if 0 ≤ x8 then ((impl_RubyCompare.f k (rdOf ByteArray.empty x5 x8) x7).bind fun bt291 => (if bt291.2 = true then (if bt291.1 > 0 then (if x8 ≤ (x5.length : Int) then ((some (x5.take (x8 : Int).toNat : List ByteArray)).bind fun y293 => ((some (([x7] : List ByteArray) : List ByteArray)).bind fun y297 => ((some (x5.drop (x8 : Int).toNat : List ByteArray)).bind fun y300 => (if y297.length + y300.length < 8796093022208 then ((some (y297 ++ y300 : List ByteArray)).bind fun y304 => (if 0 < y304.length then (if y293.length + y304.length < 8796093022208 then (laws_FnGemSorted.l1 k (y293 ++ y304) x34 x35 (wrap64 (x36 + 1))) else (none)) else (none))) else (none))))) else (none)) else (laws_FnGemSorted.l2 k x5 x7 (wrap64 (x8 + 1)) x34 x35 x36)) else (some false))) else (none)) else (if 0 ≤ x8 then (if x8 ≤ (x5.length : Int) then ((some (x5.take (x8 : Int).toNat : List ByteArray)).bind fun y273 => ((some (([x7] : List ByteArray) : List ByteArray)).bind fun y277 => ((some (x5.drop (x8 : Int).toNat : List ByteArray)).bind fun y280 => (if y277.length + y280.length < 8796093022208 then ((some (y277 ++ y280 : List ByteArray)).bind fun y284 => (if 0 < y284.length then (if y273.length + y284.length < 8796093022208 then (laws_FnGemSorted.l1 k (y273 ++ y284) x34 x35 (wrap64 (x36 + 1))) else (none)) else (none))) else (none))))) else (none)) else (none))
def laws_FnGemSorted.l3 : Nat → List ByteArray → Int → Int → Option (Bool)
 | 0, _, _, _ => none
 | k + 1, x5, x72, x73 => if x73 < x72 then (laws_FnGemSorted.l4 k x5 x73 (wrap64 (x73 + 1)) x72 x73) else (some true)
def laws_FnGemSorted.l4 : Nat → List ByteArray → Int → Int → Int → Int → Option (Bool)
 | 0, _, _, _, _, _ => none
 | k + 1, x5, x11, x12, x72, x73 => if x12 < (x5.length : Int) then (if 0 ≤ x11 then (if x11 < (x5.length : Int) then (if 0 ≤ x12 then ((spec_GemCompare.f k (rdOf ByteArray.empty x5 x11) (rdOf ByteArray.empty x5 x12)).bind fun t312 => (if t312 > 0 then (some false) else (laws_FnGemSorted.l4 k x5 x11 (wrap64 (x12 + 1)) x72 x73))) else (none)) else (none)) else (none)) else (laws_FnGemSorted.l3 k x5 x72 (wrap64 (x73 + 1)))
end
def laws_FnGemSorted.f (k : Nat) (l0 : List ByteArray) : Option (Bool) := (laws_zzFits1.f k l0).bind fun t268 => (if t268 = true then (if (l0.length : Int) > 14 then (laws_FnGemSorted.j0 k l0 true) else ((laws_short.f k l0).bind fun t269 => (laws_FnGemSorted.j0 k l0 (!t269)))) else (some true))
theorem laws_FnGemSorted.mono_l : ∀ k, (∀ y0 y1, LeO (laws_FnGemSorted.j0 k y0 y1) (laws_FnGemSorted.j0 (k + 1) y0 y1)) ∧ (∀ y0 y1 y2 y3, LeO (laws_FnGemSorted.l0 k y0 y1 y2 y3) (laws_FnGemSorted.l0 (k + 1) y0 y1 y2 y3)) ∧ (∀ y0 y1 y2 y3, LeO (laws_FnGemSorted.l1 k y0 y1 y2 y3) (laws_FnGemSorted.l1 (k + 1) y0 y1 y2 y3)) ∧ (∀ y0 y1 y2 y3 y4 y5, LeO (laws_FnGemSorted.l2 k y0 y1 y2 y3 y4 y5) (laws_FnGemSorted.l2 (k + 1) y0 y1 y2 y3 y4 y5)) ∧ (∀ y0 y1 y2, LeO (laws_FnGemSorted.l3 k y0 y1 y2) (laws_FnGemSorted.l3 (k + 1) y0 y1 y2)) ∧ (∀ y0 y1 y2 y3 y4, LeO (laws_FnGemSorted.l4 k y0 y1 y2 y3 y4) (laws_FnGemSorted.l4 (k + 1) y0 y1 y2 y3 y4))
 | 0 => ⟨fun _ _ r h => by simp [laws_FnGemSorted.j0] at h, fun _ _ _ _ r h => by simp [laws_FnGemSorted.l0] at h, fun _ _ _ _ r h => by simp [laws_FnGemSorted.l1] at h, fun _ _ _ _ _ _ r h => by simp [laws_FnGemSorted.l2] at h, fun _ _ _ r h => by simp [laws_FnGemSorted.l3] at h, fun _ _ _ _ _ r h => by simp [laws_FnGemSorted.l4] at h⟩
 | k + 1 => by
  obtain ⟨ih0, ih1, ih2, ih3, ih4, ih5⟩ := laws_FnGemSorted.mono_l k
  refine ⟨?_, ?_, ?_, ?_, ?_, ?_⟩
  ·intro y0 y1
   unfold laws_FnGemSorted.j0
   repeat' first
   | (with_reducible exact ih0 _ _)
   | (with_reducible exact ih1 _ _ _ _)
   | (with_reducible exact ih2 _ _ _ _)
   | (with_reducible exact ih3 _ _ _ _ _ _)
   | (with_reducible exact ih4 _ _ _)
   | (with_reducible exact ih5 _ _ _ _ _)
   | (with_reducible exact impl_RubyCompare.mono _ _ _)
   | (with_reducible exact laws_short.mono _ _)
   | (with_reducible exact laws_zzFits1.mono _ _)
   | (with_reducible exact spec_GemCompare.mono _ _ _)
   | (with_reducible exact spec_GemValid.mono _ _)
   | (with_reducible exact LeO.refl _)
   | (with_reducible exact LeO.none _)
   | (with_reducible refine LeO.ite ?_ ?_)
   | (with_reducible refine LeO.bind ?_ (fun _ => ?_))
   | exact ih0 _ _
   | exact ih1 _ _ _ _
   | exact ih2 _ _ _ _
   | exact ih3 _ _ _ _ _ _
   | exact ih4 _ _ _
   | exact ih5 _ _ _ _ _
   | exact impl_RubyCompare.mono _ _ _
   | exact laws_short.mono _ _
   | exact laws_zzFits1.mono _ _
   | exact spec_GemCompare.mono _ _ _
   | exact spec_GemValid.mono _ _
   | exact LeO.none _
   | refine LeO.ite ?_ ?_
   | refine LeO.bind ?_ (fun _ => ?_)
  ·intro y0 y1 y2 y3
   unfold laws_FnGemSorted.l0
   repeat' first
   | (with_reducible exact ih0 _ _)
   | (with_reducible exact ih1 _ _ _ _)
   | (with_reducible exact ih2 _ _ _ _)
   | (with_reducible exact ih3 _ _ _ _ _ _)
   | (with_reducible exact ih4 _ _ _)
   | (with_reducible exact ih5 _ _ _ _ _)
   | (with_reducible exact impl_RubyCompare.mono _ _ _)
   | (with_reducible exact laws_short.mono _ _)
   | (with_reducible exact laws_zzFits1.mono _ _)
   | (with_reducible exact spec_GemCompare.mono _ _ _)
   | (with_reducible exact spec_GemValid.mono _ _)
   | (with_reducible exact LeO.refl _)
   | (with_reducible exact LeO.none _)
   | (with_reducible refine LeO.ite ?_ ?_)
   | (with_reducible refine LeO.bind ?_ (fun _ => ?_))
   | exact ih0 _ _
   | exact ih1 _ _ _ _
   | exact ih2 _ _ _ _
   | exact ih3 _ _ _ _ _ _
   | exact ih4 _ _ _
   | exact ih5 _ _ _ _ _
   | exact impl_RubyCompare.mono _ _ _
   | exact laws_short.mono _ _
   | exact laws_zzFits1.mono _ _
   | exact spec_GemCompare.mono _ _ _
   | exact spec_GemValid.mono _ _
   | exact LeO.none _
   | refine LeO.ite ?_ ?_
   | refine LeO.bind ?_ (fun _ => ?_)
  ·intro y0 y1 y2 y3
   unfold laws_FnGemSorted.l1
   repeat' first
   | (with_reducible exact ih0 _ _)
   | (with_reducible exact ih1 _ _ _ _)
   | (with_reducible exact ih2 _ _ _ _)
   | (with_reducible exact ih3 _ _ _ _ _ _)
   | (with_reducible exact ih4 _ _ _)
   | (with_reducible exact ih5 _ _ _ _ _)
   | (with_reducible exact impl_RubyCompare.mono _ _ _)
   | (with_reducible exact laws_short.mono _ _)
   | (with_reducible exact laws_zzFits1.mono _ _)
   | (with_reducible exact spec_GemCompare.mono _ _ _)
   | (with_reducible exact spec_GemValid.mono _ _)
   | (with_reducible exact LeO.refl _)
   | (with_reducible exact LeO.none _)
   | (with_reducible refine LeO.ite ?_ ?_)
   | (with_reducible refine LeO.bind ?_ (fun _ => ?_))
   | exact ih0 _ _
   | exact ih1 _ _ _ _
   | exact ih2 _ _ _ _
   | exact ih3 _ _ _ _ _ _
   | exact ih4 _ _ _
   | exact ih5 _ _ _ _ _
   | exact impl_RubyCompare.mono _ _ _
   | exact laws_short.mono _ _
   | exact laws_zzFits1.mono _ _
   | exact spec_GemCompare.mono _ _ _
   | exact spec_GemValid.mono _ _
   | exact LeO.none _
   | refine LeO.ite ?_ ?_
   | refine LeO.bind ?_ (fun _ => ?_)
  ·intro y0 y1 y2 y3 y4 y5
   unfold laws_FnGemSorted.l2
   repeat' first
   | (with_reducible exact ih0 _ _)
   | (with_reducible exact ih1 _ _ _ _)
   | (with_reducible exact ih2 _ _ _ _)
   | (with_reducible exact ih3 _ _ _ _ _ _)
   | (with_reducible exact ih4 _ _ _)
   | (with_reducible exact ih5 _ _ _ _ _)
   | (with_reducible exact impl_RubyCompare.mono _ _ _)
   | (with_reducible exact laws_short.mono _ _)
   | (with_reducible exact laws_zzFits1.mono _ _)
   | (with_reducible exact spec_GemCompare.mono _ _ _)
   | (with_reducible exact spec_GemValid.mono _ _)
   | (with_reducible exact LeO.refl _)
   | (with_reducible exact LeO.none _)
   | (with_reducible refine LeO.ite ?_ ?_)
   | (with_reducible refine LeO.bind ?_ (fun _ => ?_))
   | exact ih0 _ _
   | exact ih1 _ _ _ _
   | exact ih2 _ _ _ _
   | exact ih3 _ _ _ _ _ _
   | exact ih4 _ _ _
   | exact ih5 _ _ _ _ _
   | exact impl_RubyCompare.mono _ _ _
   | exact laws_short.mono _ _
   | exact laws_zzFits1.mono _ _
   | exact spec_GemCompare.mono _ _ _
   | exact spec_GemValid.mono _ _
   | exact LeO.none _
   | refine LeO.ite ?_ ?_
   | refine LeO.bind ?_ (fun _ => ?_)
  ·intro y0 y1 y2
   unfold laws_FnGemSorted.l3
   repeat' first
   | (with_reducible exact ih0 _ _)
   | (with_reducible exact ih1 _ _ _ _)
   | (with_reducible exact ih2 _ _ _ _)
   | (with_reducible exact ih3 _ _ _ _ _ _)
   | (with_reducible exact ih4 _ _ _)
   | (with_reducible exact ih5 _ _ _ _ _)
   | (with_reducible exact impl_RubyCompare.mono _ _ _)
   | (with_reducible exact laws_short.mono _ _)
   | (with_reducible exact laws_zzFits1.mono _ _)
   | (with_reducible exact spec_GemCompare.mono _ _ _)
   | (with_reducible exact spec_GemValid.mono _ _)
   | (with_reducible exact LeO.refl _)
   | (with_reducible exact LeO.none _)
   | (with_reducible refine LeO.ite ?_ ?_)
   | (with_reducible refine LeO.bind ?_ (fun _ => ?_))
   | exact ih0 _ _
   | exact ih1 _ _ _ _
   | exact ih2 _ _ _ _
   | exact ih3 _ _ _ _ _ _
   | exact ih4 _ _ _
   | exact ih5 _ _ _ _ _
   | exact impl_RubyCompare.mono _ _ _
   | exact laws_short.mono _ _
   | exact laws_zzFits1.mono _ _
   | exact spec_GemCompare.mono _ _ _
   | exact spec_GemValid.mono _ _
   | exact LeO.none _
   | refine LeO.ite ?_ ?_
   | refine LeO.bind ?_ (fun _ => ?_)
  ·intro y0 y1 y2 y3 y4
   unfold laws_FnGemSorted.l4
   repeat' first
   | (with_reducible exact ih0 _ _)
   | (with_reducible exact ih1 _ _ _ _)
   | (with_reducible exact ih2 _ _ _ _)
   | (with_reducible exact ih3 _ _ _ _ _ _)
   | (with_reducible exact ih4 _ _ _)
   | (with_reducible exact ih5 _ _ _ _ _)
   | (with_reducible exact impl_RubyCompare.mono _ _ _)
   | (with_reducible exact laws_short.mono _ _)
   | (with_reducible exact laws_zzFits1.mono _ _)
   | (with_reducible exact spec_GemCompare.mono _ _ _)
   | (with_reducible exact spec_GemValid.mono _ _)
   | (with_reducible exact LeO.refl _)
   | (with_reducible exact LeO.none _)
   | (with_reducible refine LeO.ite ?_ ?_)
   | (with_reducible refine LeO.bind ?_ (fun _ => ?_))
   | exact ih0 _ _
   | exact ih1 _ _ _ _
   | exact ih2 _ _ _ _
   | exact ih3 _ _ _ _ _ _
   | exact ih4 _ _ _
   | exact ih5 _ _ _ _ _
   | exact impl_RubyCompare.mono _ _ _
   | exact laws_short.mono _ _
   | exact laws_zzFits1.mono _ _
   | exact spec_GemCompare.mono _ _ _
   | exact spec_GemValid.mono _ _
   | exact LeO.none _
   | refine LeO.ite ?_ ?_
   | refine LeO.bind ?_ (fun _ => ?_)
theorem laws_FnGemSorted.mono : ∀ a0 k, LeO (laws_FnGemSorted.f k a0) (laws_FnGemSorted.f (k + 1) a0) := by
 intro a0 k
 obtain ⟨ih0, ih1, ih2, ih3, ih4, ih5⟩ := laws_FnGemSorted.mono_l k
 unfold laws_FnGemSorted.f
 repeat' first
   | (with_reducible exact ih0 _ _)
   | (with_reducible exact ih1 _ _ _ _)
   | (with_reducible exact ih2 _ _ _ _)
   | (with_reducible exact ih3 _ _ _ _ _ _)
   | (with_reducible exact ih4 _ _ _)
   | (with_reducible exact ih5 _ _ _ _ _)
   | (with_reducible exact impl_RubyCompare.mono _ _ _)
   | (with_reducible exact laws_short.mono _ _)
   | (with_reducible exact laws_zzFits1.mono _ _)
   | (with_reducible exact spec_GemCompare.mono _ _ _)
   | (with_reducible exact spec_GemValid.mono _ _)
   | (with_reducible exact LeO.refl _)
   | (with_reducible exact LeO.none _)
   | (with_reducible refine LeO.ite ?_ ?_)
   | (with_reducible refine LeO.bind ?_ (fun _ => ?_))
   | exact ih0 _ _
   | exact ih1 _ _ _ _
   | exact ih2 _ _ _ _
   | exact ih3 _ _ _ _ _ _
   | exact ih4 _ _ _
   | exact ih5 _ _ _ _ _
   | exact impl_RubyCompare.mono _ _ _
   | exact laws_short.mono _ _
   | exact laws_zzFits1.mono _ _
   | exact spec_GemCompare.mono _ _ _
   | exact spec_GemValid.mono _ _
   | exact LeO.none _
   | refine LeO.ite ?_ ?_
   | refine LeO.bind ?_ (fun _ => ?_)
def laws_FnGemSorted.T22 : Bool × List (List Nat × List Nat) := (true, [([], []), ([], []), ([], []), ([0, 1, 2], [0, 1, 2]), ([], []), ([4], [4]), ([], []), ([], []), ([6, 7], [6, 7]), ([5, 8], [5, 8]), ([3, 9, 9], [3, 9]), ([10, 10, 0, 1, 2, 3, 4, 5, 6, 7, 8, 9, 10], [0, 6, 10])])
def laws_FnGemSorted.B22 : List Nat := [0, 0, 0, 7, 0, 16, 0, 0, 192, 496, 1023, 2047]
theorem laws_FnGemSorted.tab22 : rtab .any (opsOf Tryd.f7 22) = laws_FnGemSorted.T22 := by kernel_rfl
theorem laws_FnGemSorted.bits22 : waitsOk laws_FnGemSorted.T22.2 laws_FnGemSorted.B22 = true := by kernel_rfl
def laws_FnGemSorted.T30 : Bool × List (List Nat × List Nat) := (true, [([], []), ([], []), ([0, 1], [0, 1]), ([2], [2]), ([], []), ([], []), ([4, 5], [4, 5]), ([6], [6]), ([3, 7], [3, 7]), ([8], [8])])
def laws_FnGemSorted.B30 : List Nat := [0, 0, 3, 7, 0, 0, 48, 112, 255, 511]
theorem laws_FnGemSorted.tab30 : rtab .any (opsOf Tryd.f7 30) = laws_FnGemSorted.T30 := by kernel_rfl
theorem laws_FnGemSorted.bits30 : waitsOk laws_FnGemSorted.T30.2 laws_FnGemSorted.B30 = true := by kernel_rfl
set_option maxHeartbeats 8000000 in
set_option maxRecDepth 100000 in
theorem laws_FnGemSorted.calls (k : Nat) (A0 : Option Addr) (c0 : Nat) (l0 : List ByteArray) (r : Bool) (w : World) (hr0 : Kd.C Kd.string w A0 l0.length l0) (hc0 : l0.length ≤ c0) (hG : GW w) (h : laws_FnGemSorted.f k l0 = some r) :
  Calls Tryd.prog 7 #[.slice A0 l0.length c0] w fun e w' => e = .returned (.bool r) ∧ Below w.heap.size w w' := by
 have HG := Aside0.mk hG
 clear hG
 have HR0 := Aside0.mk hr0
 have HC0 := Aside0.mk hc0
 clear hr0 hc0
 have HB := Aside0.mk (Below.refl w.heap.size w)
 have H : ((laws_zzFits1.f k l0).bind fun t268 => (if t268 = true then (if (l0.length : Int) > 14 then (laws_FnGemSorted.j0 k l0 true) else ((laws_short.f k l0).bind fun t269 => (laws_FnGemSorted.j0 k l0 (!t269)))) else (some true))) = some r := h
 clear h
 replace H := Option.bind_eq_some_iff.mp H
 obtain ⟨t268, A20, H⟩ := H
 replace H : (if t268 = true then (if (l0.length : Int) > 14 then (laws_FnGemSorted.j0 k l0 true) else ((laws_short.f k l0).bind fun t269 => (laws_FnGemSorted.j0 k l0 (!t269)))) else (some true)) = some r := H
 have A2 := Aside0.mk A20
 clear A20
 by_cases c3 : t268 = true
 ·subst c3
  have H1 : (if (l0.length : Int) > 14 then (laws_FnGemSorted.j0 k l0 true) else ((laws_short.f k l0).bind fun t269 => (laws_FnGemSorted.j0 k l0 (!t269)))) = some r := by rw [if_pos rfl] at H; exact H
  clear H
  have H := H1
  clear H1
  have HC4 := Aside0.mk H
  clear H
  go_enter Tryd.func7, Tryd.ntmps7
  go_upto_region 3 with (first | ((with_reducible refine gate_callee (f := 16) rfl ?_); refine goesL_ (some 14) rfl rfl Tryd.func16 (by kernel_rfl) rfl #[.slice A0 l0.length c0] rfl (by (try simp only [List.map_toArray, List.map_cons, List.map_nil]); first | done | rfl | (simp only [List.length_drop, List.length_take]; rfl)) ?_; (with_reducible refine (laws_zzFits1.calls k _ _ l0 true _ ?side1 ?side2 A2.out).mono ?_); (case side1 => repeat (first | exact HR0.out | (with_reducible refine Kd.C_alloc ?_ _) | (with_reducible refine Kd.C_drewN ?_ _) | (with_reducible refine Kd.C_drew ?_))); (case side2 => exact HC0.out); rintro e w' ⟨rfl, ⟨nd, rfl⟩⟩; refine ⟨_, rfl, ?_⟩))
  (try simp only [Act.put, List.setIfInBounds_toArray, List.set_cons_zero, List.set_cons_succ])
  go_cut [23] (fun v23 wc => ∃ (kq : Nat) (x23_3 : Bool), v23 = .bool x23_3 ∧ Aside0 (laws_FnGemSorted.j0 kq l0 x23_3 = some r) ∧ Aside0 (kq ≤ k) ∧ Aside0 (Below w.heap.size w wc))
  case first =>
   have H := HC4.out
   clear HC4
   by_cases c5 : (l0.length : Int) > 14
   ·rw [if_pos c5] at H
    have c5b0 : decide (14 < (l0.length : Int)) = true := decide_eq_true c5
    have c5b1 : decide (14 < l0.length) = true := decide_eq_true (by omega)
    clear c5
    (first | rw [c5b0] | (simp only [i64_w, i32_w]; rw [c5b0]) | skip)
    have H' := Aside0.mk H
    clear H
    go_wp2
    go_meet
    case rel => exact ⟨_, (true), (by first | rfl | (simp; done) | (simp [*]; done)), H', ⟨by first | omega | exact Nat.le_refl _⟩, ⟨by repeat (first | (with_reducible first | exact HB.out | apply below_alloc | apply pw_below_drewN | apply below_drew1) | exact HB.out)⟩⟩
   ·rw [if_neg c5] at H
    have c5b0 : decide (14 < (l0.length : Int)) = false := decide_eq_false c5
    have c5b1 : decide (14 < l0.length) = false := decide_eq_false (by omega)
    clear c5
    (first | rw [c5b0] | (simp only [i64_w, i32_w]; rw [c5b0]) | skip)
    replace H := Option.bind_eq_some_iff.mp H
    obtain ⟨t269, A60, H⟩ := H
    replace H : (laws_FnGemSorted.j0 k l0 (!t269)) = some r := H
    have A6 := Aside0.mk A60
    clear A60
    have H' := Aside0.mk H
    clear H
    go_wp2_with (first | (go_at_call 11; (with_reducible refine (laws_short.calls k _ _ l0 t269 _ ?side1 ?side2 A6.out).mono ?_); (case side1 => repeat (first | exact (Kd.C_below HR0.out HB.out) | (with_reducible refine Kd.C_alloc ?_ _) | (with_reducible refine Kd.C_drewN ?_ _) | (with_reducible refine Kd.C_drew ?_))); (case side2 => exact HC0.out); rintro e w' ⟨rfl, ⟨nd, rfl⟩⟩))
    go_meet
    case rel => exact ⟨_, (!t269), (by first | rfl | (simp; done) | (simp [*]; done)), H', ⟨by first | omega | exact Nat.le_refl _⟩, ⟨by repeat (first | (with_reducible first | exact HB.out | apply below_alloc | apply pw_below_drewN | apply below_drew1) | exact HB.out)⟩⟩
  case rest =>
   clear HC4
   try clear c1
   try clear p2
   try clear c3
   try clear c5
   try clear c5b0
   try clear c5b1
   obtain ⟨kq, x23_3, rfl, HA, HJ3, HB⟩ := hcut
   cases kq with
   | zero => exact absurd HA.out (by simp [laws_FnGemSorted.j0])
   | succ kj3 =>
    have H := HA.out
    clear HA
    simp only [laws_FnGemSorted.j0] at H
    by_cases c7 : x23_3 = true
    ·subst c7
     have H1 : (some true) = some r := by rw [if_pos rfl] at H; exact H
     clear H
     have H := H1
     clear H1
     obtain rfl := Option.some.inj H
     go_wp2
     go_ret
     exact ⟨by first | rfl | (simp [errW_none, errW_some] <;> rfl) | (simp [*, errW_none, errW_some] <;> rfl), by repeat (first | (with_reducible first | exact HB.out | apply below_alloc | apply pw_below_drewN | apply below_drew1) | exact HB.out)⟩
    ·replace c7 := Bool.eq_false_iff.mpr c7
     subst c7
     have H1 : (laws_FnGemSorted.l0 kj3 l0 l0 (l0.length : Int) 0) = some r := by rw [if_neg (show ¬ (false = true) by decide)] at H; exact H
     clear H
     have H := H1
     clear H1
     have H' := Aside0.mk H
     clear H
     go_wp2
     go_loopg [26] kj3 (fun kq v26 w' => ∃ (x26_2 : Int), v26 = .int .i64 x26_2 ∧ Aside0 (laws_FnGemSorted.l0 kq l0 l0 (l0.length : Int) x26_2 = some r) ∧ Aside0 (kq ≤ kj3) ∧ Aside0 (Below w.heap.size w w'))
     case atStart => exact ⟨(0), (by first | rfl | (simp; done) | (simp [*]; done)), H', ⟨Nat.le_refl _⟩, ⟨by repeat (first | (with_reducible first | exact HB.out | apply below_alloc | apply pw_below_drewN | apply below_drew1) | exact HB.out)⟩⟩
     case round =>
      clear H'
      try clear c1
      try clear p2
      try clear c3
      try clear c5
      try clear c5b0
      try clear c5b1
      try clear c7
      try clear p2
      obtain ⟨x26_2, rfl, HA, HK2, HB⟩ := hrel
      cases gk with
      | zero => exact absurd HA.out (by simp [laws_FnGemSorted.l0])
      | succ k2 =>
       have H := HA.out
       clear HA
       simp only [laws_FnGemSorted.l0] at H
       by_cases c8 : x26_2 < (l0.length : Int)
       ·rw [if_pos c8] at H
        have c8b0 : decide (x26_2 < (l0.length : Int)) = true := decide_eq_true c8
        clear c8
        by_cases c9 : 0 ≤ x26_2
        ·rw [if_pos c9] at H
         have c9b0 : decide (0 ≤ x26_2) = true := decide_eq_true c9
         clear c9
         by_cases c10 : x26_2 < (l0.length : Int)
         ·rw [if_pos c10] at H
          have c10b0 : decide (x26_2 < (l0.length : Int)) = true := decide_eq_true c10
          clear c10
          replace H := Option.bind_eq_some_iff.mp H
          obtain ⟨t271, A110, H⟩ := H
          replace H : (if t271 = true then (laws_FnGemSorted.l0 k2 l0 l0 (l0.length : Int) (wrap64 (x26_2 + 1))) else (some true)) = some r := H
          have A11 := Aside0.mk A110
          clear A110
          by_cases c12 : t271 = true
          ·subst c12
           have H1 : (laws_FnGemSorted.l0 k2 l0 l0 (l0.length : Int) (wrap64 (x26_2 + 1))) = some r := by rw [if_pos rfl] at H; exact H
           clear H
           have H := H1
           clear H1
           have H' := Aside0.mk H
           clear H
           have p270 : 0 ≤ (x26_2 : Int) := of_decide_eq_true (by first | (with_reducible assumption) | assumption)
           have q270 : x26_2 < (l0.length : Int) := of_decide_eq_true (by first | (with_reducible assumption) | assumption)
           obtain ⟨ad270, e270, hx270_0⟩ := Kd.at_string HR0.out x26_2 p270 q270
           cases e270
           replace hx270_0 := (HB.out.cell (World.block_lt_of_cell? w _ hx270_0)).trans hx270_0
           replace p270 := eq_true p270
           replace q270 := eq_true q270
           go_wp2_with (first | ((with_reducible refine gate_callee (f := 22) rfl ?_); refine goesL_ (some 31) rfl rfl Tryd.func22 (by kernel_rfl) rfl #[.string (rdOf ByteArray.empty l0 x26_2)] rfl (by (try simp only [List.map_toArray, List.map_cons, List.map_nil]); first | done | rfl | (simp only [List.length_drop, List.length_take]; rfl)) ?_; (with_reducible refine (spec_GemValid.calls k2 (rdOf ByteArray.empty l0 x26_2) true _ A11.out).mono ?_); rintro e w13 ⟨rfl, hb⟩; refine ⟨_, rfl, ?_⟩; have n0_ := Aside0.mk (below_step (by repeat (first | (with_reducible first | exact HB.out | apply below_alloc | apply pw_below_drewN | apply below_drew1) | exact HB.out)) hb); clear HB; have HB := n0_; clear n0_; (try clear hb); (try clear hb2); (try clear hk); (try clear hi)))
           go_roundg k2
           case measure => have := HJ3.out; have := HK2.out; omega
           case rel => exact ⟨(wrap64 (x26_2 + 1)), (by first | rfl | (simp; done) | (simp [*]; done)), H', ⟨by have := HJ3.out; have := HK2.out; omega⟩, ⟨by repeat (first | (with_reducible first | exact HB.out | apply below_alloc | apply pw_below_drewN | apply below_drew1) | exact HB.out)⟩⟩
          ·replace c12 := Bool.eq_false_iff.mpr c12
           subst c12
           have H1 : (some true) = some r := by rw [if_neg (show ¬ (false = true) by decide)] at H; exact H
           clear H
           have H := H1
           clear H1
           obtain rfl := Option.some.inj H
           have p270 : 0 ≤ (x26_2 : Int) := of_decide_eq_true (by first | (with_reducible assumption) | assumption)
           have q270 : x26_2 < (l0.length : Int) := of_decide_eq_true (by first | (with_reducible assumption) | assumption)
           obtain ⟨ad270, e270, hx270_0⟩ := Kd.at_string HR0.out x26_2 p270 q270
           cases e270
           replace hx270_0 := (HB.out.cell (World.block_lt_of_cell? w _ hx270_0)).trans hx270_0
           replace p270 := eq_true p270
           replace q270 := eq_true q270
           go_wp2_with (first | ((with_reducible refine gate_callee (f := 22) rfl ?_); refine goesL_ (some 31) rfl rfl Tryd.func22 (by kernel_rfl) rfl #[.string (rdOf ByteArray.empty l0 x26_2)] rfl (by (try simp only [List.map_toArray, List.map_cons, List.map_nil]); first | done | rfl | (simp only [List.length_drop, List.length_take]; rfl)) ?_; (with_reducible refine (spec_GemValid.calls k2 (rdOf ByteArray.empty l0 x26_2) false _ A11.out).mono ?_); rintro e w14 ⟨rfl, hb⟩; refine ⟨_, rfl, ?_⟩; have n0_ := Aside0.mk (below_step (by repeat (first | (with_reducible first | exact HB.out | apply below_alloc | apply pw_below_drewN | apply below_drew1) | exact HB.out)) hb); clear HB; have HB := n0_; clear n0_; (try clear hb); (try clear hb2); (try clear hk); (try clear hi)))
           go_ret
           exact ⟨by first | rfl | (simp [errW_none, errW_some] <;> rfl) | (simp [*, errW_none, errW_some] <;> rfl), by repeat (first | (with_reducible first | exact HB.out | apply below_alloc | apply pw_below_drewN | apply below_drew1) | exact HB.out)⟩
         ·rw [if_neg c10] at H
          exact absurd H (by simp)
        ·rw [if_neg c9] at H
         exact absurd H (by simp)
       ·rw [if_neg c8] at H
        have c8b0 : decide (x26_2 < (l0.length : Int)) = false := decide_eq_false c8
        clear c8
        have H' := Aside0.mk H
        clear H
        go_wp2
        go_loopg [5, 36] k2 (fun kq v5 v36 w' => ∃ (x5_3 : List ByteArray) (x36_3 : Int), v36 = .int .i64 x36_3 ∧ Aside0 (laws_FnGemSorted.l1 kq x5_3 l0 (l0.length : Int) x36_3 = some r) ∧ Aside0 (kq ≤ k2) ∧ Aside0 (Kd.R Kd.string 9 w' w.heap.size (fun _ => True) v5 x5_3) ∧ Aside0 (Below w.heap.size w w'))
        case atStart => exact ⟨(([] : List ByteArray)), (0), (by first | rfl | (simp; done) | (simp [*]; done)), H', ⟨Nat.le_refl _⟩, ⟨by first | exact Kd.R_nil _ _ _ _ _ | exact Kd.N_nil _ _ _ _ _ | exact Kd.V_nil _ _ _ _ _ | exact Kd.Q_nil _ _ _ _ _ | exact Kd.S_nil _ _ _ _ _⟩, ⟨by repeat (first | (with_reducible first | exact HB.out | apply below_alloc | apply pw_below_drewN | apply below_drew1) | exact HB.out)⟩⟩
        case round =>
         clear H'
         try clear c1
         try clear c2
         try clear p2
         try clear q2
         try clear hx2
         try clear c3
         try clear c5
         try clear c5b0
         try clear c5b1
         try clear p6
         try clear c7
         try clear c8
         try clear c8b0
         try clear c9
         try clear c9b0
         try clear c10
         try clear c10b0
         try clear c12
         try clear hx270_0
         try clear p2
         try clear p270
         try clear q270
         obtain ⟨x5_3, x36_3, rfl, HA, HK3, HO_5, HB⟩ := hrel
         cases gk with
         | zero => exact absurd HA.out (by simp [laws_FnGemSorted.l1])
         | succ k3 =>
          have H := HA.out
          clear HA
          simp only [laws_FnGemSorted.l1] at H
          by_cases c15 : x36_3 < (l0.length : Int)
          ·rw [if_pos c15] at H
           have c15b0 : decide (x36_3 < (l0.length : Int)) = true := decide_eq_true c15
           clear c15
           by_cases c16 : 0 ≤ x36_3
           ·rw [if_pos c16] at H
            have c16b0 : decide (0 ≤ x36_3) = true := decide_eq_true c16
            clear c16
            by_cases c17 : x36_3 < (l0.length : Int)
            ·rw [if_pos c17] at H
             have c17b0 : decide (x36_3 < (l0.length : Int)) = true := decide_eq_true c17
             clear c17
             have H' := Aside0.mk H
             clear H
             have p272 : 0 ≤ (x36_3 : Int) := of_decide_eq_true (by first | (with_reducible assumption) | assumption)
             have q272 : x36_3 < (l0.length : Int) := of_decide_eq_true (by first | (with_reducible assumption) | assumption)
             obtain ⟨ad272, e272, hx272_0⟩ := Kd.at_string HR0.out x36_3 p272 q272
             cases e272
             replace hx272_0 := (HB.out.cell (World.block_lt_of_cell? w _ hx272_0)).trans hx272_0
             replace p272 := eq_true p272
             replace q272 := eq_true q272
             go_wp2
             go_loopg [8] k3 (fun kq v8 w' => ∃ (x8_4 : Int), v8 = .int .i64 x8_4 ∧ Aside0 (laws_FnGemSorted.l2 kq x5_3 (rdOf ByteArray.empty l0 x36_3) x8_4 l0 (l0.length : Int) x36_3 = some r) ∧ Aside0 (kq ≤ k3) ∧ Aside0 (Kd.R Kd.string 9 w' w.heap.size (fun _ => True) u5 x5_3) ∧ Aside0 (Below w.heap.size w w'))
             case atStart => exact ⟨(0), (by first | rfl | (simp; done) | (simp [*]; done)), H', ⟨Nat.le_refl _⟩, ⟨by (with_reducible repeat (first | apply Kd.R_alloc | apply Kd.R_drewN | apply Kd.R_drew)); exact HO_5.out⟩, ⟨by repeat (first | (with_reducible first | exact HB.out | apply below_alloc | apply pw_below_drewN | apply below_drew1) | exact HB.out)⟩⟩
             case round =>
              clear H'
              try clear c1
              try clear c2
              try clear p2
              try clear q2
              try clear hx2
              try clear c3
              try clear c5
              try clear c5b0
              try clear c5b1
              try clear p6
              try clear c7
              try clear c8
              try clear c8b0
              try clear c9
              try clear c9b0
              try clear c10
              try clear c10b0
              try clear c12
              try clear c15
              try clear c15b0
              try clear c16
              try clear c16b0
              try clear c17
              try clear c17b0
              try clear hx270_0
              try clear hx272_0
              try clear p2
              try clear p270
              try clear p272
              try clear p6
              try clear q2
              try clear q270
              try clear q272
              obtain ⟨x8_4, rfl, HA, HK4, HO_5, HB⟩ := hrel
              cases gk with
              | zero => exact absurd HA.out (by simp [laws_FnGemSorted.l2])
              | succ k4 =>
               have H := HA.out
               clear HA
               simp only [laws_FnGemSorted.l2] at H
               by_cases c18 : x8_4 < (x5_3.length : Int)
               ·rw [if_pos c18] at H
                have c18b0 : decide (x8_4 < (x5_3.length : Int)) = true := decide_eq_true c18
                clear c18
                by_cases c19 : 0 ≤ x8_4
                ·rw [if_pos c19] at H
                 have c19b0 : decide (0 ≤ x8_4) = true := decide_eq_true c19
                 clear c19
                 replace H := Option.bind_eq_some_iff.mp H
                 obtain ⟨⟨t291, t292⟩, A200, H⟩ := H
                 replace H : (if t292 = true then (if t291 > 0 then (if x8_4 ≤ (x5_3.length : Int) then ((some (x5_3.take (x8_4 : Int).toNat : List ByteArray)).bind fun y293 => ((some (([(rdOf ByteArray.empty l0 x36_3)] : List ByteArray) : List ByteArray)).bind fun y297 => ((some (x5_3.drop (x8_4 : Int).toNat : List ByteArray)).bind fun y300 => (if y297.length + y300.length < 8796093022208 then ((some (y297 ++ y300 : List ByteArray)).bind fun y304 => (if 0 < y304.length then (if y293.length + y304.length < 8796093022208 then (laws_FnGemSorted.l1 k4 (y293 ++ y304) l0 (l0.length : Int) (wrap64 (x36_3 + 1))) else (none)) else (none))) else (none))))) else (none)) else (laws_FnGemSorted.l2 k4 x5_3 (rdOf ByteArray.empty l0 x36_3) (wrap64 (x8_4 + 1)) l0 (l0.length : Int) x36_3)) else (some false)) = some r := H
                 have A20 := Aside0.mk A200
                 clear A200
                 by_cases c21 : t292 = true
                 ·subst c21
                  have H1 : (if t291 > 0 then (if x8_4 ≤ (x5_3.length : Int) then ((some (x5_3.take (x8_4 : Int).toNat : List ByteArray)).bind fun y293 => ((some (([(rdOf ByteArray.empty l0 x36_3)] : List ByteArray) : List ByteArray)).bind fun y297 => ((some (x5_3.drop (x8_4 : Int).toNat : List ByteArray)).bind fun y300 => (if y297.length + y300.length < 8796093022208 then ((some (y297 ++ y300 : List ByteArray)).bind fun y304 => (if 0 < y304.length then (if y293.length + y304.length < 8796093022208 then (laws_FnGemSorted.l1 k4 (y293 ++ y304) l0 (l0.length : Int) (wrap64 (x36_3 + 1))) else (none)) else (none))) else (none))))) else (none)) else (laws_FnGemSorted.l2 k4 x5_3 (rdOf ByteArray.empty l0 x36_3) (wrap64 (x8_4 + 1)) l0 (l0.length : Int) x36_3)) = some r := by rw [if_pos rfl] at H; exact H
                  clear H
                  have H := H1
                  clear H1
                  by_cases c22 : t291 > 0
                  ·rw [if_pos c22] at H
                   have c22b0 : decide (0 < t291) = true := decide_eq_true c22
                   clear c22
                   have c23b0 := eq_true (of_decide_eq_true (by first | (with_reducible assumption) | assumption) : 0 ≤ x8_4)
                   by_cases c24 : x8_4 ≤ (x5_3.length : Int)
                   ·rw [if_pos c24] at H
                    have c24b0 := eq_true c24
                    have c24b1 : decide (x8_4 ≤ (x5_3.length : Int)) = true := decide_eq_true c24
                    clear c24
                    obtain ⟨y293, hy293⟩ : ∃ y_ : List ByteArray, y_ = (x5_3.take (x8_4 : Int).toNat) := ⟨_, rfl⟩
                    replace H : ((some (([(rdOf ByteArray.empty l0 x36_3)] : List ByteArray) : List ByteArray)).bind fun y297 => ((some (x5_3.drop (x8_4 : Int).toNat : List ByteArray)).bind fun y300 => (if y297.length + y300.length < 8796093022208 then ((some (y297 ++ y300 : List ByteArray)).bind fun y304 => (if 0 < y304.length then (if y293.length + y304.length < 8796093022208 then (laws_FnGemSorted.l1 k4 (y293 ++ y304) l0 (l0.length : Int) (wrap64 (x36_3 + 1))) else (none)) else (none))) else (none)))) = some r := by first | (rw [hy293]; with_reducible exact H) | (have H2_ := (Option.bind_some _ _).symm.trans H; rw [hy293]; with_reducible exact H2_) | (have H2_ := (Option.bind_some _ _).symm.trans H; with_reducible exact H2_) | with_reducible exact H | (rw [hy293]; exact H) | exact H
                    have Ny293 := Aside0.mk hy293
                    clear hy293
                    obtain ⟨y297, hy297⟩ : ∃ y_ : List ByteArray, y_ = (([(rdOf ByteArray.empty l0 x36_3)] : List ByteArray)) := ⟨_, rfl⟩
                    replace H : ((some (x5_3.drop (x8_4 : Int).toNat : List ByteArray)).bind fun y300 => (if y297.length + y300.length < 8796093022208 then ((some (y297 ++ y300 : List ByteArray)).bind fun y304 => (if 0 < y304.length then (if y293.length + y304.length < 8796093022208 then (laws_FnGemSorted.l1 k4 (y293 ++ y304) l0 (l0.length : Int) (wrap64 (x36_3 + 1))) else (none)) else (none))) else (none))) = some r := by first | (rw [hy297]; with_reducible exact H) | (have H2_ := (Option.bind_some _ _).symm.trans H; rw [hy297]; with_reducible exact H2_) | (have H2_ := (Option.bind_some _ _).symm.trans H; with_reducible exact H2_) | with_reducible exact H | (rw [hy297]; exact H) | exact H
                    have Ny297 := Aside0.mk hy297
                    clear hy297
                    have c25b0 := eq_true (of_decide_eq_true (by first | (with_reducible assumption) | assumption) : 0 ≤ x8_4)
                    have c26b0 := eq_true (of_decide_eq_true (by first | (with_reducible assumption) | assumption) : x8_4 ≤ (x5_3.length : Int))
                    obtain ⟨y300, hy300⟩ : ∃ y_ : List ByteArray, y_ = (x5_3.drop (x8_4 : Int).toNat) := ⟨_, rfl⟩
                    replace H : (if y297.length + y300.length < 8796093022208 then ((some (y297 ++ y300 : List ByteArray)).bind fun y304 => (if 0 < y304.length then (if y293.length + y304.length < 8796093022208 then (laws_FnGemSorted.l1 k4 (y293 ++ y304) l0 (l0.length : Int) (wrap64 (x36_3 + 1))) else (none)) else (none))) else (none)) = some r := by first | (rw [hy300]; with_reducible exact H) | (have H2_ := (Option.bind_some _ _).symm.trans H; rw [hy300]; with_reducible exact H2_) | (have H2_ := (Option.bind_some _ _).symm.trans H; with_reducible exact H2_) | with_reducible exact H | (rw [hy300]; exact H) | exact H
                    have Ny300 := Aside0.mk hy300
                    clear hy300
                    by_cases c27 : y297.length + y300.length < 8796093022208
                    ·rw [if_pos c27] at H
                     have LMc27 := Aside0.mk c27
                     clear c27
                     obtain ⟨y304, hy304⟩ : ∃ y_ : List ByteArray, y_ = (y297 ++ y300) := ⟨_, rfl⟩
                     replace H : (if 0 < y304.length then (if y293.length + y304.length < 8796093022208 then (laws_FnGemSorted.l1 k4 (y293 ++ y304) l0 (l0.length : Int) (wrap64 (x36_3 + 1))) else (none)) else (none)) = some r := by first | (rw [hy304]; with_reducible exact H) | (have H2_ := (Option.bind_some _ _).symm.trans H; rw [hy304]; with_reducible exact H2_) | (have H2_ := (Option.bind_some _ _).symm.trans H; with_reducible exact H2_) | with_reducible exact H | (rw [hy304]; exact H) | exact H
                     have Ny304 := Aside0.mk hy304
                     clear hy304
                     by_cases c28 : 0 < y304.length
                     ·rw [if_pos c28] at H
                      have c28b0 := eq_true c28
                      have c28b1 : decide (0 < y304.length) = true := decide_eq_true c28
                      clear c28
                      by_cases c29 : y293.length + y304.length < 8796093022208
                      ·rw [if_pos c29] at H
                       have LMc29 := Aside0.mk c29
                       clear c29
                       obtain ⟨y307, hy307⟩ : ∃ y_ : List ByteArray, y_ = (y293 ++ y304) := ⟨_, rfl⟩
                       replace H : (laws_FnGemSorted.l1 k4 y307 l0 (l0.length : Int) (wrap64 (x36_3 + 1))) = some r := by first | (rw [hy307]; with_reducible exact H) | (have H2_ := (Option.bind_some _ _).symm.trans H; rw [hy307]; with_reducible exact H2_) | (have H2_ := (Option.bind_some _ _).symm.trans H; with_reducible exact H2_) | with_reducible exact H | (rw [hy307]; exact H) | exact H
                       have Ny307 := Aside0.mk hy307
                       clear hy307
                       have H' := Aside0.mk H
                       clear H
                       obtain ⟨Ao30, co30, eo30⟩ := Kd.R_slice HO_5.out
                       subst eo30
                       have p290 : 0 ≤ (x8_4 : Int) := of_decide_eq_true (by first | (with_reducible assumption) | assumption)
                       have q290 : x8_4 < (x5_3.length : Int) := of_decide_eq_true (by first | (with_reducible assumption) | assumption)
                       obtain ⟨ad290, e290, hx290_0⟩ := Kd.at_string (Kd.R_reads' HO_5.out).2.2 x8_4 p290 q290
                       cases e290
                       replace p290 := eq_true p290
                       replace q290 := eq_true q290
                       try go_wp2_with (first | ((with_reducible refine gate_callee (f := 23) rfl ?_); refine goesL_ (some 50) rfl rfl Tryd.func23 (by kernel_rfl) rfl #[.string (rdOf ByteArray.empty x5_3 x8_4), .string (rdOf ByteArray.empty l0 x36_3)] rfl (by (try simp only [List.map_toArray, List.map_cons, List.map_nil]); first | done | rfl | (simp only [List.length_drop, List.length_take]; rfl)) ?_; (with_reducible refine (impl_RubyCompare.calls k4 (rdOf ByteArray.empty x5_3 x8_4) (rdOf ByteArray.empty l0 x36_3) t291 true _ ?side1 A20.out).mono ?_); (case side1 => first | exact HG.out | exact GW.below HG.out (by repeat (first | (with_reducible first | exact HB.out | exact Below.refl _ _ | apply below_alloc | apply pw_below_drewN | apply below_drew1 | apply below_drew | refine below_set ?_ (Aside0.out (by assumption))) | exact HB.out))); rintro e w31 ⟨rfl, hb⟩; refine ⟨_, rfl, ?_⟩; have n0_ := Aside0.mk (Kd.R_below (by (with_reducible repeat (first | apply Kd.R_alloc | apply Kd.R_drewN | apply Kd.R_drew)); exact HO_5.out) hb); have n1_ := Aside0.mk (below_step (by repeat (first | (with_reducible first | exact HB.out | apply below_alloc | apply pw_below_drewN | apply below_drew1) | exact HB.out)) hb); clear HO_5; clear HB; have HO_5 := n0_; have HB := n1_; clear n0_ n1_; (try clear hb); (try clear hb2); (try clear hk); (try clear hi)))
                       have n0_ := Aside0.mk (Kd.R_drew HO_5.out)
                       have n1_ := Aside0.mk (below_drew1 HB.out)
                       clear HO_5
                       clear HB
                       have HO_5 := n0_
                       have HB := n1_
                       clear n0_ n1_
                       have q33 : (x8_4 : Int) ≤ ((x5_3.length : Int) : Int) := of_decide_eq_true (by first | (with_reducible assumption) | assumption)
                       obtain ⟨i033, hi033, _, hsz33, _⟩ := info_parts info9
                       have hroom33 : x5_3.length ≤ co30 := (Kd.R_reads' HO_5.out).2.1
                       have hC33 : Kd.C Kd.string _ (some ad290) x5_3.length x5_3 := (Kd.R_reads' HO_5.out).2.2
                       have hcut33 := Go.Proofs.YtmhlmkefnmdbcaaDoor.Af.cut_full (P := Tryd.prog) 28 9 .i64 .i64 Tryd.underlying28 hi033 (some ad290) x5_3.length co30 x8_4 (of_decide_eq_true (by first | (with_reducible assumption) | assumption)) q33 hroom33
                       have hr33 := Kd.C_take (m := (x8_4 : Int).toNat) hC33 (by omega)
                       have hy33 : y293.length = (x8_4 : Int).toNat := (by rw [Ny293.out, List.length_take]; omega)
                       rw [← Ny293.out] at hr33
                       rw [← hy33] at hcut33
                       have HR296 := Aside0.mk hr33
                       have HC296 := Aside0.mk (show y293.length ≤ y293.length from by omega)
                       clear hr33 hC33 hroom33 hi033 hsz33
                       have KY33 := Aside0.mk hy33
                       clear hy33
                       have KL33 := Aside0.mk (show (x8_4 : Int).toNat ≤ x5_3.length from by omega)
                       replace q33 := eq_true q33
                       have q34 : (x8_4 : Int) ≤ ((x5_3.length : Int) : Int) := of_decide_eq_true (by first | (with_reducible assumption) | assumption)
                       obtain ⟨i034, hi034, _, hsz34, _⟩ := info_parts info9
                       have hroom34 : x5_3.length ≤ co30 := (Kd.R_reads' HO_5.out).2.1
                       have hC34 : Kd.C Kd.string _ (some ad290) x5_3.length x5_3 := (Kd.R_reads' HO_5.out).2.2
                       have q034 : (0 : Int) ≤ (x8_4 : Int) := of_decide_eq_true (by first | (with_reducible assumption) | assumption)
                       have hcut34 := cut_from (P := Tryd.prog) 28 9 .i64 Tryd.underlying28 hi034 1 hsz34 (some ad290) x5_3.length co30 x8_4 q034 q34
                       have hr34 := Kd.C_drop (m := (x8_4 : Int).toNat) (c := co30) hC34 (by omega) hroom34
                       obtain ⟨A34, hA34⟩ : ∃ A1, A1 = (if co30 = (x8_4 : Int).toNat then (some ad290) else ((some ad290) : Option Addr).map (·.add ((x8_4 : Int).toNat * 1))) := ⟨_, rfl⟩
                       obtain ⟨c34, hc34⟩ : ∃ c1, c1 = co30 - (x8_4 : Int).toNat := ⟨_, rfl⟩
                       have hy34 : y300.length = x5_3.length - (x8_4 : Int).toNat := (by rw [Ny300.out, List.length_drop] <;> omega)
                       rw [show (x5_3).drop (x8_4 : Int).toNat = y300 from Ny300.out.symm] at hr34
                       replace hr34 : Kd.C Kd.string _ A34 y300.length y300 := (by rw [hA34]; exact hr34)
                       rw [← hy34, ← hA34, ← hc34] at hcut34
                       have HR303 := Aside0.mk hr34
                       have HC303 := Aside0.mk (show y300.length ≤ c34 from by rw [hy34, hc34]; exact Nat.sub_le_sub_right hroom34 _)
                       clear hr34 hC34 hroom34 hi034 hsz34 hc34
                       have KY34 := Aside0.mk hy34
                       have KA34 := Aside0.mk hA34
                       clear hy34 hA34
                       have KL34 := Aside0.mk (show (x8_4 : Int).toNat ≤ x5_3.length from by omega)
                       replace q34 := eq_true q34
                       refine start_ (n := 12) (S := fun w' => True) (ds := []) #[false, false, false, false, false, false, false, false, false, false, false, false] (by kernel_rfl) rfl rfl trivial (fun hHeld => ?_); refine with_tabW laws_FnGemSorted.tab22 laws_FnGemSorted.bits22 (fun HT_ HW_ => ?_)
                       generalize w31.drew = w32 at HO_5 HB HR296 HR303 hHeld ⊢
                       refine pure_ (i := 0) (N := some 59) (v := ?_) (a' := ?_) #[true, false, false, false, false, false, false, false, false, false, false, false] rfl rfl (any_of HT_.out (by kernel_rfl)) (fun _ _ _ h => h) (Or.inl ⟨by rfl, ?_⟩) ?_ ?_
                       rotate_left
                       ·intro w'
                        go_simp
                        with_reducible rfl
                       rotate_left
                       ·simp only [Act.put, List.setIfInBounds_toArray, List.set_cons_zero, List.set_cons_succ, i64_w, i32_w]
                        rfl
                       refine pure_ (i := 1) (N := some 60) (v := ?_) (a' := ?_) #[true, true, false, false, false, false, false, false, false, false, false, false] rfl rfl (any_of HT_.out (by kernel_rfl)) (fun _ _ _ h => h) (Or.inl ⟨by rfl, ?_⟩) ?_ ?_
                       rotate_left
                       ·intro w'
                        go_simp
                        with_reducible rfl
                       rotate_left
                       ·simp only [Act.put, List.setIfInBounds_toArray, List.set_cons_zero, List.set_cons_succ, i64_w, i32_w]
                        rfl
                       refine pure_ (i := 2) (N := some 61) (v := ?_) (a' := ?_) #[true, true, true, false, false, false, false, false, false, false, false, false] rfl rfl (any_of HT_.out (by kernel_rfl)) (fun _ _ _ h => h) (Or.inl ⟨by rfl, ?_⟩) ?_ ?_
                       rotate_left
                       ·intro w'
                        go_simp
                        with_reducible rfl
                       rotate_left
                       ·simp only [Act.put, List.setIfInBounds_toArray, List.set_cons_zero, List.set_cons_succ, i64_w, i32_w]
                        rfl
                       refine pure_ (i := 3) (N := some 62) (v := ?_) (a' := ?_) #[true, true, true, true, false, false, false, false, false, false, false, false] rfl rfl (any_of HT_.out (by kernel_rfl)) (fun _ _ _ h => h) (Or.inl ⟨by rfl, ?_⟩) ?_ ?_
                       rotate_left
                       ·intro w'
                        go_simp
                        with_reducible rfl
                       rotate_left
                       ·simp only [Act.put, List.setIfInBounds_toArray, List.set_cons_zero, List.set_cons_succ, i64_w, i32_w]
                        rfl
                       refine pure_ (i := 4) (N := some 63) (v := ?_) (a' := ?_) #[true, true, true, true, true, false, false, false, false, false, false, false] rfl rfl (any_of HT_.out (by kernel_rfl)) (fun _ _ _ h => h) (Or.inl ⟨by rfl, ?_⟩) ?_ ?_
                       rotate_left
                       ·intro w'
                        go_simp
                        with_reducible rfl
                       rotate_left
                       ·simp only [Act.put, List.setIfInBounds_toArray, List.set_cons_zero, List.set_cons_succ, i64_w, i32_w]
                        rfl
                       refine pure_ (i := 6) (N := some 65) (v := ?_) (a' := ?_) #[true, true, true, true, true, false, true, false, false, false, false, false] rfl rfl (any_of HT_.out (by kernel_rfl)) (fun _ _ _ h => h) (Or.inl ⟨by rfl, ?_⟩) ?_ ?_
                       rotate_left
                       ·intro w'
                        go_simp
                        with_reducible rfl
                       rotate_left
                       ·simp only [Act.put, List.setIfInBounds_toArray, List.set_cons_zero, List.set_cons_succ, i64_w, i32_w]
                        rfl
                       refine pure_ (i := 7) (N := some 66) (v := ?_) (a' := ?_) #[true, true, true, true, true, false, true, true, false, false, false, false] rfl rfl (any_of HT_.out (by kernel_rfl)) (fun _ _ _ h => h) (Or.inl ⟨by rfl, ?_⟩) ?_ ?_
                       rotate_left
                       ·intro w'
                        go_simp
                        with_reducible rfl
                       rotate_left
                       ·simp only [Act.put, List.setIfInBounds_toArray, List.set_cons_zero, List.set_cons_succ, i64_w, i32_w]
                        rfl
                       refine pure_ (i := 8) (N := some 67) (v := ?_) (a' := ?_) #[true, true, true, true, true, false, true, true, true, false, false, false] rfl rfl (any_of HT_.out (by kernel_rfl)) (fun _ _ _ h => h) (Or.inl ⟨by rfl, ?_⟩) ?_ ?_
                       rotate_left
                       ·intro w'
                        go_simp
                        with_reducible rfl
                       rotate_left
                       ·simp only [Act.put, List.setIfInBounds_toArray, List.set_cons_zero, List.set_cons_succ, i64_w, i32_w]
                        rfl
                       refine one_ (i := 5) (N := some 64) #[true, true, true, true, true, true, true, true, true, false, false, false] rfl rfl (one_of HT_.out (by kernel_rfl)) (by decide) (fun K hK => ?_)
                       refine Kd.R_lit_step Kd.string _ 9 ?hg (N := 64) ?hd (xs := ([(rdOf ByteArray.empty l0 x36_3)] : List ByteArray)) (inner := [.string (rdOf ByteArray.empty l0 x36_3)]) (ok := fun _ => True) (okp := fun _ => True) ?hr ?hp (fun _ hk => hk) trivial (Below.refl _ _) (Nat.le_refl _) (by simp) ?_; (case hd => rfl); (case hg => rfl); (case hr => first | (go_simp; done) | (go_simp; rfl)); (case hp => exact (Reps.one (show Kd.M Kd.string _ _ _ (rdOf ByteArray.empty l0 x36_3) [.string (rdOf ByteArray.empty l0 x36_3)] from rfl) (Reps.none _ _)))
                       intro v298 w35 ho36 hb hg_ hnew_
                       clear hg_ hnew_
                       (first | rw [← Ny297.out] at ho36 | (simp only [Int.reduceToNat] at ho36; rw [← Ny297.out] at ho36))
                       have n0_ := Aside0.mk (Kd.R_elder' (by (with_reducible repeat (first | apply Kd.R_alloc | apply Kd.R_drewN | apply Kd.R_drew)); exact HO_5.out) (Kd.R_base ho36) hb)
                       have n1_ := Aside0.mk (Kd.R_lower (Kd.R_new' ho36 (Kd.R_lt (by (with_reducible repeat (first | apply Kd.R_alloc | apply Kd.R_drewN | apply Kd.R_drew)); exact HO_5.out))) (below_size (by repeat (first | (with_reducible first | exact HB.out | apply below_alloc | apply pw_below_drewN | apply below_drew1) | exact HB.out))))
                       have n2_ := Aside0.mk (Kd.C_below (by repeat (first | (with_reducible exact HR296.out) | (with_reducible refine Kd.C_alloc ?_ _) | (with_reducible refine Kd.C_drewN ?_ _) | (with_reducible refine Kd.C_drew ?_) | exact HR296.out)) hb)
                       have n3_ := Aside0.mk (Kd.C_below (by repeat (first | (with_reducible exact HR303.out) | (with_reducible refine Kd.C_alloc ?_ _) | (with_reducible refine Kd.C_drewN ?_ _) | (with_reducible refine Kd.C_drew ?_) | exact HR303.out)) hb)
                       have n4_ := Aside0.mk (below_step (by repeat (first | (with_reducible first | exact HB.out | apply below_alloc | apply pw_below_drewN | apply below_drew1) | exact HB.out)) hb)
                       clear HO_5
                       clear HR296
                       clear HR303
                       clear HB
                       have HO_5 := n0_
                       have HO299 := n1_
                       have HR296 := n2_
                       have HR303 := n3_
                       have HB := n4_
                       clear n0_ n1_ n2_ n3_ n4_
                       clear hb ho36
                       refine hK.out _ _ trivial (fun hHeld => ?_)
                       clear hK K
                       refine norm_ (a' := ?_) ?_ ?_
                       rotate_left
                       ·show Act.put _ (some 64) _ = _
                        simp only [Act.put, List.setIfInBounds_toArray, List.set_cons_zero, List.set_cons_succ, i64_w, i32_w]
                        rfl
                       refine one_ (i := 9) (N := some 68) #[true, true, true, true, true, true, true, true, true, true, false, false] rfl rfl (one_of HT_.out (by kernel_rfl)) (by decide) (fun K hK => ?_)
                       refine Kd.R_append_rows_step Kd.string (w0 := w) w.heap.size (by rfl) (.tmp 64) (.tmp 67) 28 9 (.string ⟨#[]⟩) 16 rfl Tryd.underlying28 info9 rfl (by decide) (by omega) v298 y297 y300 _ _ _ (fun k_ => some k_ ≠ (.slice (some ad290) x5_3.length co30 : Value).ownBlock) (fun _ => False) rfl rfl ?aO ?aR (fun _ _ h => h) (fun _ h => h.elim) ?aF ?aB ?aS ?aL ?_
                       (case aR => repeat (first | exact (by repeat (first | (with_reducible exact HR303.out) | (with_reducible refine Kd.C_alloc ?_ _) | (with_reducible refine Kd.C_drewN ?_ _) | (with_reducible refine Kd.C_drew ?_) | exact HR303.out)) | (with_reducible refine Kd.C_alloc ?_ _) | (with_reducible refine Kd.C_drewN ?_ _) | (with_reducible refine Kd.C_drew ?_)))
                       (case aB => exact (by repeat (first | (with_reducible first | exact HB.out | apply below_alloc | apply pw_below_drewN | apply below_drew1) | exact HB.out)))
                       (case aF => exact (fun k_ hk => Kd.fresh' (Kd.R_lt (by (with_reducible repeat (first | apply Kd.R_alloc | apply Kd.R_drewN | apply Kd.R_drew)); exact HO_5.out)) k_ hk))
                       (case aO => exact (by (with_reducible repeat (first | apply Kd.R_alloc | apply Kd.R_drewN | apply Kd.R_drew)); exact Kd.R_mono HO299.out (fun _ hk => hk.2)))
                       (case aS => exact (below_size (by repeat (first | (with_reducible first | exact HB.out | apply below_alloc | apply pw_below_drewN | apply below_drew1) | exact HB.out))))
                       (case aL => have := LMc27.out; omega)
                       intro v305 w37 ho hb hg hat
                       rw [← Ny304.out] at ho
                       have n0_ := Aside0.mk (Kd.R_after (ok := (fun _ => True)) (by (with_reducible repeat (first | apply Kd.R_alloc | apply Kd.R_drewN | apply Kd.R_drew)); exact HO_5.out) hg hat)
                       have n1_ := Aside0.mk (hb)
                       have n2_ := Aside0.mk ((show Kd.C Kd.string w37 (some ad290) y293.length y293 from by rw [Ny293.out]; exact Kd.C_take (m := (x8_4 : Int).toNat) ((Kd.R_reads' (Kd.R_after (ok := (fun _ => True)) (by (with_reducible repeat (first | apply Kd.R_alloc | apply Kd.R_drewN | apply Kd.R_drew)); exact HO_5.out) hg hat)).2.2) KL33.out))
                       have n3_ := Aside0.mk ((show Kd.C Kd.string w37 A34 y300.length y300 from by rw [Ny300.out, KA34.out]; exact Kd.C_drop (m := (x8_4 : Int).toNat) (c := co30) ((Kd.R_reads' (Kd.R_after (ok := (fun _ => True)) (by (with_reducible repeat (first | apply Kd.R_alloc | apply Kd.R_drewN | apply Kd.R_drew)); exact HO_5.out) hg hat)).2.2) KL34.out ((Kd.R_reads' (Kd.R_after (ok := (fun _ => True)) (by (with_reducible repeat (first | apply Kd.R_alloc | apply Kd.R_drewN | apply Kd.R_drew)); exact HO_5.out) hg hat)).2.1)))
                       have n4_ := Aside0.mk (ho)
                       clear HO_5
                       clear HB
                       clear HR296
                       clear HR303
                       clear HO299
                       have HO_5 := n0_
                       have HB := n1_
                       have HR296 := n2_
                       have HR303 := n3_
                       have HO306 := n4_
                       clear n0_ n1_ n2_ n3_ n4_
                       clear ho hb hg hat
                       obtain ⟨Ao39, co39, eo39⟩ := Kd.R_slice HO306.out
                       (first | subst eo39 | (injection eo39 with f1_ f2_ f3_; have f4_ := f1_.symm; have f5_ := f3_.symm; clear f1_ f2_ f3_; subst f4_; subst f5_))
                       refine hK.out _ _ trivial (fun hHeld => ?_)
                       clear hK K
                       refine norm_ (a' := ?_) ?_ ?_
                       rotate_left
                       ·show Act.put _ (some 68) _ = _
                        simp only [Act.put, List.setIfInBounds_toArray, List.set_cons_zero, List.set_cons_succ, i64_w, i32_w]
                        rfl
                       refine one_ (i := 10) (N := some 69) #[true, true, true, true, true, true, true, true, true, true, true, false] rfl rfl (one_of HT_.out (by kernel_rfl)) (by decide) (fun K hK => ?_)
                       refine Go.Proofs.YtmhlmkefnmdbcaaDoor.Af.R_append_full_step Kd.string (fun _ _ _ _ _ h_ => h_) (w0 := w) w.heap.size (by rfl) (.tmp 62) (.tmp 68) 28 9 (.string ⟨#[]⟩) 16 rfl Tryd.underlying28 info9 rfl (by decide) (by omega) _ _ y293 y304 _ _ _ (fun k_ => some k_ ≠ (.slice (some ad290) x5_3.length co30 : Value).ownBlock ∧ some k_ ≠ (.slice Ao39 y304.length co39 : Value).ownBlock) rfl rfl ?aO ?aR ?aM ?aF ?aB ?aS ?aL ?_
                       (case aR => repeat (first | exact (Kd.R_reads' HO306.out).2.2 | (with_reducible refine Kd.C_alloc ?_ _) | (with_reducible refine Kd.C_drewN ?_ _) | (with_reducible refine Kd.C_drew ?_)))
                       (case aM => exact of_decide_eq_true (by first | (with_reducible assumption) | assumption))
                       (case aB => exact (by repeat (first | (with_reducible first | exact HB.out | apply below_alloc | apply pw_below_drewN | apply below_drew1) | exact HB.out)))
                       (case aF => exact (fun k_ hk => ⟨Kd.fresh' (Kd.R_lt (by (with_reducible repeat (first | apply Kd.R_alloc | apply Kd.R_drewN | apply Kd.R_drew)); exact HO_5.out)) k_ hk, Kd.fresh' (Kd.R_lt (by (with_reducible repeat (first | apply Kd.R_alloc | apply Kd.R_drewN | apply Kd.R_drew)); exact HO306.out)) k_ hk⟩))
                       (case aO => repeat (first | exact (by repeat (first | (with_reducible exact HR296.out) | (with_reducible refine Kd.C_alloc ?_ _) | (with_reducible refine Kd.C_drewN ?_ _) | (with_reducible refine Kd.C_drew ?_) | exact HR296.out)) | (with_reducible refine Kd.C_alloc ?_ _) | (with_reducible refine Kd.C_drewN ?_ _) | (with_reducible refine Kd.C_drew ?_)))
                       (case aS => exact (below_size (by repeat (first | (with_reducible first | exact HB.out | apply below_alloc | apply pw_below_drewN | apply below_drew1) | exact HB.out))))
                       (case aL => have := LMc29.out; omega)
                       intro v308 w38 ho hb hg hat
                       rw [← Ny307.out] at ho
                       have n0_ := Aside0.mk (Kd.R_after (Kd.R_apart_nil (by (with_reducible repeat (first | apply Kd.R_alloc | apply Kd.R_drewN | apply Kd.R_drew)); exact HO_5.out)) hg hat)
                       have n1_ := Aside0.mk (Kd.R_after (Kd.R_apart_nil (by (with_reducible repeat (first | apply Kd.R_alloc | apply Kd.R_drewN | apply Kd.R_drew)); exact HO306.out)) hg hat)
                       have n2_ := Aside0.mk (hb)
                       have n3_ := Aside0.mk ((show Kd.C Kd.string w38 (some ad290) y293.length y293 from by rw [Ny293.out]; exact Kd.C_take (m := (x8_4 : Int).toNat) ((Kd.R_reads' (Kd.R_after (Kd.R_apart_nil (by (with_reducible repeat (first | apply Kd.R_alloc | apply Kd.R_drewN | apply Kd.R_drew)); exact HO_5.out)) hg hat)).2.2) KL33.out))
                       have n4_ := Aside0.mk ((show Kd.C Kd.string w38 A34 y300.length y300 from by rw [Ny300.out, KA34.out]; exact Kd.C_drop (m := (x8_4 : Int).toNat) (c := co30) ((Kd.R_reads' (Kd.R_after (Kd.R_apart_nil (by (with_reducible repeat (first | apply Kd.R_alloc | apply Kd.R_drewN | apply Kd.R_drew)); exact HO_5.out)) hg hat)).2.2) KL34.out ((Kd.R_reads' (Kd.R_after (Kd.R_apart_nil (by (with_reducible repeat (first | apply Kd.R_alloc | apply Kd.R_drewN | apply Kd.R_drew)); exact HO_5.out)) hg hat)).2.1)))
                       have n5_ := Aside0.mk (ho)
                       clear HO_5
                       clear HO306
                       clear HB
                       clear HR296
                       clear HR303
                       have HO_5 := n0_
                       have HO306 := n1_
                       have HB := n2_
                       have HR296 := n3_
                       have HR303 := n4_
                       have HO309 := n5_
                       clear n0_ n1_ n2_ n3_ n4_ n5_
                       clear ho hb hg hat
                       refine hK.out _ _ trivial (fun hHeld => ?_)
                       clear hK K
                       refine norm_ (a' := ?_) ?_ ?_
                       rotate_left
                       ·show Act.put _ (some 69) _ = _
                        simp only [Act.put, List.setIfInBounds_toArray, List.set_cons_zero, List.set_cons_succ, i64_w, i32_w]
                        rfl
                       refine pure_ (i := 11) (N := some 5) (v := ?_) (a' := ?_) #[true, true, true, true, true, true, true, true, true, true, true, true] rfl rfl (any_of HT_.out (by kernel_rfl)) (fun _ _ _ h => h) (Or.inl ⟨by rfl, ?_⟩) ?_ ?_
                       rotate_left
                       ·intro w'
                        go_simp
                        with_reducible rfl
                       rotate_left
                       ·simp only [Act.put, List.setIfInBounds_toArray, List.set_cons_zero, List.set_cons_succ, i64_w, i32_w]
                        rfl
                       refine done_ (done_of HT_.out (by kernel_rfl)) ?_
                       try go_wp2
                       go_roundg k4
                       case measure => have := HJ3.out; have := HK2.out; have := HK3.out; have := HK4.out; omega
                       case rel => exact ⟨(y307), (wrap64 (x36_3 + 1)), (by first | rfl | (simp; done) | (simp [*]; done)), H', ⟨by have := HJ3.out; have := HK2.out; have := HK3.out; have := HK4.out; omega⟩, ⟨by (with_reducible repeat (first | apply Kd.R_alloc | apply Kd.R_drewN | apply Kd.R_drew)); exact Kd.R_mono HO309.out (fun _ hk => trivial)⟩, ⟨by repeat (first | (with_reducible first | exact HB.out | apply below_alloc | apply pw_below_drewN | apply below_drew1) | exact HB.out)⟩⟩
                      ·rw [if_neg c29] at H
                       exact absurd H (by simp)
                     ·rw [if_neg c28] at H
                      exact absurd H (by simp)
                    ·rw [if_neg c27] at H
                     exact absurd H (by simp)
                   ·rw [if_neg c24] at H
                    exact absurd H (by simp)
                  ·rw [if_neg c22] at H
                   have c22b0 : decide (0 < t291) = false := decide_eq_false c22
                   clear c22
                   have H' := Aside0.mk H
                   clear H
                   obtain ⟨Ao40, co40, eo40⟩ := Kd.R_slice HO_5.out
                   subst eo40
                   have p290 : 0 ≤ (x8_4 : Int) := of_decide_eq_true (by first | (with_reducible assumption) | assumption)
                   have q290 : x8_4 < (x5_3.length : Int) := of_decide_eq_true (by first | (with_reducible assumption) | assumption)
                   obtain ⟨ad290, e290, hx290_0⟩ := Kd.at_string (Kd.R_reads' HO_5.out).2.2 x8_4 p290 q290
                   cases e290
                   replace p290 := eq_true p290
                   replace q290 := eq_true q290
                   go_wp2_with (first | ((with_reducible refine gate_callee (f := 23) rfl ?_); refine goesL_ (some 50) rfl rfl Tryd.func23 (by kernel_rfl) rfl #[.string (rdOf ByteArray.empty x5_3 x8_4), .string (rdOf ByteArray.empty l0 x36_3)] rfl (by (try simp only [List.map_toArray, List.map_cons, List.map_nil]); first | done | rfl | (simp only [List.length_drop, List.length_take]; rfl)) ?_; (with_reducible refine (impl_RubyCompare.calls k4 (rdOf ByteArray.empty x5_3 x8_4) (rdOf ByteArray.empty l0 x36_3) t291 true _ ?side1 A20.out).mono ?_); (case side1 => first | exact HG.out | exact GW.below HG.out (by repeat (first | (with_reducible first | exact HB.out | exact Below.refl _ _ | apply below_alloc | apply pw_below_drewN | apply below_drew1 | apply below_drew | refine below_set ?_ (Aside0.out (by assumption))) | exact HB.out))); rintro e w41 ⟨rfl, hb⟩; refine ⟨_, rfl, ?_⟩; have n0_ := Aside0.mk (Kd.R_below (by (with_reducible repeat (first | apply Kd.R_alloc | apply Kd.R_drewN | apply Kd.R_drew)); exact HO_5.out) hb); have n1_ := Aside0.mk (below_step (by repeat (first | (with_reducible first | exact HB.out | apply below_alloc | apply pw_below_drewN | apply below_drew1) | exact HB.out)) hb); clear HO_5; clear HB; have HO_5 := n0_; have HB := n1_; clear n0_ n1_; (try clear hb); (try clear hb2); (try clear hk); (try clear hi)))
                   go_roundg k4
                   case measure => have := HJ3.out; have := HK2.out; have := HK3.out; have := HK4.out; omega
                   case rel => exact ⟨(wrap64 (x8_4 + 1)), (by first | rfl | (simp; done) | (simp [*]; done)), H', ⟨by have := HJ3.out; have := HK2.out; have := HK3.out; have := HK4.out; omega⟩, ⟨by (with_reducible repeat (first | apply Kd.R_alloc | apply Kd.R_drewN | apply Kd.R_drew)); exact HO_5.out⟩, ⟨by repeat (first | (with_reducible first | exact HB.out | apply below_alloc | apply pw_below_drewN | apply below_drew1) | exact HB.out)⟩⟩
                 ·replace c21 := Bool.eq_false_iff.mpr c21
                  subst c21
                  have H1 : (some false) = some r := by rw [if_neg (show ¬ (false = true) by decide)] at H; exact H
                  clear H
                  have H := H1
                  clear H1
                  obtain rfl := Option.some.inj H
                  obtain ⟨Ao42, co42, eo42⟩ := Kd.R_slice HO_5.out
                  subst eo42
                  have p290 : 0 ≤ (x8_4 : Int) := of_decide_eq_true (by first | (with_reducible assumption) | assumption)
                  have q290 : x8_4 < (x5_3.length : Int) := of_decide_eq_true (by first | (with_reducible assumption) | assumption)
                  obtain ⟨ad290, e290, hx290_0⟩ := Kd.at_string (Kd.R_reads' HO_5.out).2.2 x8_4 p290 q290
                  cases e290
                  replace p290 := eq_true p290
                  replace q290 := eq_true q290
                  go_wp2_with (first | ((with_reducible refine gate_callee (f := 23) rfl ?_); refine goesL_ (some 50) rfl rfl Tryd.func23 (by kernel_rfl) rfl #[.string (rdOf ByteArray.empty x5_3 x8_4), .string (rdOf ByteArray.empty l0 x36_3)] rfl (by (try simp only [List.map_toArray, List.map_cons, List.map_nil]); first | done | rfl | (simp only [List.length_drop, List.length_take]; rfl)) ?_; (with_reducible refine (impl_RubyCompare.calls k4 (rdOf ByteArray.empty x5_3 x8_4) (rdOf ByteArray.empty l0 x36_3) t291 false _ ?side1 A20.out).mono ?_); (case side1 => first | exact HG.out | exact GW.below HG.out (by repeat (first | (with_reducible first | exact HB.out | exact Below.refl _ _ | apply below_alloc | apply pw_below_drewN | apply below_drew1 | apply below_drew | refine below_set ?_ (Aside0.out (by assumption))) | exact HB.out))); rintro e w43 ⟨rfl, hb⟩; refine ⟨_, rfl, ?_⟩; have n0_ := Aside0.mk (Kd.R_below (by (with_reducible repeat (first | apply Kd.R_alloc | apply Kd.R_drewN | apply Kd.R_drew)); exact HO_5.out) hb); have n1_ := Aside0.mk (below_step (by repeat (first | (with_reducible first | exact HB.out | apply below_alloc | apply pw_below_drewN | apply below_drew1) | exact HB.out)) hb); clear HO_5; clear HB; have HO_5 := n0_; have HB := n1_; clear n0_ n1_; (try clear hb); (try clear hb2); (try clear hk); (try clear hi)))
                  go_ret
                  exact ⟨by first | rfl | (simp [errW_none, errW_some] <;> rfl) | (simp [*, errW_none, errW_some] <;> rfl), by repeat (first | (with_reducible first | exact HB.out | apply below_alloc | apply pw_below_drewN | apply below_drew1) | exact HB.out)⟩
                ·rw [if_neg c19] at H
                 exact absurd H (by simp)
               ·rw [if_neg c18] at H
                have c18b0 : decide (x8_4 < (x5_3.length : Int)) = false := decide_eq_false c18
                clear c18
                by_cases c44 : 0 ≤ x8_4
                ·rw [if_pos c44] at H
                 have c44b0 := eq_true c44
                 have c44b1 : decide (0 ≤ x8_4) = true := decide_eq_true c44
                 clear c44
                 by_cases c45 : x8_4 ≤ (x5_3.length : Int)
                 ·rw [if_pos c45] at H
                  have c45b0 := eq_true c45
                  have c45b1 : decide (x8_4 ≤ (x5_3.length : Int)) = true := decide_eq_true c45
                  clear c45
                  obtain ⟨y273, hy273⟩ : ∃ y_ : List ByteArray, y_ = (x5_3.take (x8_4 : Int).toNat) := ⟨_, rfl⟩
                  replace H : ((some (([(rdOf ByteArray.empty l0 x36_3)] : List ByteArray) : List ByteArray)).bind fun y277 => ((some (x5_3.drop (x8_4 : Int).toNat : List ByteArray)).bind fun y280 => (if y277.length + y280.length < 8796093022208 then ((some (y277 ++ y280 : List ByteArray)).bind fun y284 => (if 0 < y284.length then (if y273.length + y284.length < 8796093022208 then (laws_FnGemSorted.l1 k4 (y273 ++ y284) l0 (l0.length : Int) (wrap64 (x36_3 + 1))) else (none)) else (none))) else (none)))) = some r := by first | (rw [hy273]; with_reducible exact H) | (have H2_ := (Option.bind_some _ _).symm.trans H; rw [hy273]; with_reducible exact H2_) | (have H2_ := (Option.bind_some _ _).symm.trans H; with_reducible exact H2_) | with_reducible exact H | (rw [hy273]; exact H) | exact H
                  have Ny273 := Aside0.mk hy273
                  clear hy273
                  obtain ⟨y277, hy277⟩ : ∃ y_ : List ByteArray, y_ = (([(rdOf ByteArray.empty l0 x36_3)] : List ByteArray)) := ⟨_, rfl⟩
                  replace H : ((some (x5_3.drop (x8_4 : Int).toNat : List ByteArray)).bind fun y280 => (if y277.length + y280.length < 8796093022208 then ((some (y277 ++ y280 : List ByteArray)).bind fun y284 => (if 0 < y284.length then (if y273.length + y284.length < 8796093022208 then (laws_FnGemSorted.l1 k4 (y273 ++ y284) l0 (l0.length : Int) (wrap64 (x36_3 + 1))) else (none)) else (none))) else (none))) = some r := by first | (rw [hy277]; with_reducible exact H) | (have H2_ := (Option.bind_some _ _).symm.trans H; rw [hy277]; with_reducible exact H2_) | (have H2_ := (Option.bind_some _ _).symm.trans H; with_reducible exact H2_) | with_reducible exact H | (rw [hy277]; exact H) | exact H
                  have Ny277 := Aside0.mk hy277
                  clear hy277
                  have c46b0 := eq_true (of_decide_eq_true (by first | (with_reducible assumption) | assumption) : 0 ≤ x8_4)
                  have c47b0 := eq_true (of_decide_eq_true (by first | (with_reducible assumption) | assumption) : x8_4 ≤ (x5_3.length : Int))
                  obtain ⟨y280, hy280⟩ : ∃ y_ : List ByteArray, y_ = (x5_3.drop (x8_4 : Int).toNat) := ⟨_, rfl⟩
                  replace H : (if y277.length + y280.length < 8796093022208 then ((some (y277 ++ y280 : List ByteArray)).bind fun y284 => (if 0 < y284.length then (if y273.length + y284.length < 8796093022208 then (laws_FnGemSorted.l1 k4 (y273 ++ y284) l0 (l0.length : Int) (wrap64 (x36_3 + 1))) else (none)) else (none))) else (none)) = some r := by first | (rw [hy280]; with_reducible exact H) | (have H2_ := (Option.bind_some _ _).symm.trans H; rw [hy280]; with_reducible exact H2_) | (have H2_ := (Option.bind_some _ _).symm.trans H; with_reducible exact H2_) | with_reducible exact H | (rw [hy280]; exact H) | exact H
                  have Ny280 := Aside0.mk hy280
                  clear hy280
                  by_cases c48 : y277.length + y280.length < 8796093022208
                  ·rw [if_pos c48] at H
                   have LMc48 := Aside0.mk c48
                   clear c48
                   obtain ⟨y284, hy284⟩ : ∃ y_ : List ByteArray, y_ = (y277 ++ y280) := ⟨_, rfl⟩
                   replace H : (if 0 < y284.length then (if y273.length + y284.length < 8796093022208 then (laws_FnGemSorted.l1 k4 (y273 ++ y284) l0 (l0.length : Int) (wrap64 (x36_3 + 1))) else (none)) else (none)) = some r := by first | (rw [hy284]; with_reducible exact H) | (have H2_ := (Option.bind_some _ _).symm.trans H; rw [hy284]; with_reducible exact H2_) | (have H2_ := (Option.bind_some _ _).symm.trans H; with_reducible exact H2_) | with_reducible exact H | (rw [hy284]; exact H) | exact H
                   have Ny284 := Aside0.mk hy284
                   clear hy284
                   by_cases c49 : 0 < y284.length
                   ·rw [if_pos c49] at H
                    have c49b0 := eq_true c49
                    have c49b1 : decide (0 < y284.length) = true := decide_eq_true c49
                    clear c49
                    by_cases c50 : y273.length + y284.length < 8796093022208
                    ·rw [if_pos c50] at H
                     have LMc50 := Aside0.mk c50
                     clear c50
                     obtain ⟨y287, hy287⟩ : ∃ y_ : List ByteArray, y_ = (y273 ++ y284) := ⟨_, rfl⟩
                     replace H : (laws_FnGemSorted.l1 k4 y287 l0 (l0.length : Int) (wrap64 (x36_3 + 1))) = some r := by first | (rw [hy287]; with_reducible exact H) | (have H2_ := (Option.bind_some _ _).symm.trans H; rw [hy287]; with_reducible exact H2_) | (have H2_ := (Option.bind_some _ _).symm.trans H; with_reducible exact H2_) | with_reducible exact H | (rw [hy287]; exact H) | exact H
                     have Ny287 := Aside0.mk hy287
                     clear hy287
                     have H' := Aside0.mk H
                     clear H
                     obtain ⟨Ao51, co51, eo51⟩ := Kd.R_slice HO_5.out
                     subst eo51
                     try go_wp2
                     have n0_ := Aside0.mk (Kd.R_drew HO_5.out)
                     have n1_ := Aside0.mk (below_drew1 HB.out)
                     clear HO_5
                     clear HB
                     have HO_5 := n0_
                     have HB := n1_
                     clear n0_ n1_
                     have q53 : (x8_4 : Int) ≤ ((x5_3.length : Int) : Int) := of_decide_eq_true (by first | (with_reducible assumption) | assumption)
                     obtain ⟨i053, hi053, _, hsz53, _⟩ := info_parts info9
                     have hroom53 : x5_3.length ≤ co51 := (Kd.R_reads' HO_5.out).2.1
                     have hC53 : Kd.C Kd.string _ Ao51 x5_3.length x5_3 := (Kd.R_reads' HO_5.out).2.2
                     have hcut53 := Go.Proofs.YtmhlmkefnmdbcaaDoor.Af.cut_full (P := Tryd.prog) 28 9 .i64 .i64 Tryd.underlying28 hi053 Ao51 x5_3.length co51 x8_4 (of_decide_eq_true (by first | (with_reducible assumption) | assumption)) q53 hroom53
                     have hr53 := Kd.C_take (m := (x8_4 : Int).toNat) hC53 (by omega)
                     have hy53 : y273.length = (x8_4 : Int).toNat := (by rw [Ny273.out, List.length_take]; omega)
                     rw [← Ny273.out] at hr53
                     rw [← hy53] at hcut53
                     have HR276 := Aside0.mk hr53
                     have HC276 := Aside0.mk (show y273.length ≤ y273.length from by omega)
                     clear hr53 hC53 hroom53 hi053 hsz53
                     have KY53 := Aside0.mk hy53
                     clear hy53
                     have KL53 := Aside0.mk (show (x8_4 : Int).toNat ≤ x5_3.length from by omega)
                     replace q53 := eq_true q53
                     have q54 : (x8_4 : Int) ≤ ((x5_3.length : Int) : Int) := of_decide_eq_true (by first | (with_reducible assumption) | assumption)
                     obtain ⟨i054, hi054, _, hsz54, _⟩ := info_parts info9
                     have hroom54 : x5_3.length ≤ co51 := (Kd.R_reads' HO_5.out).2.1
                     have hC54 : Kd.C Kd.string _ Ao51 x5_3.length x5_3 := (Kd.R_reads' HO_5.out).2.2
                     have q054 : (0 : Int) ≤ (x8_4 : Int) := of_decide_eq_true (by first | (with_reducible assumption) | assumption)
                     have hcut54 := cut_from (P := Tryd.prog) 28 9 .i64 Tryd.underlying28 hi054 1 hsz54 Ao51 x5_3.length co51 x8_4 q054 q54
                     have hr54 := Kd.C_drop (m := (x8_4 : Int).toNat) (c := co51) hC54 (by omega) hroom54
                     obtain ⟨A54, hA54⟩ : ∃ A1, A1 = (if co51 = (x8_4 : Int).toNat then Ao51 else (Ao51 : Option Addr).map (·.add ((x8_4 : Int).toNat * 1))) := ⟨_, rfl⟩
                     obtain ⟨c54, hc54⟩ : ∃ c1, c1 = co51 - (x8_4 : Int).toNat := ⟨_, rfl⟩
                     have hy54 : y280.length = x5_3.length - (x8_4 : Int).toNat := (by rw [Ny280.out, List.length_drop] <;> omega)
                     rw [show (x5_3).drop (x8_4 : Int).toNat = y280 from Ny280.out.symm] at hr54
                     replace hr54 : Kd.C Kd.string _ A54 y280.length y280 := (by rw [hA54]; exact hr54)
                     rw [← hy54, ← hA54, ← hc54] at hcut54
                     have HR283 := Aside0.mk hr54
                     have HC283 := Aside0.mk (show y280.length ≤ c54 from by rw [hy54, hc54]; exact Nat.sub_le_sub_right hroom54 _)
                     clear hr54 hC54 hroom54 hi054 hsz54 hc54
                     have KY54 := Aside0.mk hy54
                     have KA54 := Aside0.mk hA54
                     clear hy54 hA54
                     have KL54 := Aside0.mk (show (x8_4 : Int).toNat ≤ x5_3.length from by omega)
                     replace q54 := eq_true q54
                     refine start_ (n := 12) (S := fun w' => True) (ds := []) #[false, false, false, false, false, false, false, false, false, false, false, false] (by kernel_rfl) rfl rfl trivial (fun hHeld => ?_); refine with_tabW laws_FnGemSorted.tab22 laws_FnGemSorted.bits22 (fun HT_ HW_ => ?_)
                     generalize wr.drew = w52 at HO_5 HB HR276 HR283 hHeld ⊢
                     refine pure_ (i := 0) (N := some 59) (v := ?_) (a' := ?_) #[true, false, false, false, false, false, false, false, false, false, false, false] rfl rfl (any_of HT_.out (by kernel_rfl)) (fun _ _ _ h => h) (Or.inl ⟨by rfl, ?_⟩) ?_ ?_
                     rotate_left
                     ·intro w'
                      go_simp
                      with_reducible rfl
                     rotate_left
                     ·simp only [Act.put, List.setIfInBounds_toArray, List.set_cons_zero, List.set_cons_succ, i64_w, i32_w]
                      rfl
                     refine pure_ (i := 1) (N := some 60) (v := ?_) (a' := ?_) #[true, true, false, false, false, false, false, false, false, false, false, false] rfl rfl (any_of HT_.out (by kernel_rfl)) (fun _ _ _ h => h) (Or.inl ⟨by rfl, ?_⟩) ?_ ?_
                     rotate_left
                     ·intro w'
                      go_simp
                      with_reducible rfl
                     rotate_left
                     ·simp only [Act.put, List.setIfInBounds_toArray, List.set_cons_zero, List.set_cons_succ, i64_w, i32_w]
                      rfl
                     refine pure_ (i := 2) (N := some 61) (v := ?_) (a' := ?_) #[true, true, true, false, false, false, false, false, false, false, false, false] rfl rfl (any_of HT_.out (by kernel_rfl)) (fun _ _ _ h => h) (Or.inl ⟨by rfl, ?_⟩) ?_ ?_
                     rotate_left
                     ·intro w'
                      go_simp
                      with_reducible rfl
                     rotate_left
                     ·simp only [Act.put, List.setIfInBounds_toArray, List.set_cons_zero, List.set_cons_succ, i64_w, i32_w]
                      rfl
                     refine pure_ (i := 3) (N := some 62) (v := ?_) (a' := ?_) #[true, true, true, true, false, false, false, false, false, false, false, false] rfl rfl (any_of HT_.out (by kernel_rfl)) (fun _ _ _ h => h) (Or.inl ⟨by rfl, ?_⟩) ?_ ?_
                     rotate_left
                     ·intro w'
                      go_simp
                      with_reducible rfl
                     rotate_left
                     ·simp only [Act.put, List.setIfInBounds_toArray, List.set_cons_zero, List.set_cons_succ, i64_w, i32_w]
                      rfl
                     refine pure_ (i := 4) (N := some 63) (v := ?_) (a' := ?_) #[true, true, true, true, true, false, false, false, false, false, false, false] rfl rfl (any_of HT_.out (by kernel_rfl)) (fun _ _ _ h => h) (Or.inl ⟨by rfl, ?_⟩) ?_ ?_
                     rotate_left
                     ·intro w'
                      go_simp
                      with_reducible rfl
                     rotate_left
                     ·simp only [Act.put, List.setIfInBounds_toArray, List.set_cons_zero, List.set_cons_succ, i64_w, i32_w]
                      rfl
                     refine pure_ (i := 6) (N := some 65) (v := ?_) (a' := ?_) #[true, true, true, true, true, false, true, false, false, false, false, false] rfl rfl (any_of HT_.out (by kernel_rfl)) (fun _ _ _ h => h) (Or.inl ⟨by rfl, ?_⟩) ?_ ?_
                     rotate_left
                     ·intro w'
                      go_simp
                      with_reducible rfl
                     rotate_left
                     ·simp only [Act.put, List.setIfInBounds_toArray, List.set_cons_zero, List.set_cons_succ, i64_w, i32_w]
                      rfl
                     refine pure_ (i := 7) (N := some 66) (v := ?_) (a' := ?_) #[true, true, true, true, true, false, true, true, false, false, false, false] rfl rfl (any_of HT_.out (by kernel_rfl)) (fun _ _ _ h => h) (Or.inl ⟨by rfl, ?_⟩) ?_ ?_
                     rotate_left
                     ·intro w'
                      go_simp
                      with_reducible rfl
                     rotate_left
                     ·simp only [Act.put, List.setIfInBounds_toArray, List.set_cons_zero, List.set_cons_succ, i64_w, i32_w]
                      rfl
                     refine pure_ (i := 8) (N := some 67) (v := ?_) (a' := ?_) #[true, true, true, true, true, false, true, true, true, false, false, false] rfl rfl (any_of HT_.out (by kernel_rfl)) (fun _ _ _ h => h) (Or.inl ⟨by rfl, ?_⟩) ?_ ?_
                     rotate_left
                     ·intro w'
                      go_simp
                      with_reducible rfl
                     rotate_left
                     ·simp only [Act.put, List.setIfInBounds_toArray, List.set_cons_zero, List.set_cons_succ, i64_w, i32_w]
                      rfl
                     refine one_ (i := 5) (N := some 64) #[true, true, true, true, true, true, true, true, true, false, false, false] rfl rfl (one_of HT_.out (by kernel_rfl)) (by decide) (fun K hK => ?_)
                     refine Kd.R_lit_step Kd.string _ 9 ?hg (N := 64) ?hd (xs := ([(rdOf ByteArray.empty l0 x36_3)] : List ByteArray)) (inner := [.string (rdOf ByteArray.empty l0 x36_3)]) (ok := fun _ => True) (okp := fun _ => True) ?hr ?hp (fun _ hk => hk) trivial (Below.refl _ _) (Nat.le_refl _) (by simp) ?_; (case hd => rfl); (case hg => rfl); (case hr => first | (go_simp; done) | (go_simp; rfl)); (case hp => exact (Reps.one (show Kd.M Kd.string _ _ _ (rdOf ByteArray.empty l0 x36_3) [.string (rdOf ByteArray.empty l0 x36_3)] from rfl) (Reps.none _ _)))
                     intro v278 w55 ho56 hb hg_ hnew_
                     clear hg_ hnew_
                     (first | rw [← Ny277.out] at ho56 | (simp only [Int.reduceToNat] at ho56; rw [← Ny277.out] at ho56))
                     have n0_ := Aside0.mk (Kd.R_elder' (by (with_reducible repeat (first | apply Kd.R_alloc | apply Kd.R_drewN | apply Kd.R_drew)); exact HO_5.out) (Kd.R_base ho56) hb)
                     have n1_ := Aside0.mk (Kd.R_lower (Kd.R_new' ho56 (Kd.R_lt (by (with_reducible repeat (first | apply Kd.R_alloc | apply Kd.R_drewN | apply Kd.R_drew)); exact HO_5.out))) (below_size (by repeat (first | (with_reducible first | exact HB.out | apply below_alloc | apply pw_below_drewN | apply below_drew1) | exact HB.out))))
                     have n2_ := Aside0.mk (Kd.C_below (by repeat (first | (with_reducible exact HR276.out) | (with_reducible refine Kd.C_alloc ?_ _) | (with_reducible refine Kd.C_drewN ?_ _) | (with_reducible refine Kd.C_drew ?_) | exact HR276.out)) hb)
                     have n3_ := Aside0.mk (Kd.C_below (by repeat (first | (with_reducible exact HR283.out) | (with_reducible refine Kd.C_alloc ?_ _) | (with_reducible refine Kd.C_drewN ?_ _) | (with_reducible refine Kd.C_drew ?_) | exact HR283.out)) hb)
                     have n4_ := Aside0.mk (below_step (by repeat (first | (with_reducible first | exact HB.out | apply below_alloc | apply pw_below_drewN | apply below_drew1) | exact HB.out)) hb)
                     clear HO_5
                     clear HR276
                     clear HR283
                     clear HB
                     have HO_5 := n0_
                     have HO279 := n1_
                     have HR276 := n2_
                     have HR283 := n3_
                     have HB := n4_
                     clear n0_ n1_ n2_ n3_ n4_
                     clear hb ho56
                     refine hK.out _ _ trivial (fun hHeld => ?_)
                     clear hK K
                     refine norm_ (a' := ?_) ?_ ?_
                     rotate_left
                     ·show Act.put _ (some 64) _ = _
                      simp only [Act.put, List.setIfInBounds_toArray, List.set_cons_zero, List.set_cons_succ, i64_w, i32_w]
                      rfl
                     refine one_ (i := 9) (N := some 68) #[true, true, true, true, true, true, true, true, true, true, false, false] rfl rfl (one_of HT_.out (by kernel_rfl)) (by decide) (fun K hK => ?_)
                     refine Kd.R_append_rows_step Kd.string (w0 := w) w.heap.size (by rfl) (.tmp 64) (.tmp 67) 28 9 (.string ⟨#[]⟩) 16 rfl Tryd.underlying28 info9 rfl (by decide) (by omega) v278 y277 y280 _ _ _ (fun k_ => some k_ ≠ (.slice Ao51 x5_3.length co51 : Value).ownBlock) (fun _ => False) rfl rfl ?aO ?aR (fun _ _ h => h) (fun _ h => h.elim) ?aF ?aB ?aS ?aL ?_
                     (case aR => repeat (first | exact (by repeat (first | (with_reducible exact HR283.out) | (with_reducible refine Kd.C_alloc ?_ _) | (with_reducible refine Kd.C_drewN ?_ _) | (with_reducible refine Kd.C_drew ?_) | exact HR283.out)) | (with_reducible refine Kd.C_alloc ?_ _) | (with_reducible refine Kd.C_drewN ?_ _) | (with_reducible refine Kd.C_drew ?_)))
                     (case aB => exact (by repeat (first | (with_reducible first | exact HB.out | apply below_alloc | apply pw_below_drewN | apply below_drew1) | exact HB.out)))
                     (case aF => exact (fun k_ hk => Kd.fresh' (Kd.R_lt (by (with_reducible repeat (first | apply Kd.R_alloc | apply Kd.R_drewN | apply Kd.R_drew)); exact HO_5.out)) k_ hk))
                     (case aO => exact (by (with_reducible repeat (first | apply Kd.R_alloc | apply Kd.R_drewN | apply Kd.R_drew)); exact Kd.R_mono HO279.out (fun _ hk => hk.2)))
                     (case aS => exact (below_size (by repeat (first | (with_reducible first | exact HB.out | apply below_alloc | apply pw_below_drewN | apply below_drew1) | exact HB.out))))
                     (case aL => have := LMc48.out; omega)
                     intro v285 w57 ho hb hg hat
                     rw [← Ny284.out] at ho
                     have n0_ := Aside0.mk (Kd.R_after (ok := (fun _ => True)) (by (with_reducible repeat (first | apply Kd.R_alloc | apply Kd.R_drewN | apply Kd.R_drew)); exact HO_5.out) hg hat)
                     have n1_ := Aside0.mk (hb)
                     have n2_ := Aside0.mk ((show Kd.C Kd.string w57 Ao51 y273.length y273 from by rw [Ny273.out]; exact Kd.C_take (m := (x8_4 : Int).toNat) ((Kd.R_reads' (Kd.R_after (ok := (fun _ => True)) (by (with_reducible repeat (first | apply Kd.R_alloc | apply Kd.R_drewN | apply Kd.R_drew)); exact HO_5.out) hg hat)).2.2) KL53.out))
                     have n3_ := Aside0.mk ((show Kd.C Kd.string w57 A54 y280.length y280 from by rw [Ny280.out, KA54.out]; exact Kd.C_drop (m := (x8_4 : Int).toNat) (c := co51) ((Kd.R_reads' (Kd.R_after (ok := (fun _ => True)) (by (with_reducible repeat (first | apply Kd.R_alloc | apply Kd.R_drewN | apply Kd.R_drew)); exact HO_5.out) hg hat)).2.2) KL54.out ((Kd.R_reads' (Kd.R_after (ok := (fun _ => True)) (by (with_reducible repeat (first | apply Kd.R_alloc | apply Kd.R_drewN | apply Kd.R_drew)); exact HO_5.out) hg hat)).2.1)))
                     have n4_ := Aside0.mk (ho)
                     clear HO_5
                     clear HB
                     clear HR276
                     clear HR283
                     clear HO279
                     have HO_5 := n0_
                     have HB := n1_
                     have HR276 := n2_
                     have HR283 := n3_
                     have HO286 := n4_
                     clear n0_ n1_ n2_ n3_ n4_
                     clear ho hb hg hat
                     obtain ⟨Ao59, co59, eo59⟩ := Kd.R_slice HO286.out
                     (first | subst eo59 | (injection eo59 with f1_ f2_ f3_; have f4_ := f1_.symm; have f5_ := f3_.symm; clear f1_ f2_ f3_; subst f4_; subst f5_))
                     refine hK.out _ _ trivial (fun hHeld => ?_)
                     clear hK K
                     refine norm_ (a' := ?_) ?_ ?_
                     rotate_left
                     ·show Act.put _ (some 68) _ = _
                      simp only [Act.put, List.setIfInBounds_toArray, List.set_cons_zero, List.set_cons_succ, i64_w, i32_w]
                      rfl
                     refine one_ (i := 10) (N := some 69) #[true, true, true, true, true, true, true, true, true, true, true, false] rfl rfl (one_of HT_.out (by kernel_rfl)) (by decide) (fun K hK => ?_)
                     refine Go.Proofs.YtmhlmkefnmdbcaaDoor.Af.R_append_full_step Kd.string (fun _ _ _ _ _ h_ => h_) (w0 := w) w.heap.size (by rfl) (.tmp 62) (.tmp 68) 28 9 (.string ⟨#[]⟩) 16 rfl Tryd.underlying28 info9 rfl (by decide) (by omega) _ _ y273 y284 _ _ _ (fun k_ => some k_ ≠ (.slice Ao51 x5_3.length co51 : Value).ownBlock ∧ some k_ ≠ (.slice Ao59 y284.length co59 : Value).ownBlock) rfl rfl ?aO ?aR ?aM ?aF ?aB ?aS ?aL ?_
                     (case aR => repeat (first | exact (Kd.R_reads' HO286.out).2.2 | (with_reducible refine Kd.C_alloc ?_ _) | (with_reducible refine Kd.C_drewN ?_ _) | (with_reducible refine Kd.C_drew ?_)))
                     (case aM => exact of_decide_eq_true (by first | (with_reducible assumption) | assumption))
                     (case aB => exact (by repeat (first | (with_reducible first | exact HB.out | apply below_alloc | apply pw_below_drewN | apply below_drew1) | exact HB.out)))
                     (case aF => exact (fun k_ hk => ⟨Kd.fresh' (Kd.R_lt (by (with_reducible repeat (first | apply Kd.R_alloc | apply Kd.R_drewN | apply Kd.R_drew)); exact HO_5.out)) k_ hk, Kd.fresh' (Kd.R_lt (by (with_reducible repeat (first | apply Kd.R_alloc | apply Kd.R_drewN | apply Kd.R_drew)); exact HO286.out)) k_ hk⟩))
                     (case aO => repeat (first | exact (by repeat (first | (with_reducible exact HR276.out) | (with_reducible refine Kd.C_alloc ?_ _) | (with_reducible refine Kd.C_drewN ?_ _) | (with_reducible refine Kd.C_drew ?_) | exact HR276.out)) | (with_reducible refine Kd.C_alloc ?_ _) | (with_reducible refine Kd.C_drewN ?_ _) | (with_reducible refine Kd.C_drew ?_)))
                     (case aS => exact (below_size (by repeat (first | (with_reducible first | exact HB.out | apply below_alloc | apply pw_below_drewN | apply below_drew1) | exact HB.out))))
                     (case aL => have := LMc50.out; omega)
                     intro v288 w58 ho hb hg hat
                     rw [← Ny287.out] at ho
                     have n0_ := Aside0.mk (Kd.R_after (Kd.R_apart_nil (by (with_reducible repeat (first | apply Kd.R_alloc | apply Kd.R_drewN | apply Kd.R_drew)); exact HO_5.out)) hg hat)
                     have n1_ := Aside0.mk (Kd.R_after (Kd.R_apart_nil (by (with_reducible repeat (first | apply Kd.R_alloc | apply Kd.R_drewN | apply Kd.R_drew)); exact HO286.out)) hg hat)
                     have n2_ := Aside0.mk (hb)
                     have n3_ := Aside0.mk ((show Kd.C Kd.string w58 Ao51 y273.length y273 from by rw [Ny273.out]; exact Kd.C_take (m := (x8_4 : Int).toNat) ((Kd.R_reads' (Kd.R_after (Kd.R_apart_nil (by (with_reducible repeat (first | apply Kd.R_alloc | apply Kd.R_drewN | apply Kd.R_drew)); exact HO_5.out)) hg hat)).2.2) KL53.out))
                     have n4_ := Aside0.mk ((show Kd.C Kd.string w58 A54 y280.length y280 from by rw [Ny280.out, KA54.out]; exact Kd.C_drop (m := (x8_4 : Int).toNat) (c := co51) ((Kd.R_reads' (Kd.R_after (Kd.R_apart_nil (by (with_reducible repeat (first | apply Kd.R_alloc | apply Kd.R_drewN | apply Kd.R_drew)); exact HO_5.out)) hg hat)).2.2) KL54.out ((Kd.R_reads' (Kd.R_after (Kd.R_apart_nil (by (with_reducible repeat (first | apply Kd.R_alloc | apply Kd.R_drewN | apply Kd.R_drew)); exact HO_5.out)) hg hat)).2.1)))
                     have n5_ := Aside0.mk (ho)
                     clear HO_5
                     clear HO286
                     clear HB
                     clear HR276
                     clear HR283
                     have HO_5 := n0_
                     have HO286 := n1_
                     have HB := n2_
                     have HR276 := n3_
                     have HR283 := n4_
                     have HO289 := n5_
                     clear n0_ n1_ n2_ n3_ n4_ n5_
                     clear ho hb hg hat
                     refine hK.out _ _ trivial (fun hHeld => ?_)
                     clear hK K
                     refine norm_ (a' := ?_) ?_ ?_
                     rotate_left
                     ·show Act.put _ (some 69) _ = _
                      simp only [Act.put, List.setIfInBounds_toArray, List.set_cons_zero, List.set_cons_succ, i64_w, i32_w]
                      rfl
                     refine pure_ (i := 11) (N := some 5) (v := ?_) (a' := ?_) #[true, true, true, true, true, true, true, true, true, true, true, true] rfl rfl (any_of HT_.out (by kernel_rfl)) (fun _ _ _ h => h) (Or.inl ⟨by rfl, ?_⟩) ?_ ?_
                     rotate_left
                     ·intro w'
                      go_simp
                      with_reducible rfl
                     rotate_left
                     ·simp only [Act.put, List.setIfInBounds_toArray, List.set_cons_zero, List.set_cons_succ, i64_w, i32_w]
                      rfl
                     refine done_ (done_of HT_.out (by kernel_rfl)) ?_
                     try go_wp2
                     go_roundg k4
                     case measure => have := HJ3.out; have := HK2.out; have := HK3.out; have := HK4.out; omega
                     case rel => exact ⟨(y287), (wrap64 (x36_3 + 1)), (by first | rfl | (simp; done) | (simp [*]; done)), H', ⟨by have := HJ3.out; have := HK2.out; have := HK3.out; have := HK4.out; omega⟩, ⟨by (with_reducible repeat (first | apply Kd.R_alloc | apply Kd.R_drewN | apply Kd.R_drew)); exact Kd.R_mono HO289.out (fun _ hk => trivial)⟩, ⟨by repeat (first | (with_reducible first | exact HB.out | apply below_alloc | apply pw_below_drewN | apply below_drew1) | exact HB.out)⟩⟩
                    ·rw [if_neg c50] at H
                     exact absurd H (by simp)
                   ·rw [if_neg c49] at H
                    exact absurd H (by simp)
                  ·rw [if_neg c48] at H
                   exact absurd H (by simp)
                 ·rw [if_neg c45] at H
                  exact absurd H (by simp)
                ·rw [if_neg c44] at H
                 exact absurd H (by simp)
            ·rw [if_neg c17] at H
             exact absurd H (by simp)
           ·rw [if_neg c16] at H
            exact absurd H (by simp)
          ·rw [if_neg c15] at H
           have c15b0 : decide (x36_3 < (l0.length : Int)) = false := decide_eq_false c15
           clear c15
           have H' := Aside0.mk H
           clear H
           obtain ⟨Ao60, co60, eo60⟩ := Kd.R_slice HO_5.out
           subst eo60
           go_wp2
           go_loopg [73] k3 (fun kq v73 w' => ∃ (x73_4 : Int), v73 = .int .i64 x73_4 ∧ Aside0 (laws_FnGemSorted.l3 kq x5_3 (x5_3.length : Int) x73_4 = some r) ∧ Aside0 (kq ≤ k3) ∧ Aside0 (Kd.R Kd.string 9 w' w.heap.size (fun _ => True) (.slice Ao60 x5_3.length co60) x5_3) ∧ Aside0 (Below w.heap.size w w'))
           case atStart => exact ⟨(0), (by first | rfl | (simp; done) | (simp [*]; done)), H', ⟨Nat.le_refl _⟩, ⟨by (with_reducible repeat (first | apply Kd.R_alloc | apply Kd.R_drewN | apply Kd.R_drew)); exact HO_5.out⟩, ⟨by repeat (first | (with_reducible first | exact HB.out | apply below_alloc | apply pw_below_drewN | apply below_drew1) | exact HB.out)⟩⟩
           case round =>
            clear H'
            try clear c1
            try clear c2
            try clear p2
            try clear q2
            try clear hx2
            try clear c3
            try clear q3
            try clear c4
            try clear c5
            try clear q5
            try clear p6
            try clear c15
            try clear c15b0
            try clear c16
            try clear c17
            try clear c18
            try clear c18b0
            try clear c19
            try clear c21
            try clear c22
            try clear c22b0
            try clear c23
            try clear c24
            try clear c27
            try clear c28
            try clear c28b0
            try clear c28b1
            try clear c29
            try clear p29
            try clear q29
            try clear hx29
            try clear q33
            try clear c34
            try clear q34
            try clear c44
            try clear c44b0
            try clear c44b1
            try clear c45
            try clear c45b0
            try clear c45b1
            try clear c46
            try clear c46b0
            try clear c47
            try clear c47b0
            try clear c48
            try clear c49
            try clear c49b0
            try clear c49b1
            try clear c50
            try clear q53
            try clear c54
            try clear q54
            try clear hx290_0
            try clear p290
            try clear q034
            try clear q054
            try clear q290
            try clear q33
            try clear q34
            try clear q53
            try clear q54
            obtain ⟨x73_4, rfl, HA, HK4, HO_5, HB⟩ := hrel
            cases gk with
            | zero => exact absurd HA.out (by simp [laws_FnGemSorted.l3])
            | succ k4 =>
             have H := HA.out
             clear HA
             simp only [laws_FnGemSorted.l3] at H
             by_cases c61 : x73_4 < (x5_3.length : Int)
             ·rw [if_pos c61] at H
              have c61b0 : decide (x73_4 < (x5_3.length : Int)) = true := decide_eq_true c61
              clear c61
              have H' := Aside0.mk H
              clear H
              go_wp2
              go_loopg [12] k4 (fun kq v12 w' => ∃ (x12_5 : Int), v12 = .int .i64 x12_5 ∧ Aside0 (laws_FnGemSorted.l4 kq x5_3 x73_4 x12_5 (x5_3.length : Int) x73_4 = some r) ∧ Aside0 (kq ≤ k4) ∧ Aside0 (Kd.R Kd.string 9 w' w.heap.size (fun _ => True) (.slice Ao60 x5_3.length co60) x5_3) ∧ Aside0 (Below w.heap.size w w'))
              case atStart => exact ⟨(wrap64 (x73_4 + 1)), (by first | rfl | (simp; done) | (simp [*]; done)), H', ⟨Nat.le_refl _⟩, ⟨by (with_reducible repeat (first | apply Kd.R_alloc | apply Kd.R_drewN | apply Kd.R_drew)); exact HO_5.out⟩, ⟨by repeat (first | (with_reducible first | exact HB.out | apply below_alloc | apply pw_below_drewN | apply below_drew1) | exact HB.out)⟩⟩
              case round =>
               clear H'
               try clear c1
               try clear c2
               try clear p2
               try clear q2
               try clear hx2
               try clear c3
               try clear q3
               try clear c4
               try clear c5
               try clear q5
               try clear c6
               try clear p6
               try clear c15
               try clear c15b0
               try clear c16
               try clear c17
               try clear c18
               try clear c18b0
               try clear c19
               try clear c21
               try clear c22
               try clear c22b0
               try clear c23
               try clear c24
               try clear c27
               try clear c28
               try clear c28b0
               try clear c28b1
               try clear c29
               try clear p29
               try clear q29
               try clear hx29
               try clear q33
               try clear c34
               try clear q34
               try clear c44
               try clear c44b0
               try clear c44b1
               try clear c45
               try clear c45b0
               try clear c45b1
               try clear c46
               try clear c46b0
               try clear c47
               try clear c47b0
               try clear c48
               try clear c49
               try clear c49b0
               try clear c49b1
               try clear c50
               try clear q53
               try clear c54
               try clear q54
               try clear c61
               try clear c61b0
               try clear hx290_0
               try clear p2
               try clear p29
               try clear p290
               try clear p6
               try clear q034
               try clear q054
               try clear q2
               try clear q29
               try clear q290
               try clear q3
               try clear q33
               try clear q34
               try clear q5
               try clear q53
               try clear q54
               obtain ⟨x12_5, rfl, HA, HK5, HO_5, HB⟩ := hrel
               cases gk with
               | zero => exact absurd HA.out (by simp [laws_FnGemSorted.l4])
               | succ k5 =>
                have H := HA.out
                clear HA
                simp only [laws_FnGemSorted.l4] at H
                by_cases c62 : x12_5 < (x5_3.length : Int)
                ·rw [if_pos c62] at H
                 have c62b0 : decide (x12_5 < (x5_3.length : Int)) = true := decide_eq_true c62
                 clear c62
                 by_cases c63 : 0 ≤ x73_4
                 ·rw [if_pos c63] at H
                  have c63b0 : decide (0 ≤ x73_4) = true := decide_eq_true c63
                  clear c63
                  by_cases c64 : x73_4 < (x5_3.length : Int)
                  ·rw [if_pos c64] at H
                   have c64b0 : decide (x73_4 < (x5_3.length : Int)) = true := decide_eq_true c64
                   clear c64
                   by_cases c65 : 0 ≤ x12_5
                   ·rw [if_pos c65] at H
                    have c65b0 : decide (0 ≤ x12_5) = true := decide_eq_true c65
                    clear c65
                    replace H := Option.bind_eq_some_iff.mp H
                    obtain ⟨t312, A660, H⟩ := H
                    replace H : (if t312 > 0 then (some false) else (laws_FnGemSorted.l4 k5 x5_3 x73_4 (wrap64 (x12_5 + 1)) (x5_3.length : Int) x73_4)) = some r := H
                    have A66 := Aside0.mk A660
                    clear A660
                    by_cases c67 : t312 > 0
                    ·rw [if_pos c67] at H
                     have c67b0 : decide (0 < t312) = true := decide_eq_true c67
                     clear c67
                     obtain rfl := Option.some.inj H
                     try go_wp2
                     have n0_ := Aside0.mk (Kd.R_drew HO_5.out)
                     have n1_ := Aside0.mk (below_drew1 HB.out)
                     clear HO_5
                     clear HB
                     have HO_5 := n0_
                     have HB := n1_
                     clear n0_ n1_
                     have p310 : 0 ≤ (x73_4 : Int) := of_decide_eq_true (by first | (with_reducible assumption) | assumption)
                     have q310 : x73_4 < (x5_3.length : Int) := of_decide_eq_true (by first | (with_reducible assumption) | assumption)
                     obtain ⟨ad310, e310, hx310_0⟩ := Kd.at_string (Kd.R_reads' HO_5.out).2.2 x73_4 p310 q310
                     cases e310
                     replace p310 := eq_true p310
                     replace q310 := eq_true q310
                     have p311 : 0 ≤ (x12_5 : Int) := of_decide_eq_true (by first | (with_reducible assumption) | assumption)
                     have q311 : x12_5 < (x5_3.length : Int) := of_decide_eq_true (by first | (with_reducible assumption) | assumption)
                     obtain ⟨ad311, e311, hx311_0⟩ := Kd.at_string (Kd.R_reads' HO_5.out).2.2 x12_5 p311 q311
                     obtain rfl : ad310 = ad311 := (by injection e311)
                     replace p311 := eq_true p311
                     replace q311 := eq_true q311
                     refine start_ (n := 10) (S := fun w' => w'.cell? (ad310.add (x73_4).toNat) = some (.string (rdOf ByteArray.empty x5_3 x73_4)) ∧ w'.cell? (ad310.add (x12_5).toNat) = some (.string (rdOf ByteArray.empty x5_3 x12_5))) (ds := []) #[false, false, false, false, false, false, false, false, false, false] (by kernel_rfl) rfl rfl ⟨hx310_0, hx311_0⟩ (fun hHeld => ?_); refine with_tabW laws_FnGemSorted.tab30 laws_FnGemSorted.bits30 (fun HT_ HW_ => ?_)
                     generalize wr.drew = w68 at HO_5 HB hx310_0 hx311_0 hHeld ⊢
                     refine pure_ (i := 0) (N := some 84) (v := ?_) (a' := ?_) #[true, false, false, false, false, false, false, false, false, false] rfl rfl (any_of HT_.out (by kernel_rfl)) (fun _ _ _ h => h) (Or.inl ⟨by rfl, ?_⟩) ?_ ?_
                     rotate_left
                     ·intro w'
                      go_simp
                      with_reducible rfl
                     rotate_left
                     ·simp only [Act.put, List.setIfInBounds_toArray, List.set_cons_zero, List.set_cons_succ, i64_w, i32_w]
                      rfl
                     refine pure_ (i := 1) (N := some 85) (v := ?_) (a' := ?_) #[true, true, false, false, false, false, false, false, false, false] rfl rfl (any_of HT_.out (by kernel_rfl)) (fun _ _ _ h => h) (Or.inl ⟨by rfl, ?_⟩) ?_ ?_
                     rotate_left
                     ·intro w'
                      go_simp
                      with_reducible rfl
                     rotate_left
                     ·simp only [Act.put, List.setIfInBounds_toArray, List.set_cons_zero, List.set_cons_succ, i64_w, i32_w]
                      rfl
                     refine pure_ (i := 2) (N := some 86) (v := ?_) (a' := ?_) #[true, true, true, false, false, false, false, false, false, false] rfl rfl (any_of HT_.out (by kernel_rfl)) (fun _ _ _ h => h) (Or.inl ⟨by rfl, ?_⟩) ?_ ?_
                     rotate_left
                     ·intro w'
                      go_simp
                      with_reducible rfl
                     rotate_left
                     ·simp only [Act.put, List.setIfInBounds_toArray, List.set_cons_zero, List.set_cons_succ, i64_w, i32_w]
                      rfl
                     refine pure_ (i := 4) (N := some 88) (v := ?_) (a' := ?_) #[true, true, true, false, true, false, false, false, false, false] rfl rfl (any_of HT_.out (by kernel_rfl)) (fun _ _ _ h => h) (Or.inl ⟨by rfl, ?_⟩) ?_ ?_
                     rotate_left
                     ·intro w'
                      go_simp
                      with_reducible rfl
                     rotate_left
                     ·simp only [Act.put, List.setIfInBounds_toArray, List.set_cons_zero, List.set_cons_succ, i64_w, i32_w]
                      rfl
                     refine pure_ (i := 5) (N := some 89) (v := ?_) (a' := ?_) #[true, true, true, false, true, true, false, false, false, false] rfl rfl (any_of HT_.out (by kernel_rfl)) (fun _ _ _ h => h) (Or.inl ⟨by rfl, ?_⟩) ?_ ?_
                     rotate_left
                     ·intro w'
                      go_simp
                      with_reducible rfl
                     rotate_left
                     ·simp only [Act.put, List.setIfInBounds_toArray, List.set_cons_zero, List.set_cons_succ, i64_w, i32_w]
                      rfl
                     refine pure_ (i := 6) (N := some 90) (v := ?_) (a' := ?_) #[true, true, true, false, true, true, true, false, false, false] rfl rfl (any_of HT_.out (by kernel_rfl)) (fun _ _ _ h => h) (Or.inl ⟨by rfl, ?_⟩) ?_ ?_
                     rotate_left
                     ·intro w'
                      go_simp
                      with_reducible rfl
                     rotate_left
                     ·simp only [Act.put, List.setIfInBounds_toArray, List.set_cons_zero, List.set_cons_succ, i64_w, i32_w]
                      rfl
                     refine take_ (i := 3) (N := some 87) (v := ?_) (a' := ?_) #[true, true, true, true, true, true, true, false, false, false] rfl rfl (take_ofW HT_.out HW_.out (by kernel_rfl)) (fun _ _ _ h => h) (Or.inl ⟨by rfl, ?_⟩) hHeld ?_ ?_
                     rotate_left
                     ·rintro w' ⟨s0, s1⟩
                      go_simp
                      with_reducible rfl
                     rotate_left
                     ·simp only [Act.put, List.setIfInBounds_toArray, List.set_cons_zero, List.set_cons_succ, i64_w, i32_w]
                      rfl
                     refine take_ (i := 7) (N := some 91) (v := ?_) (a' := ?_) #[true, true, true, true, true, true, true, true, false, false] rfl rfl (take_ofW HT_.out HW_.out (by kernel_rfl)) (fun _ _ _ h => h) (Or.inl ⟨by rfl, ?_⟩) hHeld ?_ ?_
                     rotate_left
                     ·rintro w' ⟨s0, s1⟩
                      go_simp
                      with_reducible rfl
                     rotate_left
                     ·simp only [Act.put, List.setIfInBounds_toArray, List.set_cons_zero, List.set_cons_succ, i64_w, i32_w]
                      rfl
                     refine one_ (i := 8) (N := some 92) #[true, true, true, true, true, true, true, true, true, false] rfl rfl (one_of HT_.out (by kernel_rfl)) (by decide) (fun K hK => ?_)
                     refine goes_ Tryd.func24 (by kernel_rfl) rfl #[.string (rdOf ByteArray.empty x5_3 x73_4), .string (rdOf ByteArray.empty x5_3 x12_5)] (by rfl) rfl rfl (by (try simp only [List.map_toArray, List.map_cons, List.map_nil]); first | done | rfl | (simp only [List.length_drop, List.length_take]; rfl)) ?_
                     with_reducible refine (spec_GemCompare.calls k5 (rdOf ByteArray.empty x5_3 x73_4) (rdOf ByteArray.empty x5_3 x12_5) t312 _ A66.out).mono ?_
                     rintro e w69 ⟨rfl, hb⟩
                     have HS0_ := (hb.cell (World.block_lt_of_cell? _ _ (hHeld.1))).trans (hHeld.1)
                     have HS1_ := (hb.cell (World.block_lt_of_cell? _ _ (hHeld.2))).trans (hHeld.2)
                     refine ⟨_, rfl, ?_⟩
                     have n0_ := Aside0.mk (Kd.R_below (by (with_reducible repeat (first | apply Kd.R_alloc | apply Kd.R_drewN | apply Kd.R_drew)); exact HO_5.out) hb)
                     have n1_ := Aside0.mk (below_step (by repeat (first | (with_reducible first | exact HB.out | apply below_alloc | apply pw_below_drewN | apply below_drew1) | exact HB.out)) hb)
                     clear HO_5
                     clear HB
                     have HO_5 := n0_
                     have HB := n1_
                     clear n0_ n1_
                     (try clear hb)
                     (try clear hb2)
                     (try clear hk)
                     (try clear hi)
                     refine hK.out _ _ ⟨HS0_, HS1_⟩ (fun hHeld => ?_)
                     clear hK K
                     refine norm_ (a' := ?_) ?_ ?_
                     rotate_left
                     ·show Act.put _ (some 92) _ = _
                      simp only [Act.put, List.setIfInBounds_toArray, List.set_cons_zero, List.set_cons_succ, i64_w, i32_w]
                      rfl
                     refine pure_ (i := 9) (N := some 93) (v := ?_) (a' := ?_) #[true, true, true, true, true, true, true, true, true, true] rfl rfl (any_of HT_.out (by kernel_rfl)) (fun _ _ _ h => h) (Or.inl ⟨by rfl, ?_⟩) ?_ ?_
                     rotate_left
                     ·intro w'
                      go_simp
                      with_reducible rfl
                     rotate_left
                     ·simp only [Act.put, List.setIfInBounds_toArray, List.set_cons_zero, List.set_cons_succ, i64_w, i32_w]
                      rfl
                     refine done_ (done_of HT_.out (by kernel_rfl)) ?_
                     try go_wp2
                     go_ret
                     exact ⟨by first | rfl | (simp [errW_none, errW_some] <;> rfl) | (simp [*, errW_none, errW_some] <;> rfl), by repeat (first | (with_reducible first | exact HB.out | apply below_alloc | apply pw_below_drewN | apply below_drew1) | exact HB.out)⟩
                    ·rw [if_neg c67] at H
                     have c67b0 : decide (0 < t312) = false := decide_eq_false c67
                     clear c67
                     have H' := Aside0.mk H
                     clear H
                     try go_wp2
                     have n0_ := Aside0.mk (Kd.R_drew HO_5.out)
                     have n1_ := Aside0.mk (below_drew1 HB.out)
                     clear HO_5
                     clear HB
                     have HO_5 := n0_
                     have HB := n1_
                     clear n0_ n1_
                     have p310 : 0 ≤ (x73_4 : Int) := of_decide_eq_true (by first | (with_reducible assumption) | assumption)
                     have q310 : x73_4 < (x5_3.length : Int) := of_decide_eq_true (by first | (with_reducible assumption) | assumption)
                     obtain ⟨ad310, e310, hx310_0⟩ := Kd.at_string (Kd.R_reads' HO_5.out).2.2 x73_4 p310 q310
                     cases e310
                     replace p310 := eq_true p310
                     replace q310 := eq_true q310
                     have p311 : 0 ≤ (x12_5 : Int) := of_decide_eq_true (by first | (with_reducible assumption) | assumption)
                     have q311 : x12_5 < (x5_3.length : Int) := of_decide_eq_true (by first | (with_reducible assumption) | assumption)
                     obtain ⟨ad311, e311, hx311_0⟩ := Kd.at_string (Kd.R_reads' HO_5.out).2.2 x12_5 p311 q311
                     obtain rfl : ad310 = ad311 := (by injection e311)
                     replace p311 := eq_true p311
                     replace q311 := eq_true q311
                     refine start_ (n := 10) (S := fun w' => w'.cell? (ad310.add (x73_4).toNat) = some (.string (rdOf ByteArray.empty x5_3 x73_4)) ∧ w'.cell? (ad310.add (x12_5).toNat) = some (.string (rdOf ByteArray.empty x5_3 x12_5))) (ds := []) #[false, false, false, false, false, false, false, false, false, false] (by kernel_rfl) rfl rfl ⟨hx310_0, hx311_0⟩ (fun hHeld => ?_); refine with_tabW laws_FnGemSorted.tab30 laws_FnGemSorted.bits30 (fun HT_ HW_ => ?_)
                     generalize wr.drew = w70 at HO_5 HB hx310_0 hx311_0 hHeld ⊢
                     refine pure_ (i := 0) (N := some 84) (v := ?_) (a' := ?_) #[true, false, false, false, false, false, false, false, false, false] rfl rfl (any_of HT_.out (by kernel_rfl)) (fun _ _ _ h => h) (Or.inl ⟨by rfl, ?_⟩) ?_ ?_
                     rotate_left
                     ·intro w'
                      go_simp
                      with_reducible rfl
                     rotate_left
                     ·simp only [Act.put, List.setIfInBounds_toArray, List.set_cons_zero, List.set_cons_succ, i64_w, i32_w]
                      rfl
                     refine pure_ (i := 1) (N := some 85) (v := ?_) (a' := ?_) #[true, true, false, false, false, false, false, false, false, false] rfl rfl (any_of HT_.out (by kernel_rfl)) (fun _ _ _ h => h) (Or.inl ⟨by rfl, ?_⟩) ?_ ?_
                     rotate_left
                     ·intro w'
                      go_simp
                      with_reducible rfl
                     rotate_left
                     ·simp only [Act.put, List.setIfInBounds_toArray, List.set_cons_zero, List.set_cons_succ, i64_w, i32_w]
                      rfl
                     refine pure_ (i := 2) (N := some 86) (v := ?_) (a' := ?_) #[true, true, true, false, false, false, false, false, false, false] rfl rfl (any_of HT_.out (by kernel_rfl)) (fun _ _ _ h => h) (Or.inl ⟨by rfl, ?_⟩) ?_ ?_
                     rotate_left
                     ·intro w'
                      go_simp
                      with_reducible rfl
                     rotate_left
                     ·simp only [Act.put, List.setIfInBounds_toArray, List.set_cons_zero, List.set_cons_succ, i64_w, i32_w]
                      rfl
                     refine pure_ (i := 4) (N := some 88) (v := ?_) (a' := ?_) #[true, true, true, false, true, false, false, false, false, false] rfl rfl (any_of HT_.out (by kernel_rfl)) (fun _ _ _ h => h) (Or.inl ⟨by rfl, ?_⟩) ?_ ?_
                     rotate_left
                     ·intro w'
                      go_simp
                      with_reducible rfl
                     rotate_left
                     ·simp only [Act.put, List.setIfInBounds_toArray, List.set_cons_zero, List.set_cons_succ, i64_w, i32_w]
                      rfl
                     refine pure_ (i := 5) (N := some 89) (v := ?_) (a' := ?_) #[true, true, true, false, true, true, false, false, false, false] rfl rfl (any_of HT_.out (by kernel_rfl)) (fun _ _ _ h => h) (Or.inl ⟨by rfl, ?_⟩) ?_ ?_
                     rotate_left
                     ·intro w'
                      go_simp
                      with_reducible rfl
                     rotate_left
                     ·simp only [Act.put, List.setIfInBounds_toArray, List.set_cons_zero, List.set_cons_succ, i64_w, i32_w]
                      rfl
                     refine pure_ (i := 6) (N := some 90) (v := ?_) (a' := ?_) #[true, true, true, false, true, true, true, false, false, false] rfl rfl (any_of HT_.out (by kernel_rfl)) (fun _ _ _ h => h) (Or.inl ⟨by rfl, ?_⟩) ?_ ?_
                     rotate_left
                     ·intro w'
                      go_simp
                      with_reducible rfl
                     rotate_left
                     ·simp only [Act.put, List.setIfInBounds_toArray, List.set_cons_zero, List.set_cons_succ, i64_w, i32_w]
                      rfl
                     refine take_ (i := 3) (N := some 87) (v := ?_) (a' := ?_) #[true, true, true, true, true, true, true, false, false, false] rfl rfl (take_ofW HT_.out HW_.out (by kernel_rfl)) (fun _ _ _ h => h) (Or.inl ⟨by rfl, ?_⟩) hHeld ?_ ?_
                     rotate_left
                     ·rintro w' ⟨s0, s1⟩
                      go_simp
                      with_reducible rfl
                     rotate_left
                     ·simp only [Act.put, List.setIfInBounds_toArray, List.set_cons_zero, List.set_cons_succ, i64_w, i32_w]
                      rfl
                     refine take_ (i := 7) (N := some 91) (v := ?_) (a' := ?_) #[true, true, true, true, true, true, true, true, false, false] rfl rfl (take_ofW HT_.out HW_.out (by kernel_rfl)) (fun _ _ _ h => h) (Or.inl ⟨by rfl, ?_⟩) hHeld ?_ ?_
                     rotate_left
                     ·rintro w' ⟨s0, s1⟩
                      go_simp
                      with_reducible rfl
                     rotate_left
                     ·simp only [Act.put, List.setIfInBounds_toArray, List.set_cons_zero, List.set_cons_succ, i64_w, i32_w]
                      rfl
                     refine one_ (i := 8) (N := some 92) #[true, true, true, true, true, true, true, true, true, false] rfl rfl (one_of HT_.out (by kernel_rfl)) (by decide) (fun K hK => ?_)
                     refine goes_ Tryd.func24 (by kernel_rfl) rfl #[.string (rdOf ByteArray.empty x5_3 x73_4), .string (rdOf ByteArray.empty x5_3 x12_5)] (by rfl) rfl rfl (by (try simp only [List.map_toArray, List.map_cons, List.map_nil]); first | done | rfl | (simp only [List.length_drop, List.length_take]; rfl)) ?_
                     with_reducible refine (spec_GemCompare.calls k5 (rdOf ByteArray.empty x5_3 x73_4) (rdOf ByteArray.empty x5_3 x12_5) t312 _ A66.out).mono ?_
                     rintro e w71 ⟨rfl, hb⟩
                     have HS0_ := (hb.cell (World.block_lt_of_cell? _ _ (hHeld.1))).trans (hHeld.1)
                     have HS1_ := (hb.cell (World.block_lt_of_cell? _ _ (hHeld.2))).trans (hHeld.2)
                     refine ⟨_, rfl, ?_⟩
                     have n0_ := Aside0.mk (Kd.R_below (by (with_reducible repeat (first | apply Kd.R_alloc | apply Kd.R_drewN | apply Kd.R_drew)); exact HO_5.out) hb)
                     have n1_ := Aside0.mk (below_step (by repeat (first | (with_reducible first | exact HB.out | apply below_alloc | apply pw_below_drewN | apply below_drew1) | exact HB.out)) hb)
                     clear HO_5
                     clear HB
                     have HO_5 := n0_
                     have HB := n1_
                     clear n0_ n1_
                     (try clear hb)
                     (try clear hb2)
                     (try clear hk)
                     (try clear hi)
                     refine hK.out _ _ ⟨HS0_, HS1_⟩ (fun hHeld => ?_)
                     clear hK K
                     refine norm_ (a' := ?_) ?_ ?_
                     rotate_left
                     ·show Act.put _ (some 92) _ = _
                      simp only [Act.put, List.setIfInBounds_toArray, List.set_cons_zero, List.set_cons_succ, i64_w, i32_w]
                      rfl
                     refine pure_ (i := 9) (N := some 93) (v := ?_) (a' := ?_) #[true, true, true, true, true, true, true, true, true, true] rfl rfl (any_of HT_.out (by kernel_rfl)) (fun _ _ _ h => h) (Or.inl ⟨by rfl, ?_⟩) ?_ ?_
                     rotate_left
                     ·intro w'
                      go_simp
                      with_reducible rfl
                     rotate_left
                     ·simp only [Act.put, List.setIfInBounds_toArray, List.set_cons_zero, List.set_cons_succ, i64_w, i32_w]
                      rfl
                     refine done_ (done_of HT_.out (by kernel_rfl)) ?_
                     try go_wp2
                     go_roundg k5
                     case measure => have := HJ3.out; have := HK2.out; have := HK3.out; have := HK4.out; have := HK5.out; omega
                     case rel => exact ⟨(wrap64 (x12_5 + 1)), (by first | rfl | (simp; done) | (simp [*]; done)), H', ⟨by have := HJ3.out; have := HK2.out; have := HK3.out; have := HK4.out; have := HK5.out; omega⟩, ⟨by (with_reducible repeat (first | apply Kd.R_alloc | apply Kd.R_drewN | apply Kd.R_drew)); exact HO_5.out⟩, ⟨by repeat (first | (with_reducible first | exact HB.out | apply below_alloc | apply pw_below_drewN | apply below_drew1) | exact HB.out)⟩⟩
                   ·rw [if_neg c65] at H
                    exact absurd H (by simp)
                  ·rw [if_neg c64] at H
                   exact absurd H (by simp)
                 ·rw [if_neg c63] at H
                  exact absurd H (by simp)
                ·rw [if_neg c62] at H
                 have c62b0 : decide (x12_5 < (x5_3.length : Int)) = false := decide_eq_false c62
                 clear c62
                 have H' := Aside0.mk H
                 clear H
                 go_wp2
                 go_roundg k5
                 case measure => have := HJ3.out; have := HK2.out; have := HK3.out; have := HK4.out; have := HK5.out; omega
                 case rel => exact ⟨(wrap64 (x73_4 + 1)), (by first | rfl | (simp; done) | (simp [*]; done)), H', ⟨by have := HJ3.out; have := HK2.out; have := HK3.out; have := HK4.out; have := HK5.out; omega⟩, ⟨by (with_reducible repeat (first | apply Kd.R_alloc | apply Kd.R_drewN | apply Kd.R_drew)); exact HO_5.out⟩, ⟨by repeat (first | (with_reducible first | exact HB.out | apply below_alloc | apply pw_below_drewN | apply below_drew1) | exact HB.out)⟩⟩
             ·rw [if_neg c61] at H
              have c61b0 : decide (x73_4 < (x5_3.length : Int)) = false := decide_eq_false c61
              clear c61
              obtain rfl := Option.some.inj H
              go_wp2
              go_ret
              exact ⟨by first | rfl | (simp [errW_none, errW_some] <;> rfl) | (simp [*, errW_none, errW_some] <;> rfl), by repeat (first | (with_reducible first | exact HB.out | apply below_alloc | apply pw_below_drewN | apply below_drew1) | exact HB.out)⟩
 ·replace c3 := Bool.eq_false_iff.mpr c3
  subst c3
  have H1 : (some true) = some r := by rw [if_neg (show ¬ (false = true) by decide)] at H; exact H
  clear H
  have H := H1
  clear H1
  obtain rfl := Option.some.inj H
  go_enter Tryd.func7, Tryd.ntmps7
  go_wp2_with (first | ((with_reducible refine gate_callee (f := 16) rfl ?_); refine goesL_ (some 14) rfl rfl Tryd.func16 (by kernel_rfl) rfl #[.slice A0 l0.length c0] rfl (by (try simp only [List.map_toArray, List.map_cons, List.map_nil]); first | done | rfl | (simp only [List.length_drop, List.length_take]; rfl)) ?_; (with_reducible refine (laws_zzFits1.calls k _ _ l0 false _ ?side1 ?side2 A2.out).mono ?_); (case side1 => repeat (first | exact HR0.out | (with_reducible refine Kd.C_alloc ?_ _) | (with_reducible refine Kd.C_drewN ?_ _) | (with_reducible refine Kd.C_drew ?_))); (case side2 => exact HC0.out); rintro e w' ⟨rfl, ⟨nd, rfl⟩⟩; refine ⟨_, rfl, ?_⟩))
  go_ret
  exact ⟨by first | rfl | (simp [errW_none, errW_some] <;> rfl) | (simp [*, errW_none, errW_some] <;> rfl), by repeat (first | (with_reducible first | exact HB.out | apply below_alloc | apply pw_below_drewN | apply below_drew1) | exact HB.out)⟩

/-- THE ONE PURE STATEMENT of laws_FnGemSorted. -/
def laws_FnGemSorted.Pure : Prop := ∀ (l0 : List ByteArray), l0.length ≤ 9223372036854775807 → ∃ k, laws_FnGemSorted.f k l0 = some true
theorem laws_FnGemSorted.walk (P : laws_FnGemSorted.Pure) (A0 : Option Addr) (c0 : Nat) (l0 : List ByteArray) (w : World) (hm0 : l0.length ≤ 9223372036854775807) (hr0 : Kd.C Kd.string w A0 l0.length l0) (hc0 : l0.length ≤ c0) (hG : GW w) :
  Calls Tryd.prog 7 #[.slice A0 l0.length c0] w fun e w' => e = .returned (.bool true) ∧ Below w.heap.size w w' := by
 obtain ⟨k, h⟩ := P l0 hm0
 refine (laws_FnGemSorted.calls k _ _ l0 true w hr0 hc0 hG h).mono ?_
 rintro e w' ⟨rfl, hd⟩
 exact ⟨rfl, hd⟩

end Go.Proofs.YtmhlmkefnmdbcaaDoor.Z
