-- Written by a program of this session (myprint.py).
import Derived.Test.YtmhlmkefnmdbcaaDoorZ0
import Derived.Test.YtmhlmkefnmdbcaaDoorZ1
import Derived.Test.YtmhlmkefnmdbcaaDoorZ9
import Derived.Test.YtmhlmkefnmdbcaaDoorZ10
import Derived.Test.YtmhlmkefnmdbcaaDoorGe
import Derived.Test.YtmhlmkefnmdbcaaDoorAf
namespace Go.Proofs.YtmhlmkefnmdbcaaDoor.Z
open Go.Proofs.YtmhlmkefnmdbcaaDoor.Gw
open Go.RowKit Go.Proofs.YtmhlmkefnmdbcaaDoorW.PrintWords Go.Proofs.YtmhlmkefnmdbcaaDoorW.PrintLast Go.Proofs.YtmhlmkefnmdbcaaDoorW.PrintMore
attribute [local go_sem high] Go.Proofs.YtmhlmkefnmdbcaaDoor.Ge.gtr_str
attribute [local go_sem] max2_int min2_int max_two min_two max_three min_three max_four min_four   -- for this text's walks alone
set_option linter.unusedVariables false
set_option linter.unusedSimpArgs false

/-! ### laws_FnCRANSorted: function 4 -/
mutual
def laws_FnCRANSorted.j0 : Nat → List ByteArray → Bool → Option (Bool)
  | 0, _, _ => none
  | k + 1, x0, x27 => if x27 = true then (some true) else (laws_FnCRANSorted.l0 k x0 x0 (x0.length : Int) 0)
def laws_FnCRANSorted.l0 : Nat → List ByteArray → List ByteArray → Int → Int → Option (Bool)
  | 0, _, _, _, _ => none
  | k + 1, x0, x28, x29, x30 => if x30 < x29 then (if 0 ≤ x30 then (if x30 < (x28.length : Int) then ((spec_CRANParse.f k (rdOf ByteArray.empty x28 x30)).bind fun bt180 => (if bt180.2 = true then ((spec_CRANKnown.f k (rdOf ByteArray.empty x28 x30)).bind fun t184 => (if t184 = true then (laws_FnCRANSorted.l0 k x0 x28 x29 (wrap64 (x30 + 1))) else (some true))) else (some true))) else (none)) else (none)) else (laws_FnCRANSorted.l1 k ([] : List ByteArray) x0 (x0.length : Int) 0)
def laws_FnCRANSorted.l1 : Nat → List ByteArray → List ByteArray → Int → Int → Option (Bool)
  | 0, _, _, _, _ => none
  | k + 1, x7, x47, x48, x49 => if x49 < x48 then (if 0 ≤ x49 then (if x49 < (x47.length : Int) then (laws_FnCRANSorted.l2 k x7 (rdOf ByteArray.empty x47 x49) 0 x47 x48 x49) else (none)) else (none)) else (laws_FnCRANSorted.l3 k x7 (x7.length : Int) 0)
def laws_FnCRANSorted.l2 : Nat → List ByteArray → ByteArray → Int → List ByteArray → Int → Int → Option (Bool)
  | 0, _, _, _, _, _, _ => none
  | k + 1, x7, x9, x10, x47, x48, x49 => if x10 < (x7.length : Int) then (if 0 ≤ x10 then ((impl_CRANCompare.f (rdOf ByteArray.empty x7 x10) x9).bind fun bt204 => (if bt204.2 = true then (if bt204.1 > 0 then (if x10 ≤ (x7.length : Int) then ((some (x7.take (x10 : Int).toNat : List ByteArray)).bind fun y206 => ((some (([x9] : List ByteArray) : List ByteArray)).bind fun y210 => ((some (x7.drop (x10 : Int).toNat : List ByteArray)).bind fun y213 => (if y210.length + y213.length < 8796093022208 then ((some (y210 ++ y213 : List ByteArray)).bind fun y217 => (if 0 < y217.length then (if y206.length + y217.length < 8796093022208 then (laws_FnCRANSorted.l1 k (y206 ++ y217) x47 x48 (wrap64 (x49 + 1))) else (none)) else (none))) else (none))))) else (none)) else (laws_FnCRANSorted.l2 k x7 x9 (wrap64 (x10 + 1)) x47 x48 x49)) else (some false))) else (none)) else (if 0 ≤ x10 then (if x10 ≤ (x7.length : Int) then ((some (x7.take (x10 : Int).toNat : List ByteArray)).bind fun y186 => ((some (([x9] : List ByteArray) : List ByteArray)).bind fun y190 => ((some (x7.drop (x10 : Int).toNat : List ByteArray)).bind fun y193 => (if y190.length + y193.length < 8796093022208 then ((some (y190 ++ y193 : List ByteArray)).bind fun y197 => (if 0 < y197.length then (if y186.length + y197.length < 8796093022208 then (laws_FnCRANSorted.l1 k (y186 ++ y197) x47 x48 (wrap64 (x49 + 1))) else (none)) else (none))) else (none))))) else (none)) else (none))
def laws_FnCRANSorted.l3 : Nat → List ByteArray → Int → Int → Option (Bool)
  | 0, _, _, _ => none
  | k + 1, x7, x85, x86 => if x86 < x85 then (laws_FnCRANSorted.l4 k x7 x86 (wrap64 (x86 + 1)) x85 x86) else (some true)
def laws_FnCRANSorted.l4 : Nat → List ByteArray → Int → Int → Int → Int → Option (Bool)
  | 0, _, _, _, _, _ => none
  | k + 1, x7, x13, x14, x85, x86 => if x14 < (x7.length : Int) then (if 0 ≤ x13 then (if x13 < (x7.length : Int) then (if 0 ≤ x14 then ((spec_CRANCompare.f k (rdOf ByteArray.empty x7 x13) (rdOf ByteArray.empty x7 x14)).bind fun bt225 => (if bt225.2 = true then (if bt225.1 > 0 then (some false) else (laws_FnCRANSorted.l4 k x7 x13 (wrap64 (x14 + 1)) x85 x86)) else (some false))) else (none)) else (none)) else (none)) else (laws_FnCRANSorted.l3 k x7 x85 (wrap64 (x86 + 1)))
end
def laws_FnCRANSorted.f (k : Nat) (l0 : List ByteArray) : Option (Bool) := (laws_zzFits1.f k l0).bind fun t177 => (if t177 = true then (if (l0.length : Int) > 14 then (laws_FnCRANSorted.j0 k l0 true) else ((laws_short.f k l0).bind fun t178 => (laws_FnCRANSorted.j0 k l0 (!t178)))) else (some true))
theorem laws_FnCRANSorted.mono_l : ∀ k, (∀ y0 y1, LeO (laws_FnCRANSorted.j0 k y0 y1) (laws_FnCRANSorted.j0 (k + 1) y0 y1)) ∧ (∀ y0 y1 y2 y3, LeO (laws_FnCRANSorted.l0 k y0 y1 y2 y3) (laws_FnCRANSorted.l0 (k + 1) y0 y1 y2 y3)) ∧ (∀ y0 y1 y2 y3, LeO (laws_FnCRANSorted.l1 k y0 y1 y2 y3) (laws_FnCRANSorted.l1 (k + 1) y0 y1 y2 y3)) ∧ (∀ y0 y1 y2 y3 y4 y5, LeO (laws_FnCRANSorted.l2 k y0 y1 y2 y3 y4 y5) (laws_FnCRANSorted.l2 (k + 1) y0 y1 y2 y3 y4 y5)) ∧ (∀ y0 y1 y2, LeO (laws_FnCRANSorted.l3 k y0 y1 y2) (laws_FnCRANSorted.l3 (k + 1) y0 y1 y2)) ∧ (∀ y0 y1 y2 y3 y4, LeO (laws_FnCRANSorted.l4 k y0 y1 y2 y3 y4) (laws_FnCRANSorted.l4 (k + 1) y0 y1 y2 y3 y4))
  | 0 => ⟨fun _ _ r h => by simp [laws_FnCRANSorted.j0] at h, fun _ _ _ _ r h => by simp [laws_FnCRANSorted.l0] at h, fun _ _ _ _ r h => by simp [laws_FnCRANSorted.l1] at h, fun _ _ _ _ _ _ r h => by simp [laws_FnCRANSorted.l2] at h, fun _ _ _ r h => by simp [laws_FnCRANSorted.l3] at h, fun _ _ _ _ _ r h => by simp [laws_FnCRANSorted.l4] at h⟩
  | k + 1 => by
    obtain ⟨ih0, ih1, ih2, ih3, ih4, ih5⟩ := laws_FnCRANSorted.mono_l k
    refine ⟨?_, ?_, ?_, ?_, ?_, ?_⟩
    · intro y0 y1
      unfold laws_FnCRANSorted.j0
      repeat' first
      | (with_reducible exact ih0 _ _)
      | (with_reducible exact ih1 _ _ _ _)
      | (with_reducible exact ih2 _ _ _ _)
      | (with_reducible exact ih3 _ _ _ _ _ _)
      | (with_reducible exact ih4 _ _ _)
      | (with_reducible exact ih5 _ _ _ _ _)
      | (with_reducible exact laws_short.mono _ _)
      | (with_reducible exact laws_zzFits1.mono _ _)
      | (with_reducible exact spec_CRANCompare.mono _ _ _)
      | (with_reducible exact spec_CRANKnown.mono _ _)
      | (with_reducible exact spec_CRANParse.mono _ _)
      | (with_reducible exact LeO.refl _)
      | (with_reducible exact LeO.none _)
      | (with_reducible refine LeO.ite ?_ ?_)
      | (with_reducible refine LeO.bind ?_ (fun _ => ?_))
      | exact ih0 _ _
      | exact ih1 _ _ _ _
      | exact ih2 _ _ _ _
      | exact ih3 _ _ _ _ _ _
      | exact ih4 _ _ _
      | exact ih5 _ _ _ _ _
      | exact laws_short.mono _ _
      | exact laws_zzFits1.mono _ _
      | exact spec_CRANCompare.mono _ _ _
      | exact spec_CRANKnown.mono _ _
      | exact spec_CRANParse.mono _ _
      | exact LeO.none _
      | refine LeO.ite ?_ ?_
      | refine LeO.bind ?_ (fun _ => ?_)
    · intro y0 y1 y2 y3
      unfold laws_FnCRANSorted.l0
      repeat' first
      | (with_reducible exact ih0 _ _)
      | (with_reducible exact ih1 _ _ _ _)
      | (with_reducible exact ih2 _ _ _ _)
      | (with_reducible exact ih3 _ _ _ _ _ _)
      | (with_reducible exact ih4 _ _ _)
      | (with_reducible exact ih5 _ _ _ _ _)
      | (with_reducible exact laws_short.mono _ _)
      | (with_reducible exact laws_zzFits1.mono _ _)
      | (with_reducible exact spec_CRANCompare.mono _ _ _)
      | (with_reducible exact spec_CRANKnown.mono _ _)
      | (with_reducible exact spec_CRANParse.mono _ _)
      | (with_reducible exact LeO.refl _)
      | (with_reducible exact LeO.none _)
      | (with_reducible refine LeO.ite ?_ ?_)
      | (with_reducible refine LeO.bind ?_ (fun _ => ?_))
      | exact ih0 _ _
      | exact ih1 _ _ _ _
      | exact ih2 _ _ _ _
      | exact ih3 _ _ _ _ _ _
      | exact ih4 _ _ _
      | exact ih5 _ _ _ _ _
      | exact laws_short.mono _ _
      | exact laws_zzFits1.mono _ _
      | exact spec_CRANCompare.mono _ _ _
      | exact spec_CRANKnown.mono _ _
      | exact spec_CRANParse.mono _ _
      | exact LeO.none _
      | refine LeO.ite ?_ ?_
      | refine LeO.bind ?_ (fun _ => ?_)
    · intro y0 y1 y2 y3
      unfold laws_FnCRANSorted.l1
      repeat' first
      | (with_reducible exact ih0 _ _)
      | (with_reducible exact ih1 _ _ _ _)
      | (with_reducible exact ih2 _ _ _ _)
      | (with_reducible exact ih3 _ _ _ _ _ _)
      | (with_reducible exact ih4 _ _ _)
      | (with_reducible exact ih5 _ _ _ _ _)
      | (with_reducible exact laws_short.mono _ _)
      | (with_reducible exact laws_zzFits1.mono _ _)
      | (with_reducible exact spec_CRANCompare.mono _ _ _)
      | (with_reducible exact spec_CRANKnown.mono _ _)
      | (with_reducible exact spec_CRANParse.mono _ _)
      | (with_reducible exact LeO.refl _)
      | (with_reducible exact LeO.none _)
      | (with_reducible refine LeO.ite ?_ ?_)
      | (with_reducible refine LeO.bind ?_ (fun _ => ?_))
      | exact ih0 _ _
      | exact ih1 _ _ _ _
      | exact ih2 _ _ _ _
      | exact ih3 _ _ _ _ _ _
      | exact ih4 _ _ _
      | exact ih5 _ _ _ _ _
      | exact laws_short.mono _ _
      | exact laws_zzFits1.mono _ _
      | exact spec_CRANCompare.mono _ _ _
      | exact spec_CRANKnown.mono _ _
      | exact spec_CRANParse.mono _ _
      | exact LeO.none _
      | refine LeO.ite ?_ ?_
      | refine LeO.bind ?_ (fun _ => ?_)
    · intro y0 y1 y2 y3 y4 y5
      unfold laws_FnCRANSorted.l2
      repeat' first
      | (with_reducible exact ih0 _ _)
      | (with_reducible exact ih1 _ _ _ _)
      | (with_reducible exact ih2 _ _ _ _)
      | (with_reducible exact ih3 _ _ _ _ _ _)
      | (with_reducible exact ih4 _ _ _)
      | (with_reducible exact ih5 _ _ _ _ _)
      | (with_reducible exact laws_short.mono _ _)
      | (with_reducible exact laws_zzFits1.mono _ _)
      | (with_reducible exact spec_CRANCompare.mono _ _ _)
      | (with_reducible exact spec_CRANKnown.mono _ _)
      | (with_reducible exact spec_CRANParse.mono _ _)
      | (with_reducible exact LeO.refl _)
      | (with_reducible exact LeO.none _)
      | (with_reducible refine LeO.ite ?_ ?_)
      | (with_reducible refine LeO.bind ?_ (fun _ => ?_))
      | exact ih0 _ _
      | exact ih1 _ _ _ _
      | exact ih2 _ _ _ _
      | exact ih3 _ _ _ _ _ _
      | exact ih4 _ _ _
      | exact ih5 _ _ _ _ _
      | exact laws_short.mono _ _
      | exact laws_zzFits1.mono _ _
      | exact spec_CRANCompare.mono _ _ _
      | exact spec_CRANKnown.mono _ _
      | exact spec_CRANParse.mono _ _
      | exact LeO.none _
      | refine LeO.ite ?_ ?_
      | refine LeO.bind ?_ (fun _ => ?_)
    · intro y0 y1 y2
      unfold laws_FnCRANSorted.l3
      repeat' first
      | (with_reducible exact ih0 _ _)
      | (with_reducible exact ih1 _ _ _ _)
      | (with_reducible exact ih2 _ _ _ _)
      | (with_reducible exact ih3 _ _ _ _ _ _)
      | (with_reducible exact ih4 _ _ _)
      | (with_reducible exact ih5 _ _ _ _ _)
      | (with_reducible exact laws_short.mono _ _)
      | (with_reducible exact laws_zzFits1.mono _ _)
      | (with_reducible exact spec_CRANCompare.mono _ _ _)
      | (with_reducible exact spec_CRANKnown.mono _ _)
      | (with_reducible exact spec_CRANParse.mono _ _)
      | (with_reducible exact LeO.refl _)
      | (with_reducible exact LeO.none _)
      | (with_reducible refine LeO.ite ?_ ?_)
      | (with_reducible refine LeO.bind ?_ (fun _ => ?_))
      | exact ih0 _ _
      | exact ih1 _ _ _ _
      | exact ih2 _ _ _ _
      | exact ih3 _ _ _ _ _ _
      | exact ih4 _ _ _
      | exact ih5 _ _ _ _ _
      | exact laws_short.mono _ _
      | exact laws_zzFits1.mono _ _
      | exact spec_CRANCompare.mono _ _ _
      | exact spec_CRANKnown.mono _ _
      | exact spec_CRANParse.mono _ _
      | exact LeO.none _
      | refine LeO.ite ?_ ?_
      | refine LeO.bind ?_ (fun _ => ?_)
    · intro y0 y1 y2 y3 y4
      unfold laws_FnCRANSorted.l4
      repeat' first
      | (with_reducible exact ih0 _ _)
      | (with_reducible exact ih1 _ _ _ _)
      | (with_reducible exact ih2 _ _ _ _)
      | (with_reducible exact ih3 _ _ _ _ _ _)
      | (with_reducible exact ih4 _ _ _)
      | (with_reducible exact ih5 _ _ _ _ _)
      | (with_reducible exact laws_short.mono _ _)
      | (with_reducible exact laws_zzFits1.mono _ _)
      | (with_reducible exact spec_CRANCompare.mono _ _ _)
      | (with_reducible exact spec_CRANKnown.mono _ _)
      | (with_reducible exact spec_CRANParse.mono _ _)
      | (with_reducible exact LeO.refl _)
      | (with_reducible exact LeO.none _)
      | (with_reducible refine LeO.ite ?_ ?_)
      | (with_reducible refine LeO.bind ?_ (fun _ => ?_))
      | exact ih0 _ _
      | exact ih1 _ _ _ _
      | exact ih2 _ _ _ _
      | exact ih3 _ _ _ _ _ _
      | exact ih4 _ _ _
      | exact ih5 _ _ _ _ _
      | exact laws_short.mono _ _
      | exact laws_zzFits1.mono _ _
      | exact spec_CRANCompare.mono _ _ _
      | exact spec_CRANKnown.mono _ _
      | exact spec_CRANParse.mono _ _
      | exact LeO.none _
      | refine LeO.ite ?_ ?_
      | refine LeO.bind ?_ (fun _ => ?_)
theorem laws_FnCRANSorted.mono : ∀ a0 k, LeO (laws_FnCRANSorted.f k a0) (laws_FnCRANSorted.f (k + 1) a0) := by
  intro a0 k
  obtain ⟨ih0, ih1, ih2, ih3, ih4, ih5⟩ := laws_FnCRANSorted.mono_l k
  unfold laws_FnCRANSorted.f
  repeat' first
      | (with_reducible exact ih0 _ _)
      | (with_reducible exact ih1 _ _ _ _)
      | (with_reducible exact ih2 _ _ _ _)
      | (with_reducible exact ih3 _ _ _ _ _ _)
      | (with_reducible exact ih4 _ _ _)
      | (with_reducible exact ih5 _ _ _ _ _)
      | (with_reducible exact laws_short.mono _ _)
      | (with_reducible exact laws_zzFits1.mono _ _)
      | (with_reducible exact spec_CRANCompare.mono _ _ _)
      | (with_reducible exact spec_CRANKnown.mono _ _)
      | (with_reducible exact spec_CRANParse.mono _ _)
      | (with_reducible exact LeO.refl _)
      | (with_reducible exact LeO.none _)
      | (with_reducible refine LeO.ite ?_ ?_)
      | (with_reducible refine LeO.bind ?_ (fun _ => ?_))
      | exact ih0 _ _
      | exact ih1 _ _ _ _
      | exact ih2 _ _ _ _
      | exact ih3 _ _ _ _ _ _
      | exact ih4 _ _ _
      | exact ih5 _ _ _ _ _
      | exact laws_short.mono _ _
      | exact laws_zzFits1.mono _ _
      | exact spec_CRANCompare.mono _ _ _
      | exact spec_CRANKnown.mono _ _
      | exact spec_CRANParse.mono _ _
      | exact LeO.none _
      | refine LeO.ite ?_ ?_
      | refine LeO.bind ?_ (fun _ => ?_)
def laws_FnCRANSorted.T23 : Bool × List (List Nat × List Nat) := (true, [([], []), ([], []), ([], []), ([0, 1, 2], [0, 1, 2]), ([], []), ([4], [4]), ([], []), ([], []), ([6, 7], [6, 7]), ([5, 8], [5, 8]), ([3, 9, 9], [3, 9]), ([10, 10, 0, 1, 2, 3, 4, 5, 6, 7, 8, 9, 10], [0, 6, 10])])
def laws_FnCRANSorted.B23 : List Nat := [0, 0, 0, 7, 0, 16, 0, 0, 192, 496, 1023, 2047]
theorem laws_FnCRANSorted.tab23 : rtab .any (opsOf Tryd.f4 23) = laws_FnCRANSorted.T23 := by kernel_rfl
theorem laws_FnCRANSorted.bits23 : waitsOk laws_FnCRANSorted.T23.2 laws_FnCRANSorted.B23 = true := by kernel_rfl
def laws_FnCRANSorted.T31 : Bool × List (List Nat × List Nat) := (true, [([], []), ([], []), ([0, 1], [0, 1]), ([2], [2]), ([], []), ([], []), ([4, 5], [4, 5]), ([6], [6]), ([3, 7], [3, 7]), ([8], [8]), ([9], [9]), ([9], [9]), ([10, 8, 0, 1, 2, 3, 4, 5, 6, 7, 8, 9, 10], [10]), ([11, 12, 0, 1, 2, 3, 4, 5, 6, 7, 8, 9, 10, 11, 12], [11])])
def laws_FnCRANSorted.B31 : List Nat := [0, 0, 3, 7, 0, 0, 48, 112, 255, 511, 1023, 1023, 2047, 8191]
theorem laws_FnCRANSorted.tab31 : rtab .any (opsOf Tryd.f4 31) = laws_FnCRANSorted.T31 := by kernel_rfl
theorem laws_FnCRANSorted.bits31 : waitsOk laws_FnCRANSorted.T31.2 laws_FnCRANSorted.B31 = true := by kernel_rfl
set_option maxHeartbeats 8000000 in
set_option maxRecDepth 100000 in
theorem laws_FnCRANSorted.calls (k : Nat) (A0 : Option Addr) (c0 : Nat) (l0 : List ByteArray) (r : Bool) (w : World) (hr0 : Kd.C Kd.string w A0 l0.length l0) (hc0 : l0.length ≤ c0) (hG : GW w) (h : laws_FnCRANSorted.f k l0 = some r) :
    Calls Tryd.prog 4 #[.slice A0 l0.length c0] w fun e w' => e = .returned (.bool r) ∧ Below w.heap.size w w' := by
  have HG := Aside0.mk hG
  clear hG
  have HR0 := Aside0.mk hr0
  have HC0 := Aside0.mk hc0
  clear hr0 hc0
  have HB := Aside0.mk (Below.refl w.heap.size w)
  have H : ((laws_zzFits1.f k l0).bind fun t177 => (if t177 = true then (if (l0.length : Int) > 14 then (laws_FnCRANSorted.j0 k l0 true) else ((laws_short.f k l0).bind fun t178 => (laws_FnCRANSorted.j0 k l0 (!t178)))) else (some true))) = some r := h
  clear h
  replace H := Option.bind_eq_some_iff.mp H
  obtain ⟨t177, A20, H⟩ := H
  replace H : (if t177 = true then (if (l0.length : Int) > 14 then (laws_FnCRANSorted.j0 k l0 true) else ((laws_short.f k l0).bind fun t178 => (laws_FnCRANSorted.j0 k l0 (!t178)))) else (some true)) = some r := H
  have A2 := Aside0.mk A20
  clear A20
  by_cases c3 : t177 = true
  · subst c3
    have H1 : (if (l0.length : Int) > 14 then (laws_FnCRANSorted.j0 k l0 true) else ((laws_short.f k l0).bind fun t178 => (laws_FnCRANSorted.j0 k l0 (!t178)))) = some r := by rw [if_pos rfl] at H; exact H
    clear H
    have H := H1
    clear H1
    have HC4 := Aside0.mk H
    clear H
    go_enter Tryd.func4, Tryd.ntmps4
    go_upto_region 3 with (first | ((with_reducible refine gate_callee (f := 16) rfl ?_); refine goesL_ (some 18) rfl rfl Tryd.func16 (by kernel_rfl) rfl #[.slice A0 l0.length c0] rfl (by (try simp only [List.map_toArray, List.map_cons, List.map_nil]); first | done | rfl | (simp only [List.length_drop, List.length_take]; rfl)) ?_; (with_reducible refine (laws_zzFits1.calls k _ _ l0 true _ ?side1 ?side2 A2.out).mono ?_); (case side1 => repeat (first | exact HR0.out | (with_reducible refine Kd.C_alloc ?_ _) | (with_reducible refine Kd.C_drewN ?_ _) | (with_reducible refine Kd.C_drew ?_))); (case side2 => exact HC0.out); rintro e w' ⟨rfl, ⟨nd, rfl⟩⟩; refine ⟨_, rfl, ?_⟩))
    (try simp only [Act.put, List.setIfInBounds_toArray, List.set_cons_zero, List.set_cons_succ])
    go_cut [27] (fun v27 wc => ∃ (kq : Nat) (x27_3 : Bool), v27 = .bool x27_3 ∧ Aside0 (laws_FnCRANSorted.j0 kq l0 x27_3 = some r) ∧ Aside0 (kq ≤ k) ∧ Aside0 (Below w.heap.size w wc))
    case first =>
      have H := HC4.out
      clear HC4
      by_cases c5 : (l0.length : Int) > 14
      · rw [if_pos c5] at H
        have c5b0 : decide (14 < (l0.length : Int)) = true := decide_eq_true c5
        have c5b1 : decide (14 < l0.length) = true := decide_eq_true (by omega)
        clear c5
        (first | rw [c5b0] | (simp only [i64_w, i32_w]; rw [c5b0]) | skip)
        have H' := Aside0.mk H
        clear H
        go_wp2
        go_meet
        case rel => exact ⟨_, (true), (by first | rfl | (simp; done) | (simp [*]; done)), H', ⟨by first | omega | exact Nat.le_refl _⟩, ⟨by repeat (first | (with_reducible first | exact HB.out | apply below_alloc | apply pw_below_drewN | apply below_drew1) | exact HB.out)⟩⟩
      · rw [if_neg c5] at H
        have c5b0 : decide (14 < (l0.length : Int)) = false := decide_eq_false c5
        have c5b1 : decide (14 < l0.length) = false := decide_eq_false (by omega)
        clear c5
        (first | rw [c5b0] | (simp only [i64_w, i32_w]; rw [c5b0]) | skip)
        replace H := Option.bind_eq_some_iff.mp H
        obtain ⟨t178, A60, H⟩ := H
        replace H : (laws_FnCRANSorted.j0 k l0 (!t178)) = some r := H
        have A6 := Aside0.mk A60
        clear A60
        have H' := Aside0.mk H
        clear H
        go_wp2_with (first | (go_at_call 11; (with_reducible refine (laws_short.calls k _ _ l0 t178 _ ?side1 ?side2 A6.out).mono ?_); (case side1 => repeat (first | exact (Kd.C_below HR0.out HB.out) | (with_reducible refine Kd.C_alloc ?_ _) | (with_reducible refine Kd.C_drewN ?_ _) | (with_reducible refine Kd.C_drew ?_))); (case side2 => exact HC0.out); rintro e w' ⟨rfl, ⟨nd, rfl⟩⟩))
        go_meet
        case rel => exact ⟨_, (!t178), (by first | rfl | (simp; done) | (simp [*]; done)), H', ⟨by first | omega | exact Nat.le_refl _⟩, ⟨by repeat (first | (with_reducible first | exact HB.out | apply below_alloc | apply pw_below_drewN | apply below_drew1) | exact HB.out)⟩⟩
    case rest =>
      clear HC4
      try clear c1
      try clear p2
      try clear c3
      try clear c4
      try clear c5
      try clear c5b0
      try clear c5b1
      obtain ⟨kq, x27_3, rfl, HA, HJ3, HB⟩ := hcut
      cases kq with
      | zero => exact absurd HA.out (by simp [laws_FnCRANSorted.j0])
      | succ kj3 =>
        have H := HA.out
        clear HA
        simp only [laws_FnCRANSorted.j0] at H
        by_cases c7 : x27_3 = true
        · subst c7
          have H1 : (some true) = some r := by rw [if_pos rfl] at H; exact H
          clear H
          have H := H1
          clear H1
          obtain rfl := Option.some.inj H
          go_wp2
          go_ret
          exact ⟨by first | rfl | (simp [errW_none, errW_some] <;> rfl) | (simp [*, errW_none, errW_some] <;> rfl), by repeat (first | (with_reducible first | exact HB.out | apply below_alloc | apply pw_below_drewN | apply below_drew1) | exact HB.out)⟩
        · replace c7 := Bool.eq_false_iff.mpr c7
          subst c7
          have H1 : (laws_FnCRANSorted.l0 kj3 l0 l0 (l0.length : Int) 0) = some r := by rw [if_neg (show ¬ (false = true) by decide)] at H; exact H
          clear H
          have H := H1
          clear H1
          have H' := Aside0.mk H
          clear H
          go_wp2
          go_loopg [30] kj3 (fun kq v30 w' => ∃ (x30_2 : Int), v30 = .int .i64 x30_2 ∧ Aside0 (laws_FnCRANSorted.l0 kq l0 l0 (l0.length : Int) x30_2 = some r) ∧ Aside0 (kq ≤ kj3) ∧ Aside0 (Below w.heap.size w w'))
          case atStart => exact ⟨(0), (by first | rfl | (simp; done) | (simp [*]; done)), H', ⟨Nat.le_refl _⟩, ⟨by repeat (first | (with_reducible first | exact HB.out | apply below_alloc | apply pw_below_drewN | apply below_drew1) | exact HB.out)⟩⟩
          case round =>
            clear H'
            try clear c1
            try clear p2
            try clear c3
            try clear c4
            try clear c5
            try clear c5b0
            try clear c5b1
            try clear c7
            try clear p2
            obtain ⟨x30_2, rfl, HA, HK2, HB⟩ := hrel
            cases gk with
            | zero => exact absurd HA.out (by simp [laws_FnCRANSorted.l0])
            | succ k2 =>
              have H := HA.out
              clear HA
              simp only [laws_FnCRANSorted.l0] at H
              by_cases c8 : x30_2 < (l0.length : Int)
              · rw [if_pos c8] at H
                have c8b0 : decide (x30_2 < (l0.length : Int)) = true := decide_eq_true c8
                clear c8
                by_cases c9 : 0 ≤ x30_2
                · rw [if_pos c9] at H
                  have c9b0 : decide (0 ≤ x30_2) = true := decide_eq_true c9
                  clear c9
                  by_cases c10 : x30_2 < (l0.length : Int)
                  · rw [if_pos c10] at H
                    have c10b0 : decide (x30_2 < (l0.length : Int)) = true := decide_eq_true c10
                    clear c10
                    replace H := Option.bind_eq_some_iff.mp H
                    obtain ⟨⟨t180, t181⟩, A110, H⟩ := H
                    replace H : (if t181 = true then ((spec_CRANKnown.f k2 (rdOf ByteArray.empty l0 x30_2)).bind fun t184 => (if t184 = true then (laws_FnCRANSorted.l0 k2 l0 l0 (l0.length : Int) (wrap64 (x30_2 + 1))) else (some true))) else (some true)) = some r := H
                    have A11 := Aside0.mk A110
                    clear A110
                    by_cases c12 : t181 = true
                    · subst c12
                      have H1 : ((spec_CRANKnown.f k2 (rdOf ByteArray.empty l0 x30_2)).bind fun t184 => (if t184 = true then (laws_FnCRANSorted.l0 k2 l0 l0 (l0.length : Int) (wrap64 (x30_2 + 1))) else (some true))) = some r := by rw [if_pos rfl] at H; exact H
                      clear H
                      have H := H1
                      clear H1
                      replace H := Option.bind_eq_some_iff.mp H
                      obtain ⟨t184, A130, H⟩ := H
                      replace H : (if t184 = true then (laws_FnCRANSorted.l0 k2 l0 l0 (l0.length : Int) (wrap64 (x30_2 + 1))) else (some true)) = some r := H
                      have A13 := Aside0.mk A130
                      clear A130
                      by_cases c14 : t184 = true
                      · subst c14
                        have H1 : (laws_FnCRANSorted.l0 k2 l0 l0 (l0.length : Int) (wrap64 (x30_2 + 1))) = some r := by rw [if_pos rfl] at H; exact H
                        clear H
                        have H := H1
                        clear H1
                        have H' := Aside0.mk H
                        clear H
                        have p179 : 0 ≤ (x30_2 : Int) := of_decide_eq_true (by first | (with_reducible assumption) | assumption)
                        have q179 : x30_2 < (l0.length : Int) := of_decide_eq_true (by first | (with_reducible assumption) | assumption)
                        obtain ⟨ad179, e179, hx179_0⟩ := Kd.at_string HR0.out x30_2 p179 q179
                        cases e179
                        replace hx179_0 := (HB.out.cell (World.block_lt_of_cell? w _ hx179_0)).trans hx179_0
                        replace p179 := eq_true p179
                        replace q179 := eq_true q179
                        go_wp2_with (first | ((with_reducible refine gate_callee (f := 14) rfl ?_); refine goesL_ (some 36) rfl rfl Tryd.func14 (by kernel_rfl) rfl #[.string (rdOf ByteArray.empty l0 x30_2)] rfl (by (try simp only [List.map_toArray, List.map_cons, List.map_nil]); first | done | rfl | (simp only [List.length_drop, List.length_take]; rfl)) ?_; (with_reducible refine (spec_CRANParse.calls k2 (rdOf ByteArray.empty l0 x30_2) t180 true _ A11.out).mono ?_); rintro e w15 ⟨v182, rfl, ho0, hb⟩; refine ⟨_, rfl, ?_⟩; have n0_ := Aside0.mk (Kd.R_lower ho0 (below_size (by repeat (first | (with_reducible first | exact HB.out | apply below_alloc | apply pw_below_drewN | apply below_drew1) | exact HB.out)))); have n1_ := Aside0.mk (below_step (by repeat (first | (with_reducible first | exact HB.out | apply below_alloc | apply pw_below_drewN | apply below_drew1) | exact HB.out)) hb); clear HB; have HO183 := n0_; have HB := n1_; clear n0_ n1_; (try clear hb); (try clear hb2); (try clear hk); (try clear hi); (try clear ho0)) | (go_at_call 12; (with_reducible refine (spec_CRANKnown.calls k2 (rdOf ByteArray.empty l0 x30_2) true _ A13.out).mono ?_); rintro e w' ⟨rfl, ⟨nd, rfl⟩⟩))
                        go_roundg k2
                        case measure => have := HJ3.out; have := HK2.out; omega
                        case rel => exact ⟨(wrap64 (x30_2 + 1)), (by first | rfl | (simp; done) | (simp [*]; done)), H', ⟨by have := HJ3.out; have := HK2.out; omega⟩, ⟨by repeat (first | (with_reducible first | exact HB.out | apply below_alloc | apply pw_below_drewN | apply below_drew1) | exact HB.out)⟩⟩
                      · replace c14 := Bool.eq_false_iff.mpr c14
                        subst c14
                        have H1 : (some true) = some r := by rw [if_neg (show ¬ (false = true) by decide)] at H; exact H
                        clear H
                        have H := H1
                        clear H1
                        obtain rfl := Option.some.inj H
                        have p179 : 0 ≤ (x30_2 : Int) := of_decide_eq_true (by first | (with_reducible assumption) | assumption)
                        have q179 : x30_2 < (l0.length : Int) := of_decide_eq_true (by first | (with_reducible assumption) | assumption)
                        obtain ⟨ad179, e179, hx179_0⟩ := Kd.at_string HR0.out x30_2 p179 q179
                        cases e179
                        replace hx179_0 := (HB.out.cell (World.block_lt_of_cell? w _ hx179_0)).trans hx179_0
                        replace p179 := eq_true p179
                        replace q179 := eq_true q179
                        go_wp2_with (first | ((with_reducible refine gate_callee (f := 14) rfl ?_); refine goesL_ (some 36) rfl rfl Tryd.func14 (by kernel_rfl) rfl #[.string (rdOf ByteArray.empty l0 x30_2)] rfl (by (try simp only [List.map_toArray, List.map_cons, List.map_nil]); first | done | rfl | (simp only [List.length_drop, List.length_take]; rfl)) ?_; (with_reducible refine (spec_CRANParse.calls k2 (rdOf ByteArray.empty l0 x30_2) t180 true _ A11.out).mono ?_); rintro e w16 ⟨v182, rfl, ho0, hb⟩; refine ⟨_, rfl, ?_⟩; have n0_ := Aside0.mk (Kd.R_lower ho0 (below_size (by repeat (first | (with_reducible first | exact HB.out | apply below_alloc | apply pw_below_drewN | apply below_drew1) | exact HB.out)))); have n1_ := Aside0.mk (below_step (by repeat (first | (with_reducible first | exact HB.out | apply below_alloc | apply pw_below_drewN | apply below_drew1) | exact HB.out)) hb); clear HB; have HO183 := n0_; have HB := n1_; clear n0_ n1_; (try clear hb); (try clear hb2); (try clear hk); (try clear hi); (try clear ho0)) | (go_at_call 12; (with_reducible refine (spec_CRANKnown.calls k2 (rdOf ByteArray.empty l0 x30_2) false _ A13.out).mono ?_); rintro e w' ⟨rfl, ⟨nd, rfl⟩⟩))
                        go_ret
                        exact ⟨by first | rfl | (simp [errW_none, errW_some] <;> rfl) | (simp [*, errW_none, errW_some] <;> rfl), by repeat (first | (with_reducible first | exact HB.out | apply below_alloc | apply pw_below_drewN | apply below_drew1) | exact HB.out)⟩
                    · replace c12 := Bool.eq_false_iff.mpr c12
                      subst c12
                      have H1 : (some true) = some r := by rw [if_neg (show ¬ (false = true) by decide)] at H; exact H
                      clear H
                      have H := H1
                      clear H1
                      obtain rfl := Option.some.inj H
                      have p179 : 0 ≤ (x30_2 : Int) := of_decide_eq_true (by first | (with_reducible assumption) | assumption)
                      have q179 : x30_2 < (l0.length : Int) := of_decide_eq_true (by first | (with_reducible assumption) | assumption)
                      obtain ⟨ad179, e179, hx179_0⟩ := Kd.at_string HR0.out x30_2 p179 q179
                      cases e179
                      replace hx179_0 := (HB.out.cell (World.block_lt_of_cell? w _ hx179_0)).trans hx179_0
                      replace p179 := eq_true p179
                      replace q179 := eq_true q179
                      go_wp2_with (first | ((with_reducible refine gate_callee (f := 14) rfl ?_); refine goesL_ (some 36) rfl rfl Tryd.func14 (by kernel_rfl) rfl #[.string (rdOf ByteArray.empty l0 x30_2)] rfl (by (try simp only [List.map_toArray, List.map_cons, List.map_nil]); first | done | rfl | (simp only [List.length_drop, List.length_take]; rfl)) ?_; (with_reducible refine (spec_CRANParse.calls k2 (rdOf ByteArray.empty l0 x30_2) t180 false _ A11.out).mono ?_); rintro e w17 ⟨v182, rfl, ho0, hb⟩; refine ⟨_, rfl, ?_⟩; have n0_ := Aside0.mk (Kd.R_lower ho0 (below_size (by repeat (first | (with_reducible first | exact HB.out | apply below_alloc | apply pw_below_drewN | apply below_drew1) | exact HB.out)))); have n1_ := Aside0.mk (below_step (by repeat (first | (with_reducible first | exact HB.out | apply below_alloc | apply pw_below_drewN | apply below_drew1) | exact HB.out)) hb); clear HB; have HO183 := n0_; have HB := n1_; clear n0_ n1_; (try clear hb); (try clear hb2); (try clear hk); (try clear hi); (try clear ho0)))
                      go_ret
                      exact ⟨by first | rfl | (simp [errW_none, errW_some] <;> rfl) | (simp [*, errW_none, errW_some] <;> rfl), by repeat (first | (with_reducible first | exact HB.out | apply below_alloc | apply pw_below_drewN | apply below_drew1) | exact HB.out)⟩
                  · rw [if_neg c10] at H
                    exact absurd H (by simp)
                · rw [if_neg c9] at H
                  exact absurd H (by simp)
              · rw [if_neg c8] at H
                have c8b0 : decide (x30_2 < (l0.length : Int)) = false := decide_eq_false c8
                clear c8
                have H' := Aside0.mk H
                clear H
                go_wp2
                go_loopg [7, 49] k2 (fun kq v7 v49 w' => ∃ (x7_3 : List ByteArray) (x49_3 : Int), v49 = .int .i64 x49_3 ∧ Aside0 (laws_FnCRANSorted.l1 kq x7_3 l0 (l0.length : Int) x49_3 = some r) ∧ Aside0 (kq ≤ k2) ∧ Aside0 (Kd.R Kd.string 9 w' w.heap.size (fun _ => True) v7 x7_3) ∧ Aside0 (Below w.heap.size w w'))
                case atStart => exact ⟨(([] : List ByteArray)), (0), (by first | rfl | (simp; done) | (simp [*]; done)), H', ⟨Nat.le_refl _⟩, ⟨by first | exact Kd.R_nil _ _ _ _ _ | exact Kd.N_nil _ _ _ _ _ | exact Kd.V_nil _ _ _ _ _ | exact Kd.Q_nil _ _ _ _ _ | exact Kd.S_nil _ _ _ _ _⟩, ⟨by repeat (first | (with_reducible first | exact HB.out | apply below_alloc | apply pw_below_drewN | apply below_drew1) | exact HB.out)⟩⟩
                case round =>
                  clear H'
                  try clear c1
                  try clear p1
                  try clear q1
                  try clear hx1
                  try clear p2
                  try clear c3
                  try clear c4
                  try clear c5
                  try clear c5b0
                  try clear c5b1
                  try clear p6
                  try clear c7
                  try clear c8
                  try clear c8b0
                  try clear c9
                  try clear c9b0
                  try clear c10
                  try clear c10b0
                  try clear c12
                  try clear c14
                  try clear c16
                  try clear p17
                  try clear q17
                  try clear hx17
                  try clear hx179_0
                  try clear p179
                  try clear p2
                  try clear q179
                  obtain ⟨x7_3, x49_3, rfl, HA, HK3, HO_7, HB⟩ := hrel
                  cases gk with
                  | zero => exact absurd HA.out (by simp [laws_FnCRANSorted.l1])
                  | succ k3 =>
                    have H := HA.out
                    clear HA
                    simp only [laws_FnCRANSorted.l1] at H
                    by_cases c18 : x49_3 < (l0.length : Int)
                    · rw [if_pos c18] at H
                      have c18b0 : decide (x49_3 < (l0.length : Int)) = true := decide_eq_true c18
                      clear c18
                      by_cases c19 : 0 ≤ x49_3
                      · rw [if_pos c19] at H
                        have c19b0 : decide (0 ≤ x49_3) = true := decide_eq_true c19
                        clear c19
                        by_cases c20 : x49_3 < (l0.length : Int)
                        · rw [if_pos c20] at H
                          have c20b0 : decide (x49_3 < (l0.length : Int)) = true := decide_eq_true c20
                          clear c20
                          have H' := Aside0.mk H
                          clear H
                          have p185 : 0 ≤ (x49_3 : Int) := of_decide_eq_true (by first | (with_reducible assumption) | assumption)
                          have q185 : x49_3 < (l0.length : Int) := of_decide_eq_true (by first | (with_reducible assumption) | assumption)
                          obtain ⟨ad185, e185, hx185_0⟩ := Kd.at_string HR0.out x49_3 p185 q185
                          cases e185
                          replace hx185_0 := (HB.out.cell (World.block_lt_of_cell? w _ hx185_0)).trans hx185_0
                          replace p185 := eq_true p185
                          replace q185 := eq_true q185
                          go_wp2
                          go_loopg [10] k3 (fun kq v10 w' => ∃ (x10_4 : Int), v10 = .int .i64 x10_4 ∧ Aside0 (laws_FnCRANSorted.l2 kq x7_3 (rdOf ByteArray.empty l0 x49_3) x10_4 l0 (l0.length : Int) x49_3 = some r) ∧ Aside0 (kq ≤ k3) ∧ Aside0 (Kd.R Kd.string 9 w' w.heap.size (fun _ => True) u7 x7_3) ∧ Aside0 (Below w.heap.size w w'))
                          case atStart => exact ⟨(0), (by first | rfl | (simp; done) | (simp [*]; done)), H', ⟨Nat.le_refl _⟩, ⟨by (with_reducible repeat (first | apply Kd.R_alloc | apply Kd.R_drewN | apply Kd.R_drew)); exact HO_7.out⟩, ⟨by repeat (first | (with_reducible first | exact HB.out | apply below_alloc | apply pw_below_drewN | apply below_drew1) | exact HB.out)⟩⟩
                          case round =>
                            clear H'
                            try clear c1
                            try clear p1
                            try clear q1
                            try clear hx1
                            try clear c2
                            try clear p2
                            try clear c3
                            try clear c4
                            try clear c5
                            try clear c5b0
                            try clear c5b1
                            try clear p6
                            try clear c7
                            try clear c8
                            try clear c8b0
                            try clear c9
                            try clear c9b0
                            try clear c10
                            try clear c10b0
                            try clear c12
                            try clear c14
                            try clear c16
                            try clear p17
                            try clear q17
                            try clear hx17
                            try clear c18
                            try clear c18b0
                            try clear p18
                            try clear q18
                            try clear hx18
                            try clear c19
                            try clear c19b0
                            try clear c20
                            try clear c20b0
                            try clear hx179_0
                            try clear hx185_0
                            try clear p1
                            try clear p17
                            try clear p179
                            try clear p185
                            try clear p2
                            try clear p6
                            try clear q1
                            try clear q17
                            try clear q179
                            try clear q185
                            obtain ⟨x10_4, rfl, HA, HK4, HO_7, HB⟩ := hrel
                            cases gk with
                            | zero => exact absurd HA.out (by simp [laws_FnCRANSorted.l2])
                            | succ k4 =>
                              have H := HA.out
                              clear HA
                              simp only [laws_FnCRANSorted.l2] at H
                              by_cases c21 : x10_4 < (x7_3.length : Int)
                              · rw [if_pos c21] at H
                                have c21b0 : decide (x10_4 < (x7_3.length : Int)) = true := decide_eq_true c21
                                clear c21
                                by_cases c22 : 0 ≤ x10_4
                                · rw [if_pos c22] at H
                                  have c22b0 : decide (0 ≤ x10_4) = true := decide_eq_true c22
                                  clear c22
                                  replace H := Option.bind_eq_some_iff.mp H
                                  obtain ⟨⟨t204, t205⟩, A230, H⟩ := H
                                  replace H : (if t205 = true then (if t204 > 0 then (if x10_4 ≤ (x7_3.length : Int) then ((some (x7_3.take (x10_4 : Int).toNat : List ByteArray)).bind fun y206 => ((some (([(rdOf ByteArray.empty l0 x49_3)] : List ByteArray) : List ByteArray)).bind fun y210 => ((some (x7_3.drop (x10_4 : Int).toNat : List ByteArray)).bind fun y213 => (if y210.length + y213.length < 8796093022208 then ((some (y210 ++ y213 : List ByteArray)).bind fun y217 => (if 0 < y217.length then (if y206.length + y217.length < 8796093022208 then (laws_FnCRANSorted.l1 k4 (y206 ++ y217) l0 (l0.length : Int) (wrap64 (x49_3 + 1))) else (none)) else (none))) else (none))))) else (none)) else (laws_FnCRANSorted.l2 k4 x7_3 (rdOf ByteArray.empty l0 x49_3) (wrap64 (x10_4 + 1)) l0 (l0.length : Int) x49_3)) else (some false)) = some r := H
                                  have A23 := Aside0.mk A230
                                  clear A230
                                  by_cases c24 : t205 = true
                                  · subst c24
                                    have H1 : (if t204 > 0 then (if x10_4 ≤ (x7_3.length : Int) then ((some (x7_3.take (x10_4 : Int).toNat : List ByteArray)).bind fun y206 => ((some (([(rdOf ByteArray.empty l0 x49_3)] : List ByteArray) : List ByteArray)).bind fun y210 => ((some (x7_3.drop (x10_4 : Int).toNat : List ByteArray)).bind fun y213 => (if y210.length + y213.length < 8796093022208 then ((some (y210 ++ y213 : List ByteArray)).bind fun y217 => (if 0 < y217.length then (if y206.length + y217.length < 8796093022208 then (laws_FnCRANSorted.l1 k4 (y206 ++ y217) l0 (l0.length : Int) (wrap64 (x49_3 + 1))) else (none)) else (none))) else (none))))) else (none)) else (laws_FnCRANSorted.l2 k4 x7_3 (rdOf ByteArray.empty l0 x49_3) (wrap64 (x10_4 + 1)) l0 (l0.length : Int) x49_3)) = some r := by rw [if_pos rfl] at H; exact H
                                    clear H
                                    have H := H1
                                    clear H1
                                    by_cases c25 : t204 > 0
                                    · rw [if_pos c25] at H
                                      have c25b0 : decide (0 < t204) = true := decide_eq_true c25
                                      clear c25
                                      have c26b0 := eq_true (of_decide_eq_true (by first | (with_reducible assumption) | assumption) : 0 ≤ x10_4)
                                      by_cases c27 : x10_4 ≤ (x7_3.length : Int)
                                      · rw [if_pos c27] at H
                                        have c27b0 := eq_true c27
                                        have c27b1 : decide (x10_4 ≤ (x7_3.length : Int)) = true := decide_eq_true c27
                                        clear c27
                                        obtain ⟨y206, hy206⟩ : ∃ y_ : List ByteArray, y_ = (x7_3.take (x10_4 : Int).toNat) := ⟨_, rfl⟩
                                        replace H : ((some (([(rdOf ByteArray.empty l0 x49_3)] : List ByteArray) : List ByteArray)).bind fun y210 => ((some (x7_3.drop (x10_4 : Int).toNat : List ByteArray)).bind fun y213 => (if y210.length + y213.length < 8796093022208 then ((some (y210 ++ y213 : List ByteArray)).bind fun y217 => (if 0 < y217.length then (if y206.length + y217.length < 8796093022208 then (laws_FnCRANSorted.l1 k4 (y206 ++ y217) l0 (l0.length : Int) (wrap64 (x49_3 + 1))) else (none)) else (none))) else (none)))) = some r := by first | (rw [hy206]; with_reducible exact H) | (have H2_ := (Option.bind_some _ _).symm.trans H; rw [hy206]; with_reducible exact H2_) | (have H2_ := (Option.bind_some _ _).symm.trans H; with_reducible exact H2_) | with_reducible exact H | (rw [hy206]; exact H) | exact H
                                        have Ny206 := Aside0.mk hy206
                                        clear hy206
                                        obtain ⟨y210, hy210⟩ : ∃ y_ : List ByteArray, y_ = (([(rdOf ByteArray.empty l0 x49_3)] : List ByteArray)) := ⟨_, rfl⟩
                                        replace H : ((some (x7_3.drop (x10_4 : Int).toNat : List ByteArray)).bind fun y213 => (if y210.length + y213.length < 8796093022208 then ((some (y210 ++ y213 : List ByteArray)).bind fun y217 => (if 0 < y217.length then (if y206.length + y217.length < 8796093022208 then (laws_FnCRANSorted.l1 k4 (y206 ++ y217) l0 (l0.length : Int) (wrap64 (x49_3 + 1))) else (none)) else (none))) else (none))) = some r := by first | (rw [hy210]; with_reducible exact H) | (have H2_ := (Option.bind_some _ _).symm.trans H; rw [hy210]; with_reducible exact H2_) | (have H2_ := (Option.bind_some _ _).symm.trans H; with_reducible exact H2_) | with_reducible exact H | (rw [hy210]; exact H) | exact H
                                        have Ny210 := Aside0.mk hy210
                                        clear hy210
                                        have c28b0 := eq_true (of_decide_eq_true (by first | (with_reducible assumption) | assumption) : 0 ≤ x10_4)
                                        have c29b0 := eq_true (of_decide_eq_true (by first | (with_reducible assumption) | assumption) : x10_4 ≤ (x7_3.length : Int))
                                        obtain ⟨y213, hy213⟩ : ∃ y_ : List ByteArray, y_ = (x7_3.drop (x10_4 : Int).toNat) := ⟨_, rfl⟩
                                        replace H : (if y210.length + y213.length < 8796093022208 then ((some (y210 ++ y213 : List ByteArray)).bind fun y217 => (if 0 < y217.length then (if y206.length + y217.length < 8796093022208 then (laws_FnCRANSorted.l1 k4 (y206 ++ y217) l0 (l0.length : Int) (wrap64 (x49_3 + 1))) else (none)) else (none))) else (none)) = some r := by first | (rw [hy213]; with_reducible exact H) | (have H2_ := (Option.bind_some _ _).symm.trans H; rw [hy213]; with_reducible exact H2_) | (have H2_ := (Option.bind_some _ _).symm.trans H; with_reducible exact H2_) | with_reducible exact H | (rw [hy213]; exact H) | exact H
                                        have Ny213 := Aside0.mk hy213
                                        clear hy213
                                        by_cases c30 : y210.length + y213.length < 8796093022208
                                        · rw [if_pos c30] at H
                                          have LMc30 := Aside0.mk c30
                                          clear c30
                                          obtain ⟨y217, hy217⟩ : ∃ y_ : List ByteArray, y_ = (y210 ++ y213) := ⟨_, rfl⟩
                                          replace H : (if 0 < y217.length then (if y206.length + y217.length < 8796093022208 then (laws_FnCRANSorted.l1 k4 (y206 ++ y217) l0 (l0.length : Int) (wrap64 (x49_3 + 1))) else (none)) else (none)) = some r := by first | (rw [hy217]; with_reducible exact H) | (have H2_ := (Option.bind_some _ _).symm.trans H; rw [hy217]; with_reducible exact H2_) | (have H2_ := (Option.bind_some _ _).symm.trans H; with_reducible exact H2_) | with_reducible exact H | (rw [hy217]; exact H) | exact H
                                          have Ny217 := Aside0.mk hy217
                                          clear hy217
                                          by_cases c31 : 0 < y217.length
                                          · rw [if_pos c31] at H
                                            have c31b0 := eq_true c31
                                            have c31b1 : decide (0 < y217.length) = true := decide_eq_true c31
                                            clear c31
                                            by_cases c32 : y206.length + y217.length < 8796093022208
                                            · rw [if_pos c32] at H
                                              have LMc32 := Aside0.mk c32
                                              clear c32
                                              obtain ⟨y220, hy220⟩ : ∃ y_ : List ByteArray, y_ = (y206 ++ y217) := ⟨_, rfl⟩
                                              replace H : (laws_FnCRANSorted.l1 k4 y220 l0 (l0.length : Int) (wrap64 (x49_3 + 1))) = some r := by first | (rw [hy220]; with_reducible exact H) | (have H2_ := (Option.bind_some _ _).symm.trans H; rw [hy220]; with_reducible exact H2_) | (have H2_ := (Option.bind_some _ _).symm.trans H; with_reducible exact H2_) | with_reducible exact H | (rw [hy220]; exact H) | exact H
                                              have Ny220 := Aside0.mk hy220
                                              clear hy220
                                              have H' := Aside0.mk H
                                              clear H
                                              obtain ⟨Ao33, co33, eo33⟩ := Kd.R_slice HO_7.out
                                              subst eo33
                                              have p203 : 0 ≤ (x10_4 : Int) := of_decide_eq_true (by first | (with_reducible assumption) | assumption)
                                              have q203 : x10_4 < (x7_3.length : Int) := of_decide_eq_true (by first | (with_reducible assumption) | assumption)
                                              obtain ⟨ad203, e203, hx203_0⟩ := Kd.at_string (Kd.R_reads' HO_7.out).2.2 x10_4 p203 q203
                                              cases e203
                                              replace p203 := eq_true p203
                                              replace q203 := eq_true q203
                                              try go_wp2_with (first | ((with_reducible refine gate_callee (f := 17) rfl ?_); refine goesL_ (some 63) rfl rfl Tryd.func17 (by kernel_rfl) rfl #[.string (rdOf ByteArray.empty x7_3 x10_4), .string (rdOf ByteArray.empty l0 x49_3)] rfl (by (try simp only [List.map_toArray, List.map_cons, List.map_nil]); first | done | rfl | (simp only [List.length_drop, List.length_take]; rfl)) ?_; (with_reducible refine (impl_CRANCompare.calls (rdOf ByteArray.empty x7_3 x10_4) (rdOf ByteArray.empty l0 x49_3) t204 true _ ?side1 A23.out).mono ?_); (case side1 => first | exact HG.out | exact GW.below HG.out (by repeat (first | (with_reducible first | exact HB.out | exact Below.refl _ _ | apply below_alloc | apply pw_below_drewN | apply below_drew1 | apply below_drew | refine below_set ?_ (Aside0.out (by assumption))) | exact HB.out))); rintro e w34 ⟨rfl, hb⟩; refine ⟨_, rfl, ?_⟩; have n0_ := Aside0.mk (Kd.R_below (by (with_reducible repeat (first | apply Kd.R_alloc | apply Kd.R_drewN | apply Kd.R_drew)); exact HO_7.out) hb); have n1_ := Aside0.mk (below_step (by repeat (first | (with_reducible first | exact HB.out | apply below_alloc | apply pw_below_drewN | apply below_drew1) | exact HB.out)) hb); clear HO_7; clear HB; have HO_7 := n0_; have HB := n1_; clear n0_ n1_; (try clear hb); (try clear hb2); (try clear hk); (try clear hi)))
                                              have n0_ := Aside0.mk (Kd.R_drew HO_7.out)
                                              have n1_ := Aside0.mk (below_drew1 HB.out)
                                              clear HO_7
                                              clear HB
                                              have HO_7 := n0_
                                              have HB := n1_
                                              clear n0_ n1_
                                              have q36 : (x10_4 : Int) ≤ ((x7_3.length : Int) : Int) := of_decide_eq_true (by first | (with_reducible assumption) | assumption)
                                              obtain ⟨i036, hi036, _, hsz36, _⟩ := info_parts info9
                                              have hroom36 : x7_3.length ≤ co33 := (Kd.R_reads' HO_7.out).2.1
                                              have hC36 : Kd.C Kd.string _ (some ad203) x7_3.length x7_3 := (Kd.R_reads' HO_7.out).2.2
                                              have hcut36 := Go.Proofs.YtmhlmkefnmdbcaaDoor.Af.cut_full (P := Tryd.prog) 28 9 .i64 .i64 Tryd.underlying28 hi036 (some ad203) x7_3.length co33 x10_4 (of_decide_eq_true (by first | (with_reducible assumption) | assumption)) q36 hroom36
                                              have hr36 := Kd.C_take (m := (x10_4 : Int).toNat) hC36 (by omega)
                                              have hy36 : y206.length = (x10_4 : Int).toNat := (by rw [Ny206.out, List.length_take]; omega)
                                              rw [← Ny206.out] at hr36
                                              rw [← hy36] at hcut36
                                              have HR209 := Aside0.mk hr36
                                              have HC209 := Aside0.mk (show y206.length ≤ y206.length from by omega)
                                              clear hr36 hC36 hroom36 hi036 hsz36
                                              have KY36 := Aside0.mk hy36
                                              clear hy36
                                              have KL36 := Aside0.mk (show (x10_4 : Int).toNat ≤ x7_3.length from by omega)
                                              replace q36 := eq_true q36
                                              have q37 : (x10_4 : Int) ≤ ((x7_3.length : Int) : Int) := of_decide_eq_true (by first | (with_reducible assumption) | assumption)
                                              obtain ⟨i037, hi037, _, hsz37, _⟩ := info_parts info9
                                              have hroom37 : x7_3.length ≤ co33 := (Kd.R_reads' HO_7.out).2.1
                                              have hC37 : Kd.C Kd.string _ (some ad203) x7_3.length x7_3 := (Kd.R_reads' HO_7.out).2.2
                                              have q037 : (0 : Int) ≤ (x10_4 : Int) := of_decide_eq_true (by first | (with_reducible assumption) | assumption)
                                              have hcut37 := cut_from (P := Tryd.prog) 28 9 .i64 Tryd.underlying28 hi037 1 hsz37 (some ad203) x7_3.length co33 x10_4 q037 q37
                                              have hr37 := Kd.C_drop (m := (x10_4 : Int).toNat) (c := co33) hC37 (by omega) hroom37
                                              obtain ⟨A37, hA37⟩ : ∃ A1, A1 = (if co33 = (x10_4 : Int).toNat then (some ad203) else ((some ad203) : Option Addr).map (·.add ((x10_4 : Int).toNat * 1))) := ⟨_, rfl⟩
                                              obtain ⟨c37, hc37⟩ : ∃ c1, c1 = co33 - (x10_4 : Int).toNat := ⟨_, rfl⟩
                                              have hy37 : y213.length = x7_3.length - (x10_4 : Int).toNat := (by rw [Ny213.out, List.length_drop] <;> omega)
                                              rw [show (x7_3).drop (x10_4 : Int).toNat = y213 from Ny213.out.symm] at hr37
                                              replace hr37 : Kd.C Kd.string _ A37 y213.length y213 := (by rw [hA37]; exact hr37)
                                              rw [← hy37, ← hA37, ← hc37] at hcut37
                                              have HR216 := Aside0.mk hr37
                                              have HC216 := Aside0.mk (show y213.length ≤ c37 from by rw [hy37, hc37]; exact Nat.sub_le_sub_right hroom37 _)
                                              clear hr37 hC37 hroom37 hi037 hsz37 hc37
                                              have KY37 := Aside0.mk hy37
                                              have KA37 := Aside0.mk hA37
                                              clear hy37 hA37
                                              have KL37 := Aside0.mk (show (x10_4 : Int).toNat ≤ x7_3.length from by omega)
                                              replace q37 := eq_true q37
                                              refine start_ (n := 12) (S := fun w' => True) (ds := []) #[false, false, false, false, false, false, false, false, false, false, false, false] (by kernel_rfl) rfl rfl trivial (fun hHeld => ?_); refine with_tabW laws_FnCRANSorted.tab23 laws_FnCRANSorted.bits23 (fun HT_ HW_ => ?_)
                                              generalize w34.drew = w35 at HO_7 HB HR209 HR216 hHeld ⊢
                                              refine pure_ (i := 0) (N := some 72) (v := ?_) (a' := ?_) #[true, false, false, false, false, false, false, false, false, false, false, false] rfl rfl (any_of HT_.out (by kernel_rfl)) (fun _ _ _ h => h) (Or.inl ⟨by rfl, ?_⟩) ?_ ?_
                                              rotate_left
                                              · intro w'
                                                go_simp
                                                with_reducible rfl
                                              rotate_left
                                              · simp only [Act.put, List.setIfInBounds_toArray, List.set_cons_zero, List.set_cons_succ, i64_w, i32_w]
                                                rfl
                                              refine pure_ (i := 1) (N := some 73) (v := ?_) (a' := ?_) #[true, true, false, false, false, false, false, false, false, false, false, false] rfl rfl (any_of HT_.out (by kernel_rfl)) (fun _ _ _ h => h) (Or.inl ⟨by rfl, ?_⟩) ?_ ?_
                                              rotate_left
                                              · intro w'
                                                go_simp
                                                with_reducible rfl
                                              rotate_left
                                              · simp only [Act.put, List.setIfInBounds_toArray, List.set_cons_zero, List.set_cons_succ, i64_w, i32_w]
                                                rfl
                                              refine pure_ (i := 2) (N := some 74) (v := ?_) (a' := ?_) #[true, true, true, false, false, false, false, false, false, false, false, false] rfl rfl (any_of HT_.out (by kernel_rfl)) (fun _ _ _ h => h) (Or.inl ⟨by rfl, ?_⟩) ?_ ?_
                                              rotate_left
                                              · intro w'
                                                go_simp
                                                with_reducible rfl
                                              rotate_left
                                              · simp only [Act.put, List.setIfInBounds_toArray, List.set_cons_zero, List.set_cons_succ, i64_w, i32_w]
                                                rfl
                                              refine pure_ (i := 3) (N := some 75) (v := ?_) (a' := ?_) #[true, true, true, true, false, false, false, false, false, false, false, false] rfl rfl (any_of HT_.out (by kernel_rfl)) (fun _ _ _ h => h) (Or.inl ⟨by rfl, ?_⟩) ?_ ?_
                                              rotate_left
                                              · intro w'
                                                go_simp
                                                with_reducible rfl
                                              rotate_left
                                              · simp only [Act.put, List.setIfInBounds_toArray, List.set_cons_zero, List.set_cons_succ, i64_w, i32_w]
                                                rfl
                                              refine pure_ (i := 4) (N := some 76) (v := ?_) (a' := ?_) #[true, true, true, true, true, false, false, false, false, false, false, false] rfl rfl (any_of HT_.out (by kernel_rfl)) (fun _ _ _ h => h) (Or.inl ⟨by rfl, ?_⟩) ?_ ?_
                                              rotate_left
                                              · intro w'
                                                go_simp
                                                with_reducible rfl
                                              rotate_left
                                              · simp only [Act.put, List.setIfInBounds_toArray, List.set_cons_zero, List.set_cons_succ, i64_w, i32_w]
                                                rfl
                                              refine pure_ (i := 6) (N := some 78) (v := ?_) (a' := ?_) #[true, true, true, true, true, false, true, false, false, false, false, false] rfl rfl (any_of HT_.out (by kernel_rfl)) (fun _ _ _ h => h) (Or.inl ⟨by rfl, ?_⟩) ?_ ?_
                                              rotate_left
                                              · intro w'
                                                go_simp
                                                with_reducible rfl
                                              rotate_left
                                              · simp only [Act.put, List.setIfInBounds_toArray, List.set_cons_zero, List.set_cons_succ, i64_w, i32_w]
                                                rfl
                                              refine pure_ (i := 7) (N := some 79) (v := ?_) (a' := ?_) #[true, true, true, true, true, false, true, true, false, false, false, false] rfl rfl (any_of HT_.out (by kernel_rfl)) (fun _ _ _ h => h) (Or.inl ⟨by rfl, ?_⟩) ?_ ?_
                                              rotate_left
                                              · intro w'
                                                go_simp
                                                with_reducible rfl
                                              rotate_left
                                              · simp only [Act.put, List.setIfInBounds_toArray, List.set_cons_zero, List.set_cons_succ, i64_w, i32_w]
                                                rfl
                                              refine pure_ (i := 8) (N := some 80) (v := ?_) (a' := ?_) #[true, true, true, true, true, false, true, true, true, false, false, false] rfl rfl (any_of HT_.out (by kernel_rfl)) (fun _ _ _ h => h) (Or.inl ⟨by rfl, ?_⟩) ?_ ?_
                                              rotate_left
                                              · intro w'
                                                go_simp
                                                with_reducible rfl
                                              rotate_left
                                              · simp only [Act.put, List.setIfInBounds_toArray, List.set_cons_zero, List.set_cons_succ, i64_w, i32_w]
                                                rfl
                                              refine one_ (i := 5) (N := some 77) #[true, true, true, true, true, true, true, true, true, false, false, false] rfl rfl (one_of HT_.out (by kernel_rfl)) (by decide) (fun K hK => ?_)
                                              refine Kd.R_lit_step Kd.string _ 9 ?hg (N := 77) ?hd (xs := ([(rdOf ByteArray.empty l0 x49_3)] : List ByteArray)) (inner := [.string (rdOf ByteArray.empty l0 x49_3)]) (ok := fun _ => True) (okp := fun _ => True) ?hr ?hp (fun _ hk => hk) trivial (Below.refl _ _) (Nat.le_refl _) (by simp) ?_; (case hd => rfl); (case hg => rfl); (case hr => first | (go_simp; done) | (go_simp; rfl)); (case hp => exact (Reps.one (show Kd.M Kd.string _ _ _ (rdOf ByteArray.empty l0 x49_3) [.string (rdOf ByteArray.empty l0 x49_3)] from rfl) (Reps.none _ _)))
                                              intro v211 w38 ho39 hb hg_ hnew_
                                              clear hg_ hnew_
                                              (first | rw [← Ny210.out] at ho39 | (simp only [Int.reduceToNat] at ho39; rw [← Ny210.out] at ho39))
                                              have n0_ := Aside0.mk (Kd.R_elder' (by (with_reducible repeat (first | apply Kd.R_alloc | apply Kd.R_drewN | apply Kd.R_drew)); exact HO_7.out) (Kd.R_base ho39) hb)
                                              have n1_ := Aside0.mk (Kd.R_lower (Kd.R_new' ho39 (Kd.R_lt (by (with_reducible repeat (first | apply Kd.R_alloc | apply Kd.R_drewN | apply Kd.R_drew)); exact HO_7.out))) (below_size (by repeat (first | (with_reducible first | exact HB.out | apply below_alloc | apply pw_below_drewN | apply below_drew1) | exact HB.out))))
                                              have n2_ := Aside0.mk (Kd.C_below (by repeat (first | (with_reducible exact HR209.out) | (with_reducible refine Kd.C_alloc ?_ _) | (with_reducible refine Kd.C_drewN ?_ _) | (with_reducible refine Kd.C_drew ?_) | exact HR209.out)) hb)
                                              have n3_ := Aside0.mk (Kd.C_below (by repeat (first | (with_reducible exact HR216.out) | (with_reducible refine Kd.C_alloc ?_ _) | (with_reducible refine Kd.C_drewN ?_ _) | (with_reducible refine Kd.C_drew ?_) | exact HR216.out)) hb)
                                              have n4_ := Aside0.mk (below_step (by repeat (first | (with_reducible first | exact HB.out | apply below_alloc | apply pw_below_drewN | apply below_drew1) | exact HB.out)) hb)
                                              clear HO_7
                                              clear HR209
                                              clear HR216
                                              clear HB
                                              have HO_7 := n0_
                                              have HO212 := n1_
                                              have HR209 := n2_
                                              have HR216 := n3_
                                              have HB := n4_
                                              clear n0_ n1_ n2_ n3_ n4_
                                              clear hb ho39
                                              refine hK.out _ _ trivial (fun hHeld => ?_)
                                              clear hK K
                                              refine norm_ (a' := ?_) ?_ ?_
                                              rotate_left
                                              · show Act.put _ (some 77) _ = _
                                                simp only [Act.put, List.setIfInBounds_toArray, List.set_cons_zero, List.set_cons_succ, i64_w, i32_w]
                                                rfl
                                              refine one_ (i := 9) (N := some 81) #[true, true, true, true, true, true, true, true, true, true, false, false] rfl rfl (one_of HT_.out (by kernel_rfl)) (by decide) (fun K hK => ?_)
                                              refine Kd.R_append_rows_step Kd.string (w0 := w) w.heap.size (by rfl) (.tmp 77) (.tmp 80) 28 9 (.string ⟨#[]⟩) 16 rfl Tryd.underlying28 info9 rfl (by decide) (by omega) v211 y210 y213 _ _ _ (fun k_ => some k_ ≠ (.slice (some ad203) x7_3.length co33 : Value).ownBlock) (fun _ => False) rfl rfl ?aO ?aR (fun _ _ h => h) (fun _ h => h.elim) ?aF ?aB ?aS ?aL ?_
                                              (case aR => repeat (first | exact (by repeat (first | (with_reducible exact HR216.out) | (with_reducible refine Kd.C_alloc ?_ _) | (with_reducible refine Kd.C_drewN ?_ _) | (with_reducible refine Kd.C_drew ?_) | exact HR216.out)) | (with_reducible refine Kd.C_alloc ?_ _) | (with_reducible refine Kd.C_drewN ?_ _) | (with_reducible refine Kd.C_drew ?_)))
                                              (case aB => exact (by repeat (first | (with_reducible first | exact HB.out | apply below_alloc | apply pw_below_drewN | apply below_drew1) | exact HB.out)))
                                              (case aF => exact (fun k_ hk => Kd.fresh' (Kd.R_lt (by (with_reducible repeat (first | apply Kd.R_alloc | apply Kd.R_drewN | apply Kd.R_drew)); exact HO_7.out)) k_ hk))
                                              (case aO => exact (by (with_reducible repeat (first | apply Kd.R_alloc | apply Kd.R_drewN | apply Kd.R_drew)); exact Kd.R_mono HO212.out (fun _ hk => hk.2)))
                                              (case aS => exact (below_size (by repeat (first | (with_reducible first | exact HB.out | apply below_alloc | apply pw_below_drewN | apply below_drew1) | exact HB.out))))
                                              (case aL => have := LMc30.out; omega)
                                              intro v218 w40 ho hb hg hat
                                              rw [← Ny217.out] at ho
                                              have n0_ := Aside0.mk (Kd.R_after (ok := (fun _ => True)) (by (with_reducible repeat (first | apply Kd.R_alloc | apply Kd.R_drewN | apply Kd.R_drew)); exact HO_7.out) hg hat)
                                              have n1_ := Aside0.mk (hb)
                                              have n2_ := Aside0.mk ((show Kd.C Kd.string w40 (some ad203) y206.length y206 from by rw [Ny206.out]; exact Kd.C_take (m := (x10_4 : Int).toNat) ((Kd.R_reads' (Kd.R_after (ok := (fun _ => True)) (by (with_reducible repeat (first | apply Kd.R_alloc | apply Kd.R_drewN | apply Kd.R_drew)); exact HO_7.out) hg hat)).2.2) KL36.out))
                                              have n3_ := Aside0.mk ((show Kd.C Kd.string w40 A37 y213.length y213 from by rw [Ny213.out, KA37.out]; exact Kd.C_drop (m := (x10_4 : Int).toNat) (c := co33) ((Kd.R_reads' (Kd.R_after (ok := (fun _ => True)) (by (with_reducible repeat (first | apply Kd.R_alloc | apply Kd.R_drewN | apply Kd.R_drew)); exact HO_7.out) hg hat)).2.2) KL37.out ((Kd.R_reads' (Kd.R_after (ok := (fun _ => True)) (by (with_reducible repeat (first | apply Kd.R_alloc | apply Kd.R_drewN | apply Kd.R_drew)); exact HO_7.out) hg hat)).2.1)))
                                              have n4_ := Aside0.mk (ho)
                                              clear HO_7
                                              clear HB
                                              clear HR209
                                              clear HR216
                                              clear HO212
                                              have HO_7 := n0_
                                              have HB := n1_
                                              have HR209 := n2_
                                              have HR216 := n3_
                                              have HO219 := n4_
                                              clear n0_ n1_ n2_ n3_ n4_
                                              clear ho hb hg hat
                                              obtain ⟨Ao42, co42, eo42⟩ := Kd.R_slice HO219.out
                                              (first | subst eo42 | (injection eo42 with f1_ f2_ f3_; have f4_ := f1_.symm; have f5_ := f3_.symm; clear f1_ f2_ f3_; subst f4_; subst f5_))
                                              refine hK.out _ _ trivial (fun hHeld => ?_)
                                              clear hK K
                                              refine norm_ (a' := ?_) ?_ ?_
                                              rotate_left
                                              · show Act.put _ (some 81) _ = _
                                                simp only [Act.put, List.setIfInBounds_toArray, List.set_cons_zero, List.set_cons_succ, i64_w, i32_w]
                                                rfl
                                              refine one_ (i := 10) (N := some 82) #[true, true, true, true, true, true, true, true, true, true, true, false] rfl rfl (one_of HT_.out (by kernel_rfl)) (by decide) (fun K hK => ?_)
                                              refine Go.Proofs.YtmhlmkefnmdbcaaDoor.Af.R_append_full_step Kd.string (fun _ _ _ _ _ h_ => h_) (w0 := w) w.heap.size (by rfl) (.tmp 75) (.tmp 81) 28 9 (.string ⟨#[]⟩) 16 rfl Tryd.underlying28 info9 rfl (by decide) (by omega) _ _ y206 y217 _ _ _ (fun k_ => some k_ ≠ (.slice (some ad203) x7_3.length co33 : Value).ownBlock ∧ some k_ ≠ (.slice Ao42 y217.length co42 : Value).ownBlock) rfl rfl ?aO ?aR ?aM ?aF ?aB ?aS ?aL ?_
                                              (case aR => repeat (first | exact (Kd.R_reads' HO219.out).2.2 | (with_reducible refine Kd.C_alloc ?_ _) | (with_reducible refine Kd.C_drewN ?_ _) | (with_reducible refine Kd.C_drew ?_)))
                                              (case aM => exact of_decide_eq_true (by first | (with_reducible assumption) | assumption))
                                              (case aB => exact (by repeat (first | (with_reducible first | exact HB.out | apply below_alloc | apply pw_below_drewN | apply below_drew1) | exact HB.out)))
                                              (case aF => exact (fun k_ hk => ⟨Kd.fresh' (Kd.R_lt (by (with_reducible repeat (first | apply Kd.R_alloc | apply Kd.R_drewN | apply Kd.R_drew)); exact HO_7.out)) k_ hk, Kd.fresh' (Kd.R_lt (by (with_reducible repeat (first | apply Kd.R_alloc | apply Kd.R_drewN | apply Kd.R_drew)); exact HO219.out)) k_ hk⟩))
                                              (case aO => repeat (first | exact (by repeat (first | (with_reducible exact HR209.out) | (with_reducible refine Kd.C_alloc ?_ _) | (with_reducible refine Kd.C_drewN ?_ _) | (with_reducible refine Kd.C_drew ?_) | exact HR209.out)) | (with_reducible refine Kd.C_alloc ?_ _) | (with_reducible refine Kd.C_drewN ?_ _) | (with_reducible refine Kd.C_drew ?_)))
                                              (case aS => exact (below_size (by repeat (first | (with_reducible first | exact HB.out | apply below_alloc | apply pw_below_drewN | apply below_drew1) | exact HB.out))))
                                              (case aL => have := LMc32.out; omega)
                                              intro v221 w41 ho hb hg hat
                                              rw [← Ny220.out] at ho
                                              have n0_ := Aside0.mk (Kd.R_after (Kd.R_apart_nil (by (with_reducible repeat (first | apply Kd.R_alloc | apply Kd.R_drewN | apply Kd.R_drew)); exact HO_7.out)) hg hat)
                                              have n1_ := Aside0.mk (Kd.R_after (Kd.R_apart_nil (by (with_reducible repeat (first | apply Kd.R_alloc | apply Kd.R_drewN | apply Kd.R_drew)); exact HO219.out)) hg hat)
                                              have n2_ := Aside0.mk (hb)
                                              have n3_ := Aside0.mk ((show Kd.C Kd.string w41 (some ad203) y206.length y206 from by rw [Ny206.out]; exact Kd.C_take (m := (x10_4 : Int).toNat) ((Kd.R_reads' (Kd.R_after (Kd.R_apart_nil (by (with_reducible repeat (first | apply Kd.R_alloc | apply Kd.R_drewN | apply Kd.R_drew)); exact HO_7.out)) hg hat)).2.2) KL36.out))
                                              have n4_ := Aside0.mk ((show Kd.C Kd.string w41 A37 y213.length y213 from by rw [Ny213.out, KA37.out]; exact Kd.C_drop (m := (x10_4 : Int).toNat) (c := co33) ((Kd.R_reads' (Kd.R_after (Kd.R_apart_nil (by (with_reducible repeat (first | apply Kd.R_alloc | apply Kd.R_drewN | apply Kd.R_drew)); exact HO_7.out)) hg hat)).2.2) KL37.out ((Kd.R_reads' (Kd.R_after (Kd.R_apart_nil (by (with_reducible repeat (first | apply Kd.R_alloc | apply Kd.R_drewN | apply Kd.R_drew)); exact HO_7.out)) hg hat)).2.1)))
                                              have n5_ := Aside0.mk (ho)
                                              clear HO_7
                                              clear HO219
                                              clear HB
                                              clear HR209
                                              clear HR216
                                              have HO_7 := n0_
                                              have HO219 := n1_
                                              have HB := n2_
                                              have HR209 := n3_
                                              have HR216 := n4_
                                              have HO222 := n5_
                                              clear n0_ n1_ n2_ n3_ n4_ n5_
                                              clear ho hb hg hat
                                              refine hK.out _ _ trivial (fun hHeld => ?_)
                                              clear hK K
                                              refine norm_ (a' := ?_) ?_ ?_
                                              rotate_left
                                              · show Act.put _ (some 82) _ = _
                                                simp only [Act.put, List.setIfInBounds_toArray, List.set_cons_zero, List.set_cons_succ, i64_w, i32_w]
                                                rfl
                                              refine pure_ (i := 11) (N := some 7) (v := ?_) (a' := ?_) #[true, true, true, true, true, true, true, true, true, true, true, true] rfl rfl (any_of HT_.out (by kernel_rfl)) (fun _ _ _ h => h) (Or.inl ⟨by rfl, ?_⟩) ?_ ?_
                                              rotate_left
                                              · intro w'
                                                go_simp
                                                with_reducible rfl
                                              rotate_left
                                              · simp only [Act.put, List.setIfInBounds_toArray, List.set_cons_zero, List.set_cons_succ, i64_w, i32_w]
                                                rfl
                                              refine done_ (done_of HT_.out (by kernel_rfl)) ?_
                                              try go_wp2
                                              go_roundg k4
                                              case measure => have := HJ3.out; have := HK2.out; have := HK3.out; have := HK4.out; omega
                                              case rel => exact ⟨(y220), (wrap64 (x49_3 + 1)), (by first | rfl | (simp; done) | (simp [*]; done)), H', ⟨by have := HJ3.out; have := HK2.out; have := HK3.out; have := HK4.out; omega⟩, ⟨by (with_reducible repeat (first | apply Kd.R_alloc | apply Kd.R_drewN | apply Kd.R_drew)); exact Kd.R_mono HO222.out (fun _ hk => trivial)⟩, ⟨by repeat (first | (with_reducible first | exact HB.out | apply below_alloc | apply pw_below_drewN | apply below_drew1) | exact HB.out)⟩⟩
                                            · rw [if_neg c32] at H
                                              exact absurd H (by simp)
                                          · rw [if_neg c31] at H
                                            exact absurd H (by simp)
                                        · rw [if_neg c30] at H
                                          exact absurd H (by simp)
                                      · rw [if_neg c27] at H
                                        exact absurd H (by simp)
                                    · rw [if_neg c25] at H
                                      have c25b0 : decide (0 < t204) = false := decide_eq_false c25
                                      clear c25
                                      have H' := Aside0.mk H
                                      clear H
                                      obtain ⟨Ao43, co43, eo43⟩ := Kd.R_slice HO_7.out
                                      subst eo43
                                      have p203 : 0 ≤ (x10_4 : Int) := of_decide_eq_true (by first | (with_reducible assumption) | assumption)
                                      have q203 : x10_4 < (x7_3.length : Int) := of_decide_eq_true (by first | (with_reducible assumption) | assumption)
                                      obtain ⟨ad203, e203, hx203_0⟩ := Kd.at_string (Kd.R_reads' HO_7.out).2.2 x10_4 p203 q203
                                      cases e203
                                      replace p203 := eq_true p203
                                      replace q203 := eq_true q203
                                      go_wp2_with (first | ((with_reducible refine gate_callee (f := 17) rfl ?_); refine goesL_ (some 63) rfl rfl Tryd.func17 (by kernel_rfl) rfl #[.string (rdOf ByteArray.empty x7_3 x10_4), .string (rdOf ByteArray.empty l0 x49_3)] rfl (by (try simp only [List.map_toArray, List.map_cons, List.map_nil]); first | done | rfl | (simp only [List.length_drop, List.length_take]; rfl)) ?_; (with_reducible refine (impl_CRANCompare.calls (rdOf ByteArray.empty x7_3 x10_4) (rdOf ByteArray.empty l0 x49_3) t204 true _ ?side1 A23.out).mono ?_); (case side1 => first | exact HG.out | exact GW.below HG.out (by repeat (first | (with_reducible first | exact HB.out | exact Below.refl _ _ | apply below_alloc | apply pw_below_drewN | apply below_drew1 | apply below_drew | refine below_set ?_ (Aside0.out (by assumption))) | exact HB.out))); rintro e w44 ⟨rfl, hb⟩; refine ⟨_, rfl, ?_⟩; have n0_ := Aside0.mk (Kd.R_below (by (with_reducible repeat (first | apply Kd.R_alloc | apply Kd.R_drewN | apply Kd.R_drew)); exact HO_7.out) hb); have n1_ := Aside0.mk (below_step (by repeat (first | (with_reducible first | exact HB.out | apply below_alloc | apply pw_below_drewN | apply below_drew1) | exact HB.out)) hb); clear HO_7; clear HB; have HO_7 := n0_; have HB := n1_; clear n0_ n1_; (try clear hb); (try clear hb2); (try clear hk); (try clear hi)))
                                      go_roundg k4
                                      case measure => have := HJ3.out; have := HK2.out; have := HK3.out; have := HK4.out; omega
                                      case rel => exact ⟨(wrap64 (x10_4 + 1)), (by first | rfl | (simp; done) | (simp [*]; done)), H', ⟨by have := HJ3.out; have := HK2.out; have := HK3.out; have := HK4.out; omega⟩, ⟨by (with_reducible repeat (first | apply Kd.R_alloc | apply Kd.R_drewN | apply Kd.R_drew)); exact HO_7.out⟩, ⟨by repeat (first | (with_reducible first | exact HB.out | apply below_alloc | apply pw_below_drewN | apply below_drew1) | exact HB.out)⟩⟩
                                  · replace c24 := Bool.eq_false_iff.mpr c24
                                    subst c24
                                    have H1 : (some false) = some r := by rw [if_neg (show ¬ (false = true) by decide)] at H; exact H
                                    clear H
                                    have H := H1
                                    clear H1
                                    obtain rfl := Option.some.inj H
                                    obtain ⟨Ao45, co45, eo45⟩ := Kd.R_slice HO_7.out
                                    subst eo45
                                    have p203 : 0 ≤ (x10_4 : Int) := of_decide_eq_true (by first | (with_reducible assumption) | assumption)
                                    have q203 : x10_4 < (x7_3.length : Int) := of_decide_eq_true (by first | (with_reducible assumption) | assumption)
                                    obtain ⟨ad203, e203, hx203_0⟩ := Kd.at_string (Kd.R_reads' HO_7.out).2.2 x10_4 p203 q203
                                    cases e203
                                    replace p203 := eq_true p203
                                    replace q203 := eq_true q203
                                    go_wp2_with (first | ((with_reducible refine gate_callee (f := 17) rfl ?_); refine goesL_ (some 63) rfl rfl Tryd.func17 (by kernel_rfl) rfl #[.string (rdOf ByteArray.empty x7_3 x10_4), .string (rdOf ByteArray.empty l0 x49_3)] rfl (by (try simp only [List.map_toArray, List.map_cons, List.map_nil]); first | done | rfl | (simp only [List.length_drop, List.length_take]; rfl)) ?_; (with_reducible refine (impl_CRANCompare.calls (rdOf ByteArray.empty x7_3 x10_4) (rdOf ByteArray.empty l0 x49_3) t204 false _ ?side1 A23.out).mono ?_); (case side1 => first | exact HG.out | exact GW.below HG.out (by repeat (first | (with_reducible first | exact HB.out | exact Below.refl _ _ | apply below_alloc | apply pw_below_drewN | apply below_drew1 | apply below_drew | refine below_set ?_ (Aside0.out (by assumption))) | exact HB.out))); rintro e w46 ⟨rfl, hb⟩; refine ⟨_, rfl, ?_⟩; have n0_ := Aside0.mk (Kd.R_below (by (with_reducible repeat (first | apply Kd.R_alloc | apply Kd.R_drewN | apply Kd.R_drew)); exact HO_7.out) hb); have n1_ := Aside0.mk (below_step (by repeat (first | (with_reducible first | exact HB.out | apply below_alloc | apply pw_below_drewN | apply below_drew1) | exact HB.out)) hb); clear HO_7; clear HB; have HO_7 := n0_; have HB := n1_; clear n0_ n1_; (try clear hb); (try clear hb2); (try clear hk); (try clear hi)))
                                    go_ret
                                    exact ⟨by first | rfl | (simp [errW_none, errW_some] <;> rfl) | (simp [*, errW_none, errW_some] <;> rfl), by repeat (first | (with_reducible first | exact HB.out | apply below_alloc | apply pw_below_drewN | apply below_drew1) | exact HB.out)⟩
                                · rw [if_neg c22] at H
                                  exact absurd H (by simp)
                              · rw [if_neg c21] at H
                                have c21b0 : decide (x10_4 < (x7_3.length : Int)) = false := decide_eq_false c21
                                clear c21
                                by_cases c47 : 0 ≤ x10_4
                                · rw [if_pos c47] at H
                                  have c47b0 := eq_true c47
                                  have c47b1 : decide (0 ≤ x10_4) = true := decide_eq_true c47
                                  clear c47
                                  by_cases c48 : x10_4 ≤ (x7_3.length : Int)
                                  · rw [if_pos c48] at H
                                    have c48b0 := eq_true c48
                                    have c48b1 : decide (x10_4 ≤ (x7_3.length : Int)) = true := decide_eq_true c48
                                    clear c48
                                    obtain ⟨y186, hy186⟩ : ∃ y_ : List ByteArray, y_ = (x7_3.take (x10_4 : Int).toNat) := ⟨_, rfl⟩
                                    replace H : ((some (([(rdOf ByteArray.empty l0 x49_3)] : List ByteArray) : List ByteArray)).bind fun y190 => ((some (x7_3.drop (x10_4 : Int).toNat : List ByteArray)).bind fun y193 => (if y190.length + y193.length < 8796093022208 then ((some (y190 ++ y193 : List ByteArray)).bind fun y197 => (if 0 < y197.length then (if y186.length + y197.length < 8796093022208 then (laws_FnCRANSorted.l1 k4 (y186 ++ y197) l0 (l0.length : Int) (wrap64 (x49_3 + 1))) else (none)) else (none))) else (none)))) = some r := by first | (rw [hy186]; with_reducible exact H) | (have H2_ := (Option.bind_some _ _).symm.trans H; rw [hy186]; with_reducible exact H2_) | (have H2_ := (Option.bind_some _ _).symm.trans H; with_reducible exact H2_) | with_reducible exact H | (rw [hy186]; exact H) | exact H
                                    have Ny186 := Aside0.mk hy186
                                    clear hy186
                                    obtain ⟨y190, hy190⟩ : ∃ y_ : List ByteArray, y_ = (([(rdOf ByteArray.empty l0 x49_3)] : List ByteArray)) := ⟨_, rfl⟩
                                    replace H : ((some (x7_3.drop (x10_4 : Int).toNat : List ByteArray)).bind fun y193 => (if y190.length + y193.length < 8796093022208 then ((some (y190 ++ y193 : List ByteArray)).bind fun y197 => (if 0 < y197.length then (if y186.length + y197.length < 8796093022208 then (laws_FnCRANSorted.l1 k4 (y186 ++ y197) l0 (l0.length : Int) (wrap64 (x49_3 + 1))) else (none)) else (none))) else (none))) = some r := by first | (rw [hy190]; with_reducible exact H) | (have H2_ := (Option.bind_some _ _).symm.trans H; rw [hy190]; with_reducible exact H2_) | (have H2_ := (Option.bind_some _ _).symm.trans H; with_reducible exact H2_) | with_reducible exact H | (rw [hy190]; exact H) | exact H
                                    have Ny190 := Aside0.mk hy190
                                    clear hy190
                                    have c49b0 := eq_true (of_decide_eq_true (by first | (with_reducible assumption) | assumption) : 0 ≤ x10_4)
                                    have c50b0 := eq_true (of_decide_eq_true (by first | (with_reducible assumption) | assumption) : x10_4 ≤ (x7_3.length : Int))
                                    obtain ⟨y193, hy193⟩ : ∃ y_ : List ByteArray, y_ = (x7_3.drop (x10_4 : Int).toNat) := ⟨_, rfl⟩
                                    replace H : (if y190.length + y193.length < 8796093022208 then ((some (y190 ++ y193 : List ByteArray)).bind fun y197 => (if 0 < y197.length then (if y186.length + y197.length < 8796093022208 then (laws_FnCRANSorted.l1 k4 (y186 ++ y197) l0 (l0.length : Int) (wrap64 (x49_3 + 1))) else (none)) else (none))) else (none)) = some r := by first | (rw [hy193]; with_reducible exact H) | (have H2_ := (Option.bind_some _ _).symm.trans H; rw [hy193]; with_reducible exact H2_) | (have H2_ := (Option.bind_some _ _).symm.trans H; with_reducible exact H2_) | with_reducible exact H | (rw [hy193]; exact H) | exact H
                                    have Ny193 := Aside0.mk hy193
                                    clear hy193
                                    by_cases c51 : y190.length + y193.length < 8796093022208
                                    · rw [if_pos c51] at H
                                      have LMc51 := Aside0.mk c51
                                      clear c51
                                      obtain ⟨y197, hy197⟩ : ∃ y_ : List ByteArray, y_ = (y190 ++ y193) := ⟨_, rfl⟩
                                      replace H : (if 0 < y197.length then (if y186.length + y197.length < 8796093022208 then (laws_FnCRANSorted.l1 k4 (y186 ++ y197) l0 (l0.length : Int) (wrap64 (x49_3 + 1))) else (none)) else (none)) = some r := by first | (rw [hy197]; with_reducible exact H) | (have H2_ := (Option.bind_some _ _).symm.trans H; rw [hy197]; with_reducible exact H2_) | (have H2_ := (Option.bind_some _ _).symm.trans H; with_reducible exact H2_) | with_reducible exact H | (rw [hy197]; exact H) | exact H
                                      have Ny197 := Aside0.mk hy197
                                      clear hy197
                                      by_cases c52 : 0 < y197.length
                                      · rw [if_pos c52] at H
                                        have c52b0 := eq_true c52
                                        have c52b1 : decide (0 < y197.length) = true := decide_eq_true c52
                                        clear c52
                                        by_cases c53 : y186.length + y197.length < 8796093022208
                                        · rw [if_pos c53] at H
                                          have LMc53 := Aside0.mk c53
                                          clear c53
                                          obtain ⟨y200, hy200⟩ : ∃ y_ : List ByteArray, y_ = (y186 ++ y197) := ⟨_, rfl⟩
                                          replace H : (laws_FnCRANSorted.l1 k4 y200 l0 (l0.length : Int) (wrap64 (x49_3 + 1))) = some r := by first | (rw [hy200]; with_reducible exact H) | (have H2_ := (Option.bind_some _ _).symm.trans H; rw [hy200]; with_reducible exact H2_) | (have H2_ := (Option.bind_some _ _).symm.trans H; with_reducible exact H2_) | with_reducible exact H | (rw [hy200]; exact H) | exact H
                                          have Ny200 := Aside0.mk hy200
                                          clear hy200
                                          have H' := Aside0.mk H
                                          clear H
                                          obtain ⟨Ao54, co54, eo54⟩ := Kd.R_slice HO_7.out
                                          subst eo54
                                          try go_wp2
                                          have n0_ := Aside0.mk (Kd.R_drew HO_7.out)
                                          have n1_ := Aside0.mk (below_drew1 HB.out)
                                          clear HO_7
                                          clear HB
                                          have HO_7 := n0_
                                          have HB := n1_
                                          clear n0_ n1_
                                          have q56 : (x10_4 : Int) ≤ ((x7_3.length : Int) : Int) := of_decide_eq_true (by first | (with_reducible assumption) | assumption)
                                          obtain ⟨i056, hi056, _, hsz56, _⟩ := info_parts info9
                                          have hroom56 : x7_3.length ≤ co54 := (Kd.R_reads' HO_7.out).2.1
                                          have hC56 : Kd.C Kd.string _ Ao54 x7_3.length x7_3 := (Kd.R_reads' HO_7.out).2.2
                                          have hcut56 := Go.Proofs.YtmhlmkefnmdbcaaDoor.Af.cut_full (P := Tryd.prog) 28 9 .i64 .i64 Tryd.underlying28 hi056 Ao54 x7_3.length co54 x10_4 (of_decide_eq_true (by first | (with_reducible assumption) | assumption)) q56 hroom56
                                          have hr56 := Kd.C_take (m := (x10_4 : Int).toNat) hC56 (by omega)
                                          have hy56 : y186.length = (x10_4 : Int).toNat := (by rw [Ny186.out, List.length_take]; omega)
                                          rw [← Ny186.out] at hr56
                                          rw [← hy56] at hcut56
                                          have HR189 := Aside0.mk hr56
                                          have HC189 := Aside0.mk (show y186.length ≤ y186.length from by omega)
                                          clear hr56 hC56 hroom56 hi056 hsz56
                                          have KY56 := Aside0.mk hy56
                                          clear hy56
                                          have KL56 := Aside0.mk (show (x10_4 : Int).toNat ≤ x7_3.length from by omega)
                                          replace q56 := eq_true q56
                                          have q57 : (x10_4 : Int) ≤ ((x7_3.length : Int) : Int) := of_decide_eq_true (by first | (with_reducible assumption) | assumption)
                                          obtain ⟨i057, hi057, _, hsz57, _⟩ := info_parts info9
                                          have hroom57 : x7_3.length ≤ co54 := (Kd.R_reads' HO_7.out).2.1
                                          have hC57 : Kd.C Kd.string _ Ao54 x7_3.length x7_3 := (Kd.R_reads' HO_7.out).2.2
                                          have q057 : (0 : Int) ≤ (x10_4 : Int) := of_decide_eq_true (by first | (with_reducible assumption) | assumption)
                                          have hcut57 := cut_from (P := Tryd.prog) 28 9 .i64 Tryd.underlying28 hi057 1 hsz57 Ao54 x7_3.length co54 x10_4 q057 q57
                                          have hr57 := Kd.C_drop (m := (x10_4 : Int).toNat) (c := co54) hC57 (by omega) hroom57
                                          obtain ⟨A57, hA57⟩ : ∃ A1, A1 = (if co54 = (x10_4 : Int).toNat then Ao54 else (Ao54 : Option Addr).map (·.add ((x10_4 : Int).toNat * 1))) := ⟨_, rfl⟩
                                          obtain ⟨c57, hc57⟩ : ∃ c1, c1 = co54 - (x10_4 : Int).toNat := ⟨_, rfl⟩
                                          have hy57 : y193.length = x7_3.length - (x10_4 : Int).toNat := (by rw [Ny193.out, List.length_drop] <;> omega)
                                          rw [show (x7_3).drop (x10_4 : Int).toNat = y193 from Ny193.out.symm] at hr57
                                          replace hr57 : Kd.C Kd.string _ A57 y193.length y193 := (by rw [hA57]; exact hr57)
                                          rw [← hy57, ← hA57, ← hc57] at hcut57
                                          have HR196 := Aside0.mk hr57
                                          have HC196 := Aside0.mk (show y193.length ≤ c57 from by rw [hy57, hc57]; exact Nat.sub_le_sub_right hroom57 _)
                                          clear hr57 hC57 hroom57 hi057 hsz57 hc57
                                          have KY57 := Aside0.mk hy57
                                          have KA57 := Aside0.mk hA57
                                          clear hy57 hA57
                                          have KL57 := Aside0.mk (show (x10_4 : Int).toNat ≤ x7_3.length from by omega)
                                          replace q57 := eq_true q57
                                          refine start_ (n := 12) (S := fun w' => True) (ds := []) #[false, false, false, false, false, false, false, false, false, false, false, false] (by kernel_rfl) rfl rfl trivial (fun hHeld => ?_); refine with_tabW laws_FnCRANSorted.tab23 laws_FnCRANSorted.bits23 (fun HT_ HW_ => ?_)
                                          generalize wr.drew = w55 at HO_7 HB HR189 HR196 hHeld ⊢
                                          refine pure_ (i := 0) (N := some 72) (v := ?_) (a' := ?_) #[true, false, false, false, false, false, false, false, false, false, false, false] rfl rfl (any_of HT_.out (by kernel_rfl)) (fun _ _ _ h => h) (Or.inl ⟨by rfl, ?_⟩) ?_ ?_
                                          rotate_left
                                          · intro w'
                                            go_simp
                                            with_reducible rfl
                                          rotate_left
                                          · simp only [Act.put, List.setIfInBounds_toArray, List.set_cons_zero, List.set_cons_succ, i64_w, i32_w]
                                            rfl
                                          refine pure_ (i := 1) (N := some 73) (v := ?_) (a' := ?_) #[true, true, false, false, false, false, false, false, false, false, false, false] rfl rfl (any_of HT_.out (by kernel_rfl)) (fun _ _ _ h => h) (Or.inl ⟨by rfl, ?_⟩) ?_ ?_
                                          rotate_left
                                          · intro w'
                                            go_simp
                                            with_reducible rfl
                                          rotate_left
                                          · simp only [Act.put, List.setIfInBounds_toArray, List.set_cons_zero, List.set_cons_succ, i64_w, i32_w]
                                            rfl
                                          refine pure_ (i := 2) (N := some 74) (v := ?_) (a' := ?_) #[true, true, true, false, false, false, false, false, false, false, false, false] rfl rfl (any_of HT_.out (by kernel_rfl)) (fun _ _ _ h => h) (Or.inl ⟨by rfl, ?_⟩) ?_ ?_
                                          rotate_left
                                          · intro w'
                                            go_simp
                                            with_reducible rfl
                                          rotate_left
                                          · simp only [Act.put, List.setIfInBounds_toArray, List.set_cons_zero, List.set_cons_succ, i64_w, i32_w]
                                            rfl
                                          refine pure_ (i := 3) (N := some 75) (v := ?_) (a' := ?_) #[true, true, true, true, false, false, false, false, false, false, false, false] rfl rfl (any_of HT_.out (by kernel_rfl)) (fun _ _ _ h => h) (Or.inl ⟨by rfl, ?_⟩) ?_ ?_
                                          rotate_left
                                          · intro w'
                                            go_simp
                                            with_reducible rfl
                                          rotate_left
                                          · simp only [Act.put, List.setIfInBounds_toArray, List.set_cons_zero, List.set_cons_succ, i64_w, i32_w]
                                            rfl
                                          refine pure_ (i := 4) (N := some 76) (v := ?_) (a' := ?_) #[true, true, true, true, true, false, false, false, false, false, false, false] rfl rfl (any_of HT_.out (by kernel_rfl)) (fun _ _ _ h => h) (Or.inl ⟨by rfl, ?_⟩) ?_ ?_
                                          rotate_left
                                          · intro w'
                                            go_simp
                                            with_reducible rfl
                                          rotate_left
                                          · simp only [Act.put, List.setIfInBounds_toArray, List.set_cons_zero, List.set_cons_succ, i64_w, i32_w]
                                            rfl
                                          refine pure_ (i := 6) (N := some 78) (v := ?_) (a' := ?_) #[true, true, true, true, true, false, true, false, false, false, false, false] rfl rfl (any_of HT_.out (by kernel_rfl)) (fun _ _ _ h => h) (Or.inl ⟨by rfl, ?_⟩) ?_ ?_
                                          rotate_left
                                          · intro w'
                                            go_simp
                                            with_reducible rfl
                                          rotate_left
                                          · simp only [Act.put, List.setIfInBounds_toArray, List.set_cons_zero, List.set_cons_succ, i64_w, i32_w]
                                            rfl
                                          refine pure_ (i := 7) (N := some 79) (v := ?_) (a' := ?_) #[true, true, true, true, true, false, true, true, false, false, false, false] rfl rfl (any_of HT_.out (by kernel_rfl)) (fun _ _ _ h => h) (Or.inl ⟨by rfl, ?_⟩) ?_ ?_
                                          rotate_left
                                          · intro w'
                                            go_simp
                                            with_reducible rfl
                                          rotate_left
                                          · simp only [Act.put, List.setIfInBounds_toArray, List.set_cons_zero, List.set_cons_succ, i64_w, i32_w]
                                            rfl
                                          refine pure_ (i := 8) (N := some 80) (v := ?_) (a' := ?_) #[true, true, true, true, true, false, true, true, true, false, false, false] rfl rfl (any_of HT_.out (by kernel_rfl)) (fun _ _ _ h => h) (Or.inl ⟨by rfl, ?_⟩) ?_ ?_
                                          rotate_left
                                          · intro w'
                                            go_simp
                                            with_reducible rfl
                                          rotate_left
                                          · simp only [Act.put, List.setIfInBounds_toArray, List.set_cons_zero, List.set_cons_succ, i64_w, i32_w]
                                            rfl
                                          refine one_ (i := 5) (N := some 77) #[true, true, true, true, true, true, true, true, true, false, false, false] rfl rfl (one_of HT_.out (by kernel_rfl)) (by decide) (fun K hK => ?_)
                                          refine Kd.R_lit_step Kd.string _ 9 ?hg (N := 77) ?hd (xs := ([(rdOf ByteArray.empty l0 x49_3)] : List ByteArray)) (inner := [.string (rdOf ByteArray.empty l0 x49_3)]) (ok := fun _ => True) (okp := fun _ => True) ?hr ?hp (fun _ hk => hk) trivial (Below.refl _ _) (Nat.le_refl _) (by simp) ?_; (case hd => rfl); (case hg => rfl); (case hr => first | (go_simp; done) | (go_simp; rfl)); (case hp => exact (Reps.one (show Kd.M Kd.string _ _ _ (rdOf ByteArray.empty l0 x49_3) [.string (rdOf ByteArray.empty l0 x49_3)] from rfl) (Reps.none _ _)))
                                          intro v191 w58 ho59 hb hg_ hnew_
                                          clear hg_ hnew_
                                          (first | rw [← Ny190.out] at ho59 | (simp only [Int.reduceToNat] at ho59; rw [← Ny190.out] at ho59))
                                          have n0_ := Aside0.mk (Kd.R_elder' (by (with_reducible repeat (first | apply Kd.R_alloc | apply Kd.R_drewN | apply Kd.R_drew)); exact HO_7.out) (Kd.R_base ho59) hb)
                                          have n1_ := Aside0.mk (Kd.R_lower (Kd.R_new' ho59 (Kd.R_lt (by (with_reducible repeat (first | apply Kd.R_alloc | apply Kd.R_drewN | apply Kd.R_drew)); exact HO_7.out))) (below_size (by repeat (first | (with_reducible first | exact HB.out | apply below_alloc | apply pw_below_drewN | apply below_drew1) | exact HB.out))))
                                          have n2_ := Aside0.mk (Kd.C_below (by repeat (first | (with_reducible exact HR189.out) | (with_reducible refine Kd.C_alloc ?_ _) | (with_reducible refine Kd.C_drewN ?_ _) | (with_reducible refine Kd.C_drew ?_) | exact HR189.out)) hb)
                                          have n3_ := Aside0.mk (Kd.C_below (by repeat (first | (with_reducible exact HR196.out) | (with_reducible refine Kd.C_alloc ?_ _) | (with_reducible refine Kd.C_drewN ?_ _) | (with_reducible refine Kd.C_drew ?_) | exact HR196.out)) hb)
                                          have n4_ := Aside0.mk (below_step (by repeat (first | (with_reducible first | exact HB.out | apply below_alloc | apply pw_below_drewN | apply below_drew1) | exact HB.out)) hb)
                                          clear HO_7
                                          clear HR189
                                          clear HR196
                                          clear HB
                                          have HO_7 := n0_
                                          have HO192 := n1_
                                          have HR189 := n2_
                                          have HR196 := n3_
                                          have HB := n4_
                                          clear n0_ n1_ n2_ n3_ n4_
                                          clear hb ho59
                                          refine hK.out _ _ trivial (fun hHeld => ?_)
                                          clear hK K
                                          refine norm_ (a' := ?_) ?_ ?_
                                          rotate_left
                                          · show Act.put _ (some 77) _ = _
                                            simp only [Act.put, List.setIfInBounds_toArray, List.set_cons_zero, List.set_cons_succ, i64_w, i32_w]
                                            rfl
                                          refine one_ (i := 9) (N := some 81) #[true, true, true, true, true, true, true, true, true, true, false, false] rfl rfl (one_of HT_.out (by kernel_rfl)) (by decide) (fun K hK => ?_)
                                          refine Kd.R_append_rows_step Kd.string (w0 := w) w.heap.size (by rfl) (.tmp 77) (.tmp 80) 28 9 (.string ⟨#[]⟩) 16 rfl Tryd.underlying28 info9 rfl (by decide) (by omega) v191 y190 y193 _ _ _ (fun k_ => some k_ ≠ (.slice Ao54 x7_3.length co54 : Value).ownBlock) (fun _ => False) rfl rfl ?aO ?aR (fun _ _ h => h) (fun _ h => h.elim) ?aF ?aB ?aS ?aL ?_
                                          (case aR => repeat (first | exact (by repeat (first | (with_reducible exact HR196.out) | (with_reducible refine Kd.C_alloc ?_ _) | (with_reducible refine Kd.C_drewN ?_ _) | (with_reducible refine Kd.C_drew ?_) | exact HR196.out)) | (with_reducible refine Kd.C_alloc ?_ _) | (with_reducible refine Kd.C_drewN ?_ _) | (with_reducible refine Kd.C_drew ?_)))
                                          (case aB => exact (by repeat (first | (with_reducible first | exact HB.out | apply below_alloc | apply pw_below_drewN | apply below_drew1) | exact HB.out)))
                                          (case aF => exact (fun k_ hk => Kd.fresh' (Kd.R_lt (by (with_reducible repeat (first | apply Kd.R_alloc | apply Kd.R_drewN | apply Kd.R_drew)); exact HO_7.out)) k_ hk))
                                          (case aO => exact (by (with_reducible repeat (first | apply Kd.R_alloc | apply Kd.R_drewN | apply Kd.R_drew)); exact Kd.R_mono HO192.out (fun _ hk => hk.2)))
                                          (case aS => exact (below_size (by repeat (first | (with_reducible first | exact HB.out | apply below_alloc | apply pw_below_drewN | apply below_drew1) | exact HB.out))))
                                          (case aL => have := LMc51.out; omega)
                                          intro v198 w60 ho hb hg hat
                                          rw [← Ny197.out] at ho
                                          have n0_ := Aside0.mk (Kd.R_after (ok := (fun _ => True)) (by (with_reducible repeat (first | apply Kd.R_alloc | apply Kd.R_drewN | apply Kd.R_drew)); exact HO_7.out) hg hat)
                                          have n1_ := Aside0.mk (hb)
                                          have n2_ := Aside0.mk ((show Kd.C Kd.string w60 Ao54 y186.length y186 from by rw [Ny186.out]; exact Kd.C_take (m := (x10_4 : Int).toNat) ((Kd.R_reads' (Kd.R_after (ok := (fun _ => True)) (by (with_reducible repeat (first | apply Kd.R_alloc | apply Kd.R_drewN | apply Kd.R_drew)); exact HO_7.out) hg hat)).2.2) KL56.out))
                                          have n3_ := Aside0.mk ((show Kd.C Kd.string w60 A57 y193.length y193 from by rw [Ny193.out, KA57.out]; exact Kd.C_drop (m := (x10_4 : Int).toNat) (c := co54) ((Kd.R_reads' (Kd.R_after (ok := (fun _ => True)) (by (with_reducible repeat (first | apply Kd.R_alloc | apply Kd.R_drewN | apply Kd.R_drew)); exact HO_7.out) hg hat)).2.2) KL57.out ((Kd.R_reads' (Kd.R_after (ok := (fun _ => True)) (by (with_reducible repeat (first | apply Kd.R_alloc | apply Kd.R_drewN | apply Kd.R_drew)); exact HO_7.out) hg hat)).2.1)))
                                          have n4_ := Aside0.mk (ho)
                                          clear HO_7
                                          clear HB
                                          clear HR189
                                          clear HR196
                                          clear HO192
                                          have HO_7 := n0_
                                          have HB := n1_
                                          have HR189 := n2_
                                          have HR196 := n3_
                                          have HO199 := n4_
                                          clear n0_ n1_ n2_ n3_ n4_
                                          clear ho hb hg hat
                                          obtain ⟨Ao62, co62, eo62⟩ := Kd.R_slice HO199.out
                                          (first | subst eo62 | (injection eo62 with f1_ f2_ f3_; have f4_ := f1_.symm; have f5_ := f3_.symm; clear f1_ f2_ f3_; subst f4_; subst f5_))
                                          refine hK.out _ _ trivial (fun hHeld => ?_)
                                          clear hK K
                                          refine norm_ (a' := ?_) ?_ ?_
                                          rotate_left
                                          · show Act.put _ (some 81) _ = _
                                            simp only [Act.put, List.setIfInBounds_toArray, List.set_cons_zero, List.set_cons_succ, i64_w, i32_w]
                                            rfl
                                          refine one_ (i := 10) (N := some 82) #[true, true, true, true, true, true, true, true, true, true, true, false] rfl rfl (one_of HT_.out (by kernel_rfl)) (by decide) (fun K hK => ?_)
                                          refine Go.Proofs.YtmhlmkefnmdbcaaDoor.Af.R_append_full_step Kd.string (fun _ _ _ _ _ h_ => h_) (w0 := w) w.heap.size (by rfl) (.tmp 75) (.tmp 81) 28 9 (.string ⟨#[]⟩) 16 rfl Tryd.underlying28 info9 rfl (by decide) (by omega) _ _ y186 y197 _ _ _ (fun k_ => some k_ ≠ (.slice Ao54 x7_3.length co54 : Value).ownBlock ∧ some k_ ≠ (.slice Ao62 y197.length co62 : Value).ownBlock) rfl rfl ?aO ?aR ?aM ?aF ?aB ?aS ?aL ?_
                                          (case aR => repeat (first | exact (Kd.R_reads' HO199.out).2.2 | (with_reducible refine Kd.C_alloc ?_ _) | (with_reducible refine Kd.C_drewN ?_ _) | (with_reducible refine Kd.C_drew ?_)))
                                          (case aM => exact of_decide_eq_true (by first | (with_reducible assumption) | assumption))
                                          (case aB => exact (by repeat (first | (with_reducible first | exact HB.out | apply below_alloc | apply pw_below_drewN | apply below_drew1) | exact HB.out)))
                                          (case aF => exact (fun k_ hk => ⟨Kd.fresh' (Kd.R_lt (by (with_reducible repeat (first | apply Kd.R_alloc | apply Kd.R_drewN | apply Kd.R_drew)); exact HO_7.out)) k_ hk, Kd.fresh' (Kd.R_lt (by (with_reducible repeat (first | apply Kd.R_alloc | apply Kd.R_drewN | apply Kd.R_drew)); exact HO199.out)) k_ hk⟩))
                                          (case aO => repeat (first | exact (by repeat (first | (with_reducible exact HR189.out) | (with_reducible refine Kd.C_alloc ?_ _) | (with_reducible refine Kd.C_drewN ?_ _) | (with_reducible refine Kd.C_drew ?_) | exact HR189.out)) | (with_reducible refine Kd.C_alloc ?_ _) | (with_reducible refine Kd.C_drewN ?_ _) | (with_reducible refine Kd.C_drew ?_)))
                                          (case aS => exact (below_size (by repeat (first | (with_reducible first | exact HB.out | apply below_alloc | apply pw_below_drewN | apply below_drew1) | exact HB.out))))
                                          (case aL => have := LMc53.out; omega)
                                          intro v201 w61 ho hb hg hat
                                          rw [← Ny200.out] at ho
                                          have n0_ := Aside0.mk (Kd.R_after (Kd.R_apart_nil (by (with_reducible repeat (first | apply Kd.R_alloc | apply Kd.R_drewN | apply Kd.R_drew)); exact HO_7.out)) hg hat)
                                          have n1_ := Aside0.mk (Kd.R_after (Kd.R_apart_nil (by (with_reducible repeat (first | apply Kd.R_alloc | apply Kd.R_drewN | apply Kd.R_drew)); exact HO199.out)) hg hat)
                                          have n2_ := Aside0.mk (hb)
                                          have n3_ := Aside0.mk ((show Kd.C Kd.string w61 Ao54 y186.length y186 from by rw [Ny186.out]; exact Kd.C_take (m := (x10_4 : Int).toNat) ((Kd.R_reads' (Kd.R_after (Kd.R_apart_nil (by (with_reducible repeat (first | apply Kd.R_alloc | apply Kd.R_drewN | apply Kd.R_drew)); exact HO_7.out)) hg hat)).2.2) KL56.out))
                                          have n4_ := Aside0.mk ((show Kd.C Kd.string w61 A57 y193.length y193 from by rw [Ny193.out, KA57.out]; exact Kd.C_drop (m := (x10_4 : Int).toNat) (c := co54) ((Kd.R_reads' (Kd.R_after (Kd.R_apart_nil (by (with_reducible repeat (first | apply Kd.R_alloc | apply Kd.R_drewN | apply Kd.R_drew)); exact HO_7.out)) hg hat)).2.2) KL57.out ((Kd.R_reads' (Kd.R_after (Kd.R_apart_nil (by (with_reducible repeat (first | apply Kd.R_alloc | apply Kd.R_drewN | apply Kd.R_drew)); exact HO_7.out)) hg hat)).2.1)))
                                          have n5_ := Aside0.mk (ho)
                                          clear HO_7
                                          clear HO199
                                          clear HB
                                          clear HR189
                                          clear HR196
                                          have HO_7 := n0_
                                          have HO199 := n1_
                                          have HB := n2_
                                          have HR189 := n3_
                                          have HR196 := n4_
                                          have HO202 := n5_
                                          clear n0_ n1_ n2_ n3_ n4_ n5_
                                          clear ho hb hg hat
                                          refine hK.out _ _ trivial (fun hHeld => ?_)
                                          clear hK K
                                          refine norm_ (a' := ?_) ?_ ?_
                                          rotate_left
                                          · show Act.put _ (some 82) _ = _
                                            simp only [Act.put, List.setIfInBounds_toArray, List.set_cons_zero, List.set_cons_succ, i64_w, i32_w]
                                            rfl
                                          refine pure_ (i := 11) (N := some 7) (v := ?_) (a' := ?_) #[true, true, true, true, true, true, true, true, true, true, true, true] rfl rfl (any_of HT_.out (by kernel_rfl)) (fun _ _ _ h => h) (Or.inl ⟨by rfl, ?_⟩) ?_ ?_
                                          rotate_left
                                          · intro w'
                                            go_simp
                                            with_reducible rfl
                                          rotate_left
                                          · simp only [Act.put, List.setIfInBounds_toArray, List.set_cons_zero, List.set_cons_succ, i64_w, i32_w]
                                            rfl
                                          refine done_ (done_of HT_.out (by kernel_rfl)) ?_
                                          try go_wp2
                                          go_roundg k4
                                          case measure => have := HJ3.out; have := HK2.out; have := HK3.out; have := HK4.out; omega
                                          case rel => exact ⟨(y200), (wrap64 (x49_3 + 1)), (by first | rfl | (simp; done) | (simp [*]; done)), H', ⟨by have := HJ3.out; have := HK2.out; have := HK3.out; have := HK4.out; omega⟩, ⟨by (with_reducible repeat (first | apply Kd.R_alloc | apply Kd.R_drewN | apply Kd.R_drew)); exact Kd.R_mono HO202.out (fun _ hk => trivial)⟩, ⟨by repeat (first | (with_reducible first | exact HB.out | apply below_alloc | apply pw_below_drewN | apply below_drew1) | exact HB.out)⟩⟩
                                        · rw [if_neg c53] at H
                                          exact absurd H (by simp)
                                      · rw [if_neg c52] at H
                                        exact absurd H (by simp)
                                    · rw [if_neg c51] at H
                                      exact absurd H (by simp)
                                  · rw [if_neg c48] at H
                                    exact absurd H (by simp)
                                · rw [if_neg c47] at H
                                  exact absurd H (by simp)
                        · rw [if_neg c20] at H
                          exact absurd H (by simp)
                      · rw [if_neg c19] at H
                        exact absurd H (by simp)
                    · rw [if_neg c18] at H
                      have c18b0 : decide (x49_3 < (l0.length : Int)) = false := decide_eq_false c18
                      clear c18
                      have H' := Aside0.mk H
                      clear H
                      obtain ⟨Ao63, co63, eo63⟩ := Kd.R_slice HO_7.out
                      subst eo63
                      go_wp2
                      go_loopg [86] k3 (fun kq v86 w' => ∃ (x86_4 : Int), v86 = .int .i64 x86_4 ∧ Aside0 (laws_FnCRANSorted.l3 kq x7_3 (x7_3.length : Int) x86_4 = some r) ∧ Aside0 (kq ≤ k3) ∧ Aside0 (Kd.R Kd.string 9 w' w.heap.size (fun _ => True) (.slice Ao63 x7_3.length co63) x7_3) ∧ Aside0 (Below w.heap.size w w'))
                      case atStart => exact ⟨(0), (by first | rfl | (simp; done) | (simp [*]; done)), H', ⟨Nat.le_refl _⟩, ⟨by (with_reducible repeat (first | apply Kd.R_alloc | apply Kd.R_drewN | apply Kd.R_drew)); exact HO_7.out⟩, ⟨by repeat (first | (with_reducible first | exact HB.out | apply below_alloc | apply pw_below_drewN | apply below_drew1) | exact HB.out)⟩⟩
                      case round =>
                        clear H'
                        try clear c1
                        try clear c2
                        try clear p2
                        try clear q2
                        try clear hx2
                        try clear c3
                        try clear q3
                        try clear c4
                        try clear c5
                        try clear q5
                        try clear p6
                        try clear c17
                        try clear c18
                        try clear c18b0
                        try clear c19
                        try clear c20
                        try clear p20
                        try clear q20
                        try clear hx20
                        try clear c21
                        try clear c21b0
                        try clear c22
                        try clear c24
                        try clear c25
                        try clear c25b0
                        try clear c27
                        try clear c30
                        try clear c31
                        try clear c31b0
                        try clear c31b1
                        try clear c32
                        try clear q36
                        try clear c37
                        try clear q37
                        try clear c47
                        try clear c47b0
                        try clear c47b1
                        try clear c48
                        try clear c48b0
                        try clear c48b1
                        try clear c49
                        try clear c49b0
                        try clear c50
                        try clear c50b0
                        try clear c51
                        try clear c52
                        try clear c52b0
                        try clear c52b1
                        try clear c53
                        try clear q56
                        try clear c57
                        try clear q57
                        try clear hx203_0
                        try clear p203
                        try clear q037
                        try clear q057
                        try clear q203
                        try clear q36
                        try clear q37
                        try clear q56
                        try clear q57
                        obtain ⟨x86_4, rfl, HA, HK4, HO_7, HB⟩ := hrel
                        cases gk with
                        | zero => exact absurd HA.out (by simp [laws_FnCRANSorted.l3])
                        | succ k4 =>
                          have H := HA.out
                          clear HA
                          simp only [laws_FnCRANSorted.l3] at H
                          by_cases c64 : x86_4 < (x7_3.length : Int)
                          · rw [if_pos c64] at H
                            have c64b0 : decide (x86_4 < (x7_3.length : Int)) = true := decide_eq_true c64
                            clear c64
                            have H' := Aside0.mk H
                            clear H
                            go_wp2
                            go_loopg [14] k4 (fun kq v14 w' => ∃ (x14_5 : Int), v14 = .int .i64 x14_5 ∧ Aside0 (laws_FnCRANSorted.l4 kq x7_3 x86_4 x14_5 (x7_3.length : Int) x86_4 = some r) ∧ Aside0 (kq ≤ k4) ∧ Aside0 (Kd.R Kd.string 9 w' w.heap.size (fun _ => True) (.slice Ao63 x7_3.length co63) x7_3) ∧ Aside0 (Below w.heap.size w w'))
                            case atStart => exact ⟨(wrap64 (x86_4 + 1)), (by first | rfl | (simp; done) | (simp [*]; done)), H', ⟨Nat.le_refl _⟩, ⟨by (with_reducible repeat (first | apply Kd.R_alloc | apply Kd.R_drewN | apply Kd.R_drew)); exact HO_7.out⟩, ⟨by repeat (first | (with_reducible first | exact HB.out | apply below_alloc | apply pw_below_drewN | apply below_drew1) | exact HB.out)⟩⟩
                            case round =>
                              clear H'
                              try clear c1
                              try clear c2
                              try clear p2
                              try clear q2
                              try clear hx2
                              try clear c3
                              try clear q3
                              try clear c4
                              try clear c5
                              try clear q5
                              try clear c6
                              try clear p6
                              try clear c17
                              try clear c18
                              try clear c18b0
                              try clear c19
                              try clear c20
                              try clear p20
                              try clear q20
                              try clear hx20
                              try clear c21
                              try clear c21b0
                              try clear c22
                              try clear c24
                              try clear c25
                              try clear c25b0
                              try clear c27
                              try clear c30
                              try clear c31
                              try clear c31b0
                              try clear c31b1
                              try clear c32
                              try clear q36
                              try clear c37
                              try clear q37
                              try clear c47
                              try clear c47b0
                              try clear c47b1
                              try clear c48
                              try clear c48b0
                              try clear c48b1
                              try clear c49
                              try clear c49b0
                              try clear c50
                              try clear c50b0
                              try clear c51
                              try clear c52
                              try clear c52b0
                              try clear c52b1
                              try clear c53
                              try clear q56
                              try clear c57
                              try clear q57
                              try clear c64
                              try clear c64b0
                              try clear p64
                              try clear hx203_0
                              try clear p2
                              try clear p20
                              try clear p203
                              try clear p6
                              try clear q037
                              try clear q057
                              try clear q2
                              try clear q20
                              try clear q203
                              try clear q3
                              try clear q36
                              try clear q37
                              try clear q5
                              try clear q56
                              try clear q57
                              obtain ⟨x14_5, rfl, HA, HK5, HO_7, HB⟩ := hrel
                              cases gk with
                              | zero => exact absurd HA.out (by simp [laws_FnCRANSorted.l4])
                              | succ k5 =>
                                have H := HA.out
                                clear HA
                                simp only [laws_FnCRANSorted.l4] at H
                                by_cases c65 : x14_5 < (x7_3.length : Int)
                                · rw [if_pos c65] at H
                                  have c65b0 : decide (x14_5 < (x7_3.length : Int)) = true := decide_eq_true c65
                                  clear c65
                                  by_cases c66 : 0 ≤ x86_4
                                  · rw [if_pos c66] at H
                                    have c66b0 : decide (0 ≤ x86_4) = true := decide_eq_true c66
                                    clear c66
                                    by_cases c67 : x86_4 < (x7_3.length : Int)
                                    · rw [if_pos c67] at H
                                      have c67b0 : decide (x86_4 < (x7_3.length : Int)) = true := decide_eq_true c67
                                      clear c67
                                      by_cases c68 : 0 ≤ x14_5
                                      · rw [if_pos c68] at H
                                        have c68b0 : decide (0 ≤ x14_5) = true := decide_eq_true c68
                                        clear c68
                                        replace H := Option.bind_eq_some_iff.mp H
                                        obtain ⟨⟨t225, t226⟩, A690, H⟩ := H
                                        replace H : (if t226 = true then (if t225 > 0 then (some false) else (laws_FnCRANSorted.l4 k5 x7_3 x86_4 (wrap64 (x14_5 + 1)) (x7_3.length : Int) x86_4)) else (some false)) = some r := H
                                        have A69 := Aside0.mk A690
                                        clear A690
                                        by_cases c70 : t226 = true
                                        · subst c70
                                          have H1 : (if t225 > 0 then (some false) else (laws_FnCRANSorted.l4 k5 x7_3 x86_4 (wrap64 (x14_5 + 1)) (x7_3.length : Int) x86_4)) = some r := by rw [if_pos rfl] at H; exact H
                                          clear H
                                          have H := H1
                                          clear H1
                                          by_cases c71 : t225 > 0
                                          · rw [if_pos c71] at H
                                            have c71b0 : decide (0 < t225) = true := decide_eq_true c71
                                            clear c71
                                            obtain rfl := Option.some.inj H
                                            try go_wp2
                                            have n0_ := Aside0.mk (Kd.R_drew HO_7.out)
                                            have n1_ := Aside0.mk (below_drew1 HB.out)
                                            clear HO_7
                                            clear HB
                                            have HO_7 := n0_
                                            have HB := n1_
                                            clear n0_ n1_
                                            have p223 : 0 ≤ (x86_4 : Int) := of_decide_eq_true (by first | (with_reducible assumption) | assumption)
                                            have q223 : x86_4 < (x7_3.length : Int) := of_decide_eq_true (by first | (with_reducible assumption) | assumption)
                                            obtain ⟨ad223, e223, hx223_0⟩ := Kd.at_string (Kd.R_reads' HO_7.out).2.2 x86_4 p223 q223
                                            cases e223
                                            replace p223 := eq_true p223
                                            replace q223 := eq_true q223
                                            have p224 : 0 ≤ (x14_5 : Int) := of_decide_eq_true (by first | (with_reducible assumption) | assumption)
                                            have q224 : x14_5 < (x7_3.length : Int) := of_decide_eq_true (by first | (with_reducible assumption) | assumption)
                                            obtain ⟨ad224, e224, hx224_0⟩ := Kd.at_string (Kd.R_reads' HO_7.out).2.2 x14_5 p224 q224
                                            obtain rfl : ad223 = ad224 := (by injection e224)
                                            replace p224 := eq_true p224
                                            replace q224 := eq_true q224
                                            refine start_ (n := 14) (S := fun w' => w'.cell? (ad223.add (x86_4).toNat) = some (.string (rdOf ByteArray.empty x7_3 x86_4)) ∧ w'.cell? (ad223.add (x14_5).toNat) = some (.string (rdOf ByteArray.empty x7_3 x14_5))) (ds := []) #[false, false, false, false, false, false, false, false, false, false, false, false, false, false] (by kernel_rfl) rfl rfl ⟨hx223_0, hx224_0⟩ (fun hHeld => ?_); refine with_tabW laws_FnCRANSorted.tab31 laws_FnCRANSorted.bits31 (fun HT_ HW_ => ?_)
                                            generalize wr.drew = w72 at HO_7 HB hx223_0 hx224_0 hHeld ⊢
                                            refine pure_ (i := 0) (N := some 98) (v := ?_) (a' := ?_) #[true, false, false, false, false, false, false, false, false, false, false, false, false, false] rfl rfl (any_of HT_.out (by kernel_rfl)) (fun _ _ _ h => h) (Or.inl ⟨by rfl, ?_⟩) ?_ ?_
                                            rotate_left
                                            · intro w'
                                              go_simp
                                              with_reducible rfl
                                            rotate_left
                                            · simp only [Act.put, List.setIfInBounds_toArray, List.set_cons_zero, List.set_cons_succ, i64_w, i32_w]
                                              rfl
                                            refine pure_ (i := 1) (N := some 99) (v := ?_) (a' := ?_) #[true, true, false, false, false, false, false, false, false, false, false, false, false, false] rfl rfl (any_of HT_.out (by kernel_rfl)) (fun _ _ _ h => h) (Or.inl ⟨by rfl, ?_⟩) ?_ ?_
                                            rotate_left
                                            · intro w'
                                              go_simp
                                              with_reducible rfl
                                            rotate_left
                                            · simp only [Act.put, List.setIfInBounds_toArray, List.set_cons_zero, List.set_cons_succ, i64_w, i32_w]
                                              rfl
                                            refine pure_ (i := 2) (N := some 100) (v := ?_) (a' := ?_) #[true, true, true, false, false, false, false, false, false, false, false, false, false, false] rfl rfl (any_of HT_.out (by kernel_rfl)) (fun _ _ _ h => h) (Or.inl ⟨by rfl, ?_⟩) ?_ ?_
                                            rotate_left
                                            · intro w'
                                              go_simp
                                              with_reducible rfl
                                            rotate_left
                                            · simp only [Act.put, List.setIfInBounds_toArray, List.set_cons_zero, List.set_cons_succ, i64_w, i32_w]
                                              rfl
                                            refine pure_ (i := 4) (N := some 102) (v := ?_) (a' := ?_) #[true, true, true, false, true, false, false, false, false, false, false, false, false, false] rfl rfl (any_of HT_.out (by kernel_rfl)) (fun _ _ _ h => h) (Or.inl ⟨by rfl, ?_⟩) ?_ ?_
                                            rotate_left
                                            · intro w'
                                              go_simp
                                              with_reducible rfl
                                            rotate_left
                                            · simp only [Act.put, List.setIfInBounds_toArray, List.set_cons_zero, List.set_cons_succ, i64_w, i32_w]
                                              rfl
                                            refine pure_ (i := 5) (N := some 103) (v := ?_) (a' := ?_) #[true, true, true, false, true, true, false, false, false, false, false, false, false, false] rfl rfl (any_of HT_.out (by kernel_rfl)) (fun _ _ _ h => h) (Or.inl ⟨by rfl, ?_⟩) ?_ ?_
                                            rotate_left
                                            · intro w'
                                              go_simp
                                              with_reducible rfl
                                            rotate_left
                                            · simp only [Act.put, List.setIfInBounds_toArray, List.set_cons_zero, List.set_cons_succ, i64_w, i32_w]
                                              rfl
                                            refine pure_ (i := 6) (N := some 104) (v := ?_) (a' := ?_) #[true, true, true, false, true, true, true, false, false, false, false, false, false, false] rfl rfl (any_of HT_.out (by kernel_rfl)) (fun _ _ _ h => h) (Or.inl ⟨by rfl, ?_⟩) ?_ ?_
                                            rotate_left
                                            · intro w'
                                              go_simp
                                              with_reducible rfl
                                            rotate_left
                                            · simp only [Act.put, List.setIfInBounds_toArray, List.set_cons_zero, List.set_cons_succ, i64_w, i32_w]
                                              rfl
                                            refine take_ (i := 3) (N := some 101) (v := ?_) (a' := ?_) #[true, true, true, true, true, true, true, false, false, false, false, false, false, false] rfl rfl (take_ofW HT_.out HW_.out (by kernel_rfl)) (fun _ _ _ h => h) (Or.inl ⟨by rfl, ?_⟩) hHeld ?_ ?_
                                            rotate_left
                                            · rintro w' ⟨s0, s1⟩
                                              go_simp
                                              with_reducible rfl
                                            rotate_left
                                            · simp only [Act.put, List.setIfInBounds_toArray, List.set_cons_zero, List.set_cons_succ, i64_w, i32_w]
                                              rfl
                                            refine take_ (i := 7) (N := some 105) (v := ?_) (a' := ?_) #[true, true, true, true, true, true, true, true, false, false, false, false, false, false] rfl rfl (take_ofW HT_.out HW_.out (by kernel_rfl)) (fun _ _ _ h => h) (Or.inl ⟨by rfl, ?_⟩) hHeld ?_ ?_
                                            rotate_left
                                            · rintro w' ⟨s0, s1⟩
                                              go_simp
                                              with_reducible rfl
                                            rotate_left
                                            · simp only [Act.put, List.setIfInBounds_toArray, List.set_cons_zero, List.set_cons_succ, i64_w, i32_w]
                                              rfl
                                            refine one_ (i := 8) (N := some 106) #[true, true, true, true, true, true, true, true, true, false, false, false, false, false] rfl rfl (one_of HT_.out (by kernel_rfl)) (by decide) (fun K hK => ?_)
                                            refine goes_ Tryd.func18 (by kernel_rfl) rfl #[.string (rdOf ByteArray.empty x7_3 x86_4), .string (rdOf ByteArray.empty x7_3 x14_5)] (by rfl) rfl rfl (by (try simp only [List.map_toArray, List.map_cons, List.map_nil]); first | done | rfl | (simp only [List.length_drop, List.length_take]; rfl)) ?_
                                            with_reducible refine (spec_CRANCompare.calls k5 (rdOf ByteArray.empty x7_3 x86_4) (rdOf ByteArray.empty x7_3 x14_5) t225 true _ A69.out).mono ?_
                                            rintro e w73 ⟨rfl, hb⟩
                                            have HS0_ := (hb.cell (World.block_lt_of_cell? _ _ (hHeld.1))).trans (hHeld.1)
                                            have HS1_ := (hb.cell (World.block_lt_of_cell? _ _ (hHeld.2))).trans (hHeld.2)
                                            refine ⟨_, rfl, ?_⟩
                                            have n0_ := Aside0.mk (Kd.R_below (by (with_reducible repeat (first | apply Kd.R_alloc | apply Kd.R_drewN | apply Kd.R_drew)); exact HO_7.out) hb)
                                            have n1_ := Aside0.mk (below_step (by repeat (first | (with_reducible first | exact HB.out | apply below_alloc | apply pw_below_drewN | apply below_drew1) | exact HB.out)) hb)
                                            clear HO_7
                                            clear HB
                                            have HO_7 := n0_
                                            have HB := n1_
                                            clear n0_ n1_
                                            (try clear hb)
                                            (try clear hb2)
                                            (try clear hk)
                                            (try clear hi)
                                            refine hK.out _ _ ⟨HS0_, HS1_⟩ (fun hHeld => ?_)
                                            clear hK K
                                            refine norm_ (a' := ?_) ?_ ?_
                                            rotate_left
                                            · show Act.put _ (some 106) _ = _
                                              simp only [Act.put, List.setIfInBounds_toArray, List.set_cons_zero, List.set_cons_succ, i64_w, i32_w]
                                              rfl
                                            refine pure_ (i := 9) (N := some 97) (v := ?_) (a' := ?_) #[true, true, true, true, true, true, true, true, true, true, false, false, false, false] rfl rfl (any_of HT_.out (by kernel_rfl)) (fun _ _ _ h => h) (Or.inl ⟨by rfl, ?_⟩) ?_ ?_
                                            rotate_left
                                            · intro w'
                                              go_simp
                                              with_reducible rfl
                                            rotate_left
                                            · simp only [Act.put, List.setIfInBounds_toArray, List.set_cons_zero, List.set_cons_succ, i64_w, i32_w]
                                              rfl
                                            refine pure_ (i := 10) (N := some 107) (v := ?_) (a' := ?_) #[true, true, true, true, true, true, true, true, true, true, true, false, false, false] rfl rfl (any_of HT_.out (by kernel_rfl)) (fun _ _ _ h => h) (Or.inl ⟨by rfl, ?_⟩) ?_ ?_
                                            rotate_left
                                            · intro w'
                                              go_simp
                                              with_reducible rfl
                                            rotate_left
                                            · simp only [Act.put, List.setIfInBounds_toArray, List.set_cons_zero, List.set_cons_succ, i64_w, i32_w]
                                              rfl
                                            refine pure_ (i := 11) (N := some 108) (v := ?_) (a' := ?_) #[true, true, true, true, true, true, true, true, true, true, true, true, false, false] rfl rfl (any_of HT_.out (by kernel_rfl)) (fun _ _ _ h => h) (Or.inl ⟨by rfl, ?_⟩) ?_ ?_
                                            rotate_left
                                            · intro w'
                                              go_simp
                                              with_reducible rfl
                                            rotate_left
                                            · simp only [Act.put, List.setIfInBounds_toArray, List.set_cons_zero, List.set_cons_succ, i64_w, i32_w]
                                              rfl
                                            refine pure_ (i := 12) (N := some 15) (v := ?_) (a' := ?_) #[true, true, true, true, true, true, true, true, true, true, true, true, true, false] rfl rfl (any_of HT_.out (by kernel_rfl)) (fun _ _ _ h => h) (Or.inl ⟨by rfl, ?_⟩) ?_ ?_
                                            rotate_left
                                            · intro w'
                                              go_simp
                                              with_reducible rfl
                                            rotate_left
                                            · simp only [Act.put, List.setIfInBounds_toArray, List.set_cons_zero, List.set_cons_succ, i64_w, i32_w]
                                              rfl
                                            refine pure_ (i := 13) (N := some 16) (v := ?_) (a' := ?_) #[true, true, true, true, true, true, true, true, true, true, true, true, true, true] rfl rfl (any_of HT_.out (by kernel_rfl)) (fun _ _ _ h => h) (Or.inl ⟨by rfl, ?_⟩) ?_ ?_
                                            rotate_left
                                            · intro w'
                                              go_simp
                                              with_reducible rfl
                                            rotate_left
                                            · simp only [Act.put, List.setIfInBounds_toArray, List.set_cons_zero, List.set_cons_succ, i64_w, i32_w]
                                              rfl
                                            refine done_ (done_of HT_.out (by kernel_rfl)) ?_
                                            try go_wp2
                                            go_ret
                                            exact ⟨by first | rfl | (simp [errW_none, errW_some] <;> rfl) | (simp [*, errW_none, errW_some] <;> rfl), by repeat (first | (with_reducible first | exact HB.out | apply below_alloc | apply pw_below_drewN | apply below_drew1) | exact HB.out)⟩
                                          · rw [if_neg c71] at H
                                            have c71b0 : decide (0 < t225) = false := decide_eq_false c71
                                            clear c71
                                            have H' := Aside0.mk H
                                            clear H
                                            try go_wp2
                                            have n0_ := Aside0.mk (Kd.R_drew HO_7.out)
                                            have n1_ := Aside0.mk (below_drew1 HB.out)
                                            clear HO_7
                                            clear HB
                                            have HO_7 := n0_
                                            have HB := n1_
                                            clear n0_ n1_
                                            have p223 : 0 ≤ (x86_4 : Int) := of_decide_eq_true (by first | (with_reducible assumption) | assumption)
                                            have q223 : x86_4 < (x7_3.length : Int) := of_decide_eq_true (by first | (with_reducible assumption) | assumption)
                                            obtain ⟨ad223, e223, hx223_0⟩ := Kd.at_string (Kd.R_reads' HO_7.out).2.2 x86_4 p223 q223
                                            cases e223
                                            replace p223 := eq_true p223
                                            replace q223 := eq_true q223
                                            have p224 : 0 ≤ (x14_5 : Int) := of_decide_eq_true (by first | (with_reducible assumption) | assumption)
                                            have q224 : x14_5 < (x7_3.length : Int) := of_decide_eq_true (by first | (with_reducible assumption) | assumption)
                                            obtain ⟨ad224, e224, hx224_0⟩ := Kd.at_string (Kd.R_reads' HO_7.out).2.2 x14_5 p224 q224
                                            obtain rfl : ad223 = ad224 := (by injection e224)
                                            replace p224 := eq_true p224
                                            replace q224 := eq_true q224
                                            refine start_ (n := 14) (S := fun w' => w'.cell? (ad223.add (x86_4).toNat) = some (.string (rdOf ByteArray.empty x7_3 x86_4)) ∧ w'.cell? (ad223.add (x14_5).toNat) = some (.string (rdOf ByteArray.empty x7_3 x14_5))) (ds := []) #[false, false, false, false, false, false, false, false, false, false, false, false, false, false] (by kernel_rfl) rfl rfl ⟨hx223_0, hx224_0⟩ (fun hHeld => ?_); refine with_tabW laws_FnCRANSorted.tab31 laws_FnCRANSorted.bits31 (fun HT_ HW_ => ?_)
                                            generalize wr.drew = w74 at HO_7 HB hx223_0 hx224_0 hHeld ⊢
                                            refine pure_ (i := 0) (N := some 98) (v := ?_) (a' := ?_) #[true, false, false, false, false, false, false, false, false, false, false, false, false, false] rfl rfl (any_of HT_.out (by kernel_rfl)) (fun _ _ _ h => h) (Or.inl ⟨by rfl, ?_⟩) ?_ ?_
                                            rotate_left
                                            · intro w'
                                              go_simp
                                              with_reducible rfl
                                            rotate_left
                                            · simp only [Act.put, List.setIfInBounds_toArray, List.set_cons_zero, List.set_cons_succ, i64_w, i32_w]
                                              rfl
                                            refine pure_ (i := 1) (N := some 99) (v := ?_) (a' := ?_) #[true, true, false, false, false, false, false, false, false, false, false, false, false, false] rfl rfl (any_of HT_.out (by kernel_rfl)) (fun _ _ _ h => h) (Or.inl ⟨by rfl, ?_⟩) ?_ ?_
                                            rotate_left
                                            · intro w'
                                              go_simp
                                              with_reducible rfl
                                            rotate_left
                                            · simp only [Act.put, List.setIfInBounds_toArray, List.set_cons_zero, List.set_cons_succ, i64_w, i32_w]
                                              rfl
                                            refine pure_ (i := 2) (N := some 100) (v := ?_) (a' := ?_) #[true, true, true, false, false, false, false, false, false, false, false, false, false, false] rfl rfl (any_of HT_.out (by kernel_rfl)) (fun _ _ _ h => h) (Or.inl ⟨by rfl, ?_⟩) ?_ ?_
                                            rotate_left
                                            · intro w'
                                              go_simp
                                              with_reducible rfl
                                            rotate_left
                                            · simp only [Act.put, List.setIfInBounds_toArray, List.set_cons_zero, List.set_cons_succ, i64_w, i32_w]
                                              rfl
                                            refine pure_ (i := 4) (N := some 102) (v := ?_) (a' := ?_) #[true, true, true, false, true, false, false, false, false, false, false, false, false, false] rfl rfl (any_of HT_.out (by kernel_rfl)) (fun _ _ _ h => h) (Or.inl ⟨by rfl, ?_⟩) ?_ ?_
                                            rotate_left
                                            · intro w'
                                              go_simp
                                              with_reducible rfl
                                            rotate_left
                                            · simp only [Act.put, List.setIfInBounds_toArray, List.set_cons_zero, List.set_cons_succ, i64_w, i32_w]
                                              rfl
                                            refine pure_ (i := 5) (N := some 103) (v := ?_) (a' := ?_) #[true, true, true, false, true, true, false, false, false, false, false, false, false, false] rfl rfl (any_of HT_.out (by kernel_rfl)) (fun _ _ _ h => h) (Or.inl ⟨by rfl, ?_⟩) ?_ ?_
                                            rotate_left
                                            · intro w'
                                              go_simp
                                              with_reducible rfl
                                            rotate_left
                                            · simp only [Act.put, List.setIfInBounds_toArray, List.set_cons_zero, List.set_cons_succ, i64_w, i32_w]
                                              rfl
                                            refine pure_ (i := 6) (N := some 104) (v := ?_) (a' := ?_) #[true, true, true, false, true, true, true, false, false, false, false, false, false, false] rfl rfl (any_of HT_.out (by kernel_rfl)) (fun _ _ _ h => h) (Or.inl ⟨by rfl, ?_⟩) ?_ ?_
                                            rotate_left
                                            · intro w'
                                              go_simp
                                              with_reducible rfl
                                            rotate_left
                                            · simp only [Act.put, List.setIfInBounds_toArray, List.set_cons_zero, List.set_cons_succ, i64_w, i32_w]
                                              rfl
                                            refine take_ (i := 3) (N := some 101) (v := ?_) (a' := ?_) #[true, true, true, true, true, true, true, false, false, false, false, false, false, false] rfl rfl (take_ofW HT_.out HW_.out (by kernel_rfl)) (fun _ _ _ h => h) (Or.inl ⟨by rfl, ?_⟩) hHeld ?_ ?_
                                            rotate_left
                                            · rintro w' ⟨s0, s1⟩
                                              go_simp
                                              with_reducible rfl
                                            rotate_left
                                            · simp only [Act.put, List.setIfInBounds_toArray, List.set_cons_zero, List.set_cons_succ, i64_w, i32_w]
                                              rfl
                                            refine take_ (i := 7) (N := some 105) (v := ?_) (a' := ?_) #[true, true, true, true, true, true, true, true, false, false, false, false, false, false] rfl rfl (take_ofW HT_.out HW_.out (by kernel_rfl)) (fun _ _ _ h => h) (Or.inl ⟨by rfl, ?_⟩) hHeld ?_ ?_
                                            rotate_left
                                            · rintro w' ⟨s0, s1⟩
                                              go_simp
                                              with_reducible rfl
                                            rotate_left
                                            · simp only [Act.put, List.setIfInBounds_toArray, List.set_cons_zero, List.set_cons_succ, i64_w, i32_w]
                                              rfl
                                            refine one_ (i := 8) (N := some 106) #[true, true, true, true, true, true, true, true, true, false, false, false, false, false] rfl rfl (one_of HT_.out (by kernel_rfl)) (by decide) (fun K hK => ?_)
                                            refine goes_ Tryd.func18 (by kernel_rfl) rfl #[.string (rdOf ByteArray.empty x7_3 x86_4), .string (rdOf ByteArray.empty x7_3 x14_5)] (by rfl) rfl rfl (by (try simp only [List.map_toArray, List.map_cons, List.map_nil]); first | done | rfl | (simp only [List.length_drop, List.length_take]; rfl)) ?_
                                            with_reducible refine (spec_CRANCompare.calls k5 (rdOf ByteArray.empty x7_3 x86_4) (rdOf ByteArray.empty x7_3 x14_5) t225 true _ A69.out).mono ?_
                                            rintro e w75 ⟨rfl, hb⟩
                                            have HS0_ := (hb.cell (World.block_lt_of_cell? _ _ (hHeld.1))).trans (hHeld.1)
                                            have HS1_ := (hb.cell (World.block_lt_of_cell? _ _ (hHeld.2))).trans (hHeld.2)
                                            refine ⟨_, rfl, ?_⟩
                                            have n0_ := Aside0.mk (Kd.R_below (by (with_reducible repeat (first | apply Kd.R_alloc | apply Kd.R_drewN | apply Kd.R_drew)); exact HO_7.out) hb)
                                            have n1_ := Aside0.mk (below_step (by repeat (first | (with_reducible first | exact HB.out | apply below_alloc | apply pw_below_drewN | apply below_drew1) | exact HB.out)) hb)
                                            clear HO_7
                                            clear HB
                                            have HO_7 := n0_
                                            have HB := n1_
                                            clear n0_ n1_
                                            (try clear hb)
                                            (try clear hb2)
                                            (try clear hk)
                                            (try clear hi)
                                            refine hK.out _ _ ⟨HS0_, HS1_⟩ (fun hHeld => ?_)
                                            clear hK K
                                            refine norm_ (a' := ?_) ?_ ?_
                                            rotate_left
                                            · show Act.put _ (some 106) _ = _
                                              simp only [Act.put, List.setIfInBounds_toArray, List.set_cons_zero, List.set_cons_succ, i64_w, i32_w]
                                              rfl
                                            refine pure_ (i := 9) (N := some 97) (v := ?_) (a' := ?_) #[true, true, true, true, true, true, true, true, true, true, false, false, false, false] rfl rfl (any_of HT_.out (by kernel_rfl)) (fun _ _ _ h => h) (Or.inl ⟨by rfl, ?_⟩) ?_ ?_
                                            rotate_left
                                            · intro w'
                                              go_simp
                                              with_reducible rfl
                                            rotate_left
                                            · simp only [Act.put, List.setIfInBounds_toArray, List.set_cons_zero, List.set_cons_succ, i64_w, i32_w]
                                              rfl
                                            refine pure_ (i := 10) (N := some 107) (v := ?_) (a' := ?_) #[true, true, true, true, true, true, true, true, true, true, true, false, false, false] rfl rfl (any_of HT_.out (by kernel_rfl)) (fun _ _ _ h => h) (Or.inl ⟨by rfl, ?_⟩) ?_ ?_
                                            rotate_left
                                            · intro w'
                                              go_simp
                                              with_reducible rfl
                                            rotate_left
                                            · simp only [Act.put, List.setIfInBounds_toArray, List.set_cons_zero, List.set_cons_succ, i64_w, i32_w]
                                              rfl
                                            refine pure_ (i := 11) (N := some 108) (v := ?_) (a' := ?_) #[true, true, true, true, true, true, true, true, true, true, true, true, false, false] rfl rfl (any_of HT_.out (by kernel_rfl)) (fun _ _ _ h => h) (Or.inl ⟨by rfl, ?_⟩) ?_ ?_
                                            rotate_left
                                            · intro w'
                                              go_simp
                                              with_reducible rfl
                                            rotate_left
                                            · simp only [Act.put, List.setIfInBounds_toArray, List.set_cons_zero, List.set_cons_succ, i64_w, i32_w]
                                              rfl
                                            refine pure_ (i := 12) (N := some 15) (v := ?_) (a' := ?_) #[true, true, true, true, true, true, true, true, true, true, true, true, true, false] rfl rfl (any_of HT_.out (by kernel_rfl)) (fun _ _ _ h => h) (Or.inl ⟨by rfl, ?_⟩) ?_ ?_
                                            rotate_left
                                            · intro w'
                                              go_simp
                                              with_reducible rfl
                                            rotate_left
                                            · simp only [Act.put, List.setIfInBounds_toArray, List.set_cons_zero, List.set_cons_succ, i64_w, i32_w]
                                              rfl
                                            refine pure_ (i := 13) (N := some 16) (v := ?_) (a' := ?_) #[true, true, true, true, true, true, true, true, true, true, true, true, true, true] rfl rfl (any_of HT_.out (by kernel_rfl)) (fun _ _ _ h => h) (Or.inl ⟨by rfl, ?_⟩) ?_ ?_
                                            rotate_left
                                            · intro w'
                                              go_simp
                                              with_reducible rfl
                                            rotate_left
                                            · simp only [Act.put, List.setIfInBounds_toArray, List.set_cons_zero, List.set_cons_succ, i64_w, i32_w]
                                              rfl
                                            refine done_ (done_of HT_.out (by kernel_rfl)) ?_
                                            try go_wp2
                                            go_roundg k5
                                            case measure => have := HJ3.out; have := HK2.out; have := HK3.out; have := HK4.out; have := HK5.out; omega
                                            case rel => exact ⟨(wrap64 (x14_5 + 1)), (by first | rfl | (simp; done) | (simp [*]; done)), H', ⟨by have := HJ3.out; have := HK2.out; have := HK3.out; have := HK4.out; have := HK5.out; omega⟩, ⟨by (with_reducible repeat (first | apply Kd.R_alloc | apply Kd.R_drewN | apply Kd.R_drew)); exact HO_7.out⟩, ⟨by repeat (first | (with_reducible first | exact HB.out | apply below_alloc | apply pw_below_drewN | apply below_drew1) | exact HB.out)⟩⟩
                                        · replace c70 := Bool.eq_false_iff.mpr c70
                                          subst c70
                                          have H1 : (some false) = some r := by rw [if_neg (show ¬ (false = true) by decide)] at H; exact H
                                          clear H
                                          have H := H1
                                          clear H1
                                          obtain rfl := Option.some.inj H
                                          try go_wp2
                                          have n0_ := Aside0.mk (Kd.R_drew HO_7.out)
                                          have n1_ := Aside0.mk (below_drew1 HB.out)
                                          clear HO_7
                                          clear HB
                                          have HO_7 := n0_
                                          have HB := n1_
                                          clear n0_ n1_
                                          have p223 : 0 ≤ (x86_4 : Int) := of_decide_eq_true (by first | (with_reducible assumption) | assumption)
                                          have q223 : x86_4 < (x7_3.length : Int) := of_decide_eq_true (by first | (with_reducible assumption) | assumption)
                                          obtain ⟨ad223, e223, hx223_0⟩ := Kd.at_string (Kd.R_reads' HO_7.out).2.2 x86_4 p223 q223
                                          cases e223
                                          replace p223 := eq_true p223
                                          replace q223 := eq_true q223
                                          have p224 : 0 ≤ (x14_5 : Int) := of_decide_eq_true (by first | (with_reducible assumption) | assumption)
                                          have q224 : x14_5 < (x7_3.length : Int) := of_decide_eq_true (by first | (with_reducible assumption) | assumption)
                                          obtain ⟨ad224, e224, hx224_0⟩ := Kd.at_string (Kd.R_reads' HO_7.out).2.2 x14_5 p224 q224
                                          obtain rfl : ad223 = ad224 := (by injection e224)
                                          replace p224 := eq_true p224
                                          replace q224 := eq_true q224
                                          refine start_ (n := 14) (S := fun w' => w'.cell? (ad223.add (x86_4).toNat) = some (.string (rdOf ByteArray.empty x7_3 x86_4)) ∧ w'.cell? (ad223.add (x14_5).toNat) = some (.string (rdOf ByteArray.empty x7_3 x14_5))) (ds := []) #[false, false, false, false, false, false, false, false, false, false, false, false, false, false] (by kernel_rfl) rfl rfl ⟨hx223_0, hx224_0⟩ (fun hHeld => ?_); refine with_tabW laws_FnCRANSorted.tab31 laws_FnCRANSorted.bits31 (fun HT_ HW_ => ?_)
                                          generalize wr.drew = w76 at HO_7 HB hx223_0 hx224_0 hHeld ⊢
                                          refine pure_ (i := 0) (N := some 98) (v := ?_) (a' := ?_) #[true, false, false, false, false, false, false, false, false, false, false, false, false, false] rfl rfl (any_of HT_.out (by kernel_rfl)) (fun _ _ _ h => h) (Or.inl ⟨by rfl, ?_⟩) ?_ ?_
                                          rotate_left
                                          · intro w'
                                            go_simp
                                            with_reducible rfl
                                          rotate_left
                                          · simp only [Act.put, List.setIfInBounds_toArray, List.set_cons_zero, List.set_cons_succ, i64_w, i32_w]
                                            rfl
                                          refine pure_ (i := 1) (N := some 99) (v := ?_) (a' := ?_) #[true, true, false, false, false, false, false, false, false, false, false, false, false, false] rfl rfl (any_of HT_.out (by kernel_rfl)) (fun _ _ _ h => h) (Or.inl ⟨by rfl, ?_⟩) ?_ ?_
                                          rotate_left
                                          · intro w'
                                            go_simp
                                            with_reducible rfl
                                          rotate_left
                                          · simp only [Act.put, List.setIfInBounds_toArray, List.set_cons_zero, List.set_cons_succ, i64_w, i32_w]
                                            rfl
                                          refine pure_ (i := 2) (N := some 100) (v := ?_) (a' := ?_) #[true, true, true, false, false, false, false, false, false, false, false, false, false, false] rfl rfl (any_of HT_.out (by kernel_rfl)) (fun _ _ _ h => h) (Or.inl ⟨by rfl, ?_⟩) ?_ ?_
                                          rotate_left
                                          · intro w'
                                            go_simp
                                            with_reducible rfl
                                          rotate_left
                                          · simp only [Act.put, List.setIfInBounds_toArray, List.set_cons_zero, List.set_cons_succ, i64_w, i32_w]
                                            rfl
                                          refine pure_ (i := 4) (N := some 102) (v := ?_) (a' := ?_) #[true, true, true, false, true, false, false, false, false, false, false, false, false, false] rfl rfl (any_of HT_.out (by kernel_rfl)) (fun _ _ _ h => h) (Or.inl ⟨by rfl, ?_⟩) ?_ ?_
                                          rotate_left
                                          · intro w'
                                            go_simp
                                            with_reducible rfl
                                          rotate_left
                                          · simp only [Act.put, List.setIfInBounds_toArray, List.set_cons_zero, List.set_cons_succ, i64_w, i32_w]
                                            rfl
                                          refine pure_ (i := 5) (N := some 103) (v := ?_) (a' := ?_) #[true, true, true, false, true, true, false, false, false, false, false, false, false, false] rfl rfl (any_of HT_.out (by kernel_rfl)) (fun _ _ _ h => h) (Or.inl ⟨by rfl, ?_⟩) ?_ ?_
                                          rotate_left
                                          · intro w'
                                            go_simp
                                            with_reducible rfl
                                          rotate_left
                                          · simp only [Act.put, List.setIfInBounds_toArray, List.set_cons_zero, List.set_cons_succ, i64_w, i32_w]
                                            rfl
                                          refine pure_ (i := 6) (N := some 104) (v := ?_) (a' := ?_) #[true, true, true, false, true, true, true, false, false, false, false, false, false, false] rfl rfl (any_of HT_.out (by kernel_rfl)) (fun _ _ _ h => h) (Or.inl ⟨by rfl, ?_⟩) ?_ ?_
                                          rotate_left
                                          · intro w'
                                            go_simp
                                            with_reducible rfl
                                          rotate_left
                                          · simp only [Act.put, List.setIfInBounds_toArray, List.set_cons_zero, List.set_cons_succ, i64_w, i32_w]
                                            rfl
                                          refine take_ (i := 3) (N := some 101) (v := ?_) (a' := ?_) #[true, true, true, true, true, true, true, false, false, false, false, false, false, false] rfl rfl (take_ofW HT_.out HW_.out (by kernel_rfl)) (fun _ _ _ h => h) (Or.inl ⟨by rfl, ?_⟩) hHeld ?_ ?_
                                          rotate_left
                                          · rintro w' ⟨s0, s1⟩
                                            go_simp
                                            with_reducible rfl
                                          rotate_left
                                          · simp only [Act.put, List.setIfInBounds_toArray, List.set_cons_zero, List.set_cons_succ, i64_w, i32_w]
                                            rfl
                                          refine take_ (i := 7) (N := some 105) (v := ?_) (a' := ?_) #[true, true, true, true, true, true, true, true, false, false, false, false, false, false] rfl rfl (take_ofW HT_.out HW_.out (by kernel_rfl)) (fun _ _ _ h => h) (Or.inl ⟨by rfl, ?_⟩) hHeld ?_ ?_
                                          rotate_left
                                          · rintro w' ⟨s0, s1⟩
                                            go_simp
                                            with_reducible rfl
                                          rotate_left
                                          · simp only [Act.put, List.setIfInBounds_toArray, List.set_cons_zero, List.set_cons_succ, i64_w, i32_w]
                                            rfl
                                          refine one_ (i := 8) (N := some 106) #[true, true, true, true, true, true, true, true, true, false, false, false, false, false] rfl rfl (one_of HT_.out (by kernel_rfl)) (by decide) (fun K hK => ?_)
                                          refine goes_ Tryd.func18 (by kernel_rfl) rfl #[.string (rdOf ByteArray.empty x7_3 x86_4), .string (rdOf ByteArray.empty x7_3 x14_5)] (by rfl) rfl rfl (by (try simp only [List.map_toArray, List.map_cons, List.map_nil]); first | done | rfl | (simp only [List.length_drop, List.length_take]; rfl)) ?_
                                          with_reducible refine (spec_CRANCompare.calls k5 (rdOf ByteArray.empty x7_3 x86_4) (rdOf ByteArray.empty x7_3 x14_5) t225 false _ A69.out).mono ?_
                                          rintro e w77 ⟨rfl, hb⟩
                                          have HS0_ := (hb.cell (World.block_lt_of_cell? _ _ (hHeld.1))).trans (hHeld.1)
                                          have HS1_ := (hb.cell (World.block_lt_of_cell? _ _ (hHeld.2))).trans (hHeld.2)
                                          refine ⟨_, rfl, ?_⟩
                                          have n0_ := Aside0.mk (Kd.R_below (by (with_reducible repeat (first | apply Kd.R_alloc | apply Kd.R_drewN | apply Kd.R_drew)); exact HO_7.out) hb)
                                          have n1_ := Aside0.mk (below_step (by repeat (first | (with_reducible first | exact HB.out | apply below_alloc | apply pw_below_drewN | apply below_drew1) | exact HB.out)) hb)
                                          clear HO_7
                                          clear HB
                                          have HO_7 := n0_
                                          have HB := n1_
                                          clear n0_ n1_
                                          (try clear hb)
                                          (try clear hb2)
                                          (try clear hk)
                                          (try clear hi)
                                          refine hK.out _ _ ⟨HS0_, HS1_⟩ (fun hHeld => ?_)
                                          clear hK K
                                          refine norm_ (a' := ?_) ?_ ?_
                                          rotate_left
                                          · show Act.put _ (some 106) _ = _
                                            simp only [Act.put, List.setIfInBounds_toArray, List.set_cons_zero, List.set_cons_succ, i64_w, i32_w]
                                            rfl
                                          refine pure_ (i := 9) (N := some 97) (v := ?_) (a' := ?_) #[true, true, true, true, true, true, true, true, true, true, false, false, false, false] rfl rfl (any_of HT_.out (by kernel_rfl)) (fun _ _ _ h => h) (Or.inl ⟨by rfl, ?_⟩) ?_ ?_
                                          rotate_left
                                          · intro w'
                                            go_simp
                                            with_reducible rfl
                                          rotate_left
                                          · simp only [Act.put, List.setIfInBounds_toArray, List.set_cons_zero, List.set_cons_succ, i64_w, i32_w]
                                            rfl
                                          refine pure_ (i := 10) (N := some 107) (v := ?_) (a' := ?_) #[true, true, true, true, true, true, true, true, true, true, true, false, false, false] rfl rfl (any_of HT_.out (by kernel_rfl)) (fun _ _ _ h => h) (Or.inl ⟨by rfl, ?_⟩) ?_ ?_
                                          rotate_left
                                          · intro w'
                                            go_simp
                                            with_reducible rfl
                                          rotate_left
                                          · simp only [Act.put, List.setIfInBounds_toArray, List.set_cons_zero, List.set_cons_succ, i64_w, i32_w]
                                            rfl
                                          refine pure_ (i := 11) (N := some 108) (v := ?_) (a' := ?_) #[true, true, true, true, true, true, true, true, true, true, true, true, false, false] rfl rfl (any_of HT_.out (by kernel_rfl)) (fun _ _ _ h => h) (Or.inl ⟨by rfl, ?_⟩) ?_ ?_
                                          rotate_left
                                          · intro w'
                                            go_simp
                                            with_reducible rfl
                                          rotate_left
                                          · simp only [Act.put, List.setIfInBounds_toArray, List.set_cons_zero, List.set_cons_succ, i64_w, i32_w]
                                            rfl
                                          refine pure_ (i := 12) (N := some 15) (v := ?_) (a' := ?_) #[true, true, true, true, true, true, true, true, true, true, true, true, true, false] rfl rfl (any_of HT_.out (by kernel_rfl)) (fun _ _ _ h => h) (Or.inl ⟨by rfl, ?_⟩) ?_ ?_
                                          rotate_left
                                          · intro w'
                                            go_simp
                                            with_reducible rfl
                                          rotate_left
                                          · simp only [Act.put, List.setIfInBounds_toArray, List.set_cons_zero, List.set_cons_succ, i64_w, i32_w]
                                            rfl
                                          refine pure_ (i := 13) (N := some 16) (v := ?_) (a' := ?_) #[true, true, true, true, true, true, true, true, true, true, true, true, true, true] rfl rfl (any_of HT_.out (by kernel_rfl)) (fun _ _ _ h => h) (Or.inl ⟨by rfl, ?_⟩) ?_ ?_
                                          rotate_left
                                          · intro w'
                                            go_simp
                                            with_reducible rfl
                                          rotate_left
                                          · simp only [Act.put, List.setIfInBounds_toArray, List.set_cons_zero, List.set_cons_succ, i64_w, i32_w]
                                            rfl
                                          refine done_ (done_of HT_.out (by kernel_rfl)) ?_
                                          try go_wp2
                                          go_ret
                                          exact ⟨by first | rfl | (simp [errW_none, errW_some] <;> rfl) | (simp [*, errW_none, errW_some] <;> rfl), by repeat (first | (with_reducible first | exact HB.out | apply below_alloc | apply pw_below_drewN | apply below_drew1) | exact HB.out)⟩
                                      · rw [if_neg c68] at H
                                        exact absurd H (by simp)
                                    · rw [if_neg c67] at H
                                      exact absurd H (by simp)
                                  · rw [if_neg c66] at H
                                    exact absurd H (by simp)
                                · rw [if_neg c65] at H
                                  have c65b0 : decide (x14_5 < (x7_3.length : Int)) = false := decide_eq_false c65
                                  clear c65
                                  have H' := Aside0.mk H
                                  clear H
                                  go_wp2
                                  go_roundg k5
                                  case measure => have := HJ3.out; have := HK2.out; have := HK3.out; have := HK4.out; have := HK5.out; omega
                                  case rel => exact ⟨(wrap64 (x86_4 + 1)), (by first | rfl | (simp; done) | (simp [*]; done)), H', ⟨by have := HJ3.out; have := HK2.out; have := HK3.out; have := HK4.out; have := HK5.out; omega⟩, ⟨by (with_reducible repeat (first | apply Kd.R_alloc | apply Kd.R_drewN | apply Kd.R_drew)); exact HO_7.out⟩, ⟨by repeat (first | (with_reducible first | exact HB.out | apply below_alloc | apply pw_below_drewN | apply below_drew1) | exact HB.out)⟩⟩
                          · rw [if_neg c64] at H
                            have c64b0 : decide (x86_4 < (x7_3.length : Int)) = false := decide_eq_false c64
                            clear c64
                            obtain rfl := Option.some.inj H
                            go_wp2
                            go_ret
                            exact ⟨by first | rfl | (simp [errW_none, errW_some] <;> rfl) | (simp [*, errW_none, errW_some] <;> rfl), by repeat (first | (with_reducible first | exact HB.out | apply below_alloc | apply pw_below_drewN | apply below_drew1) | exact HB.out)⟩
  · replace c3 := Bool.eq_false_iff.mpr c3
    subst c3
    have H1 : (some true) = some r := by rw [if_neg (show ¬ (false = true) by decide)] at H; exact H
    clear H
    have H := H1
    clear H1
    obtain rfl := Option.some.inj H
    go_enter Tryd.func4, Tryd.ntmps4
    go_wp2_with (first | ((with_reducible refine gate_callee (f := 16) rfl ?_); refine goesL_ (some 18) rfl rfl Tryd.func16 (by kernel_rfl) rfl #[.slice A0 l0.length c0] rfl (by (try simp only [List.map_toArray, List.map_cons, List.map_nil]); first | done | rfl | (simp only [List.length_drop, List.length_take]; rfl)) ?_; (with_reducible refine (laws_zzFits1.calls k _ _ l0 false _ ?side1 ?side2 A2.out).mono ?_); (case side1 => repeat (first | exact HR0.out | (with_reducible refine Kd.C_alloc ?_ _) | (with_reducible refine Kd.C_drewN ?_ _) | (with_reducible refine Kd.C_drew ?_))); (case side2 => exact HC0.out); rintro e w' ⟨rfl, ⟨nd, rfl⟩⟩; refine ⟨_, rfl, ?_⟩))
    go_ret
    exact ⟨by first | rfl | (simp [errW_none, errW_some] <;> rfl) | (simp [*, errW_none, errW_some] <;> rfl), by repeat (first | (with_reducible first | exact HB.out | apply below_alloc | apply pw_below_drewN | apply below_drew1) | exact HB.out)⟩

/-- THE ONE PURE STATEMENT of laws_FnCRANSorted. -/
def laws_FnCRANSorted.Pure : Prop := ∀ (l0 : List ByteArray), l0.length ≤ 9223372036854775807 → ∃ k, laws_FnCRANSorted.f k l0 = some true
theorem laws_FnCRANSorted.walk (P : laws_FnCRANSorted.Pure) (A0 : Option Addr) (c0 : Nat) (l0 : List ByteArray) (w : World) (hm0 : l0.length ≤ 9223372036854775807) (hr0 : Kd.C Kd.string w A0 l0.length l0) (hc0 : l0.length ≤ c0) (hG : GW w) :
    Calls Tryd.prog 4 #[.slice A0 l0.length c0] w fun e w' => e = .returned (.bool true) ∧ Below w.heap.size w w' := by
  obtain ⟨k, h⟩ := P l0 hm0
  refine (laws_FnCRANSorted.calls k _ _ l0 true w hr0 hc0 hG h).mono ?_
  rintro e w' ⟨rfl, hd⟩
  exact ⟨rfl, hd⟩

end Go.Proofs.YtmhlmkefnmdbcaaDoor.Z
