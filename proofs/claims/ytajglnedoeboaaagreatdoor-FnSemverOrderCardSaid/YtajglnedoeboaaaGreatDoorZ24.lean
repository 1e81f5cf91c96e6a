-- Written by a program of this session (myprint.py).
import Derived.Test.YtajglnedoeboaaaGreatDoorZ0
import Derived.Test.YtajglnedoeboaaaGreatDoorZ2
import Derived.Test.YtajglnedoeboaaaGreatDoorZ3
import Derived.Test.YtajglnedoeboaaaGreatDoorZ17
import Derived.Test.YtajglnedoeboaaaGreatDoorZ20
import Derived.Test.YtajglnedoeboaaaGreatDoorZ21
import Derived.Test.YtajglnedoeboaaaGreatDoorZ22
import Derived.Test.YtajglnedoeboaaaGreatDoorZ23
import Derived.Test.YtajglnedoeboaaaGreatDoorGe
namespace Go.Proofs.YtajglnedoeboaaaGreatDoor.Z
open Go.Proofs.YtajglnedoeboaaaGreatDoor.Gw
open Go.RowKit Go.Proofs.YtajglnedoeboaaaGreatDoorW.PrintWords Go.Proofs.YtajglnedoeboaaaGreatDoorW.PrintLast Go.Proofs.YtajglnedoeboaaaGreatDoorW.PrintMore
attribute [local go_sem high] Go.Proofs.YtajglnedoeboaaaGreatDoor.Ge.gtr_str
attribute [local go_sem] max2_int min2_int max_two min_two max_three min_three max_four min_four   -- for this text's walks alone
set_option linter.unusedVariables false
set_option linter.unusedSimpArgs false

/-! ### laws_FnSemverOrder: function 4 -/
mutual
def laws_FnSemverOrder.j0 : Nat → Bool → Bool → List (S66) → ByteArray → ByteArray → Bool → List (S66) → ByteArray → ByteArray → Bool → List (S66) → ByteArray → ByteArray → Option (Bool)
  | 0, _, _, _, _, _, _, _, _, _, _, _, _, _ => none
  | k + 1, x25, x257000, x257001, x257002, x257003, x258000, x258001, x258002, x258003, x259000, x259001, x259002, x259003 => if x25 = true then (some true) else ((laws_likes.f k (([(⟨x257000, x257001, x257002, x257003⟩ : S24), (⟨x258000, x258001, x258002, x258003⟩ : S24), (⟨x259000, x259001, x259002, x259003⟩ : S24)] : List (S24)))).bind fun t265 => (if t265 = true then ((impl_SemverCompare.f k x257000 x257001 x257002 x257003 x258000 x258001 x258002 x258003).bind fun bt266 => ((impl_SemverCompare.f k x258000 x258001 x258002 x258003 x259000 x259001 x259002 x259003).bind fun bt268 => ((impl_SemverCompare.f k x257000 x257001 x257002 x257003 x259000 x259001 x259002 x259003).bind fun bt270 => (if bt270.2 = true then ((laws_chained.f k bt266.1 bt268.1 bt270.1).bind fun t272 => (laws_FnSemverOrder.j1 k (!t272) x257000 x257001 x257002 x257003 x258000 x258001 x258002 x258003 x259000 x259001 x259002 x259003)) else (laws_FnSemverOrder.j1 k true x257000 x257001 x257002 x257003 x258000 x258001 x258002 x258003 x259000 x259001 x259002 x259003))))) else (some true)))
def laws_FnSemverOrder.j1 : Nat → Bool → Bool → List (S66) → ByteArray → ByteArray → Bool → List (S66) → ByteArray → ByteArray → Bool → List (S66) → ByteArray → ByteArray → Option (Bool)
  | 0, _, _, _, _, _, _, _, _, _, _, _, _, _ => none
  | k + 1, x58, x257000, x257001, x257002, x257003, x258000, x258001, x258002, x258003, x259000, x259001, x259002, x259003 => if x58 = true then (some false) else ((impl_NuGetCompare.f k x257000 x257001 x257002 x257003 x258000 x258001 x258002 x258003).bind fun bt273 => ((impl_NuGetCompare.f k x258000 x258001 x258002 x258003 x259000 x259001 x259002 x259003).bind fun bt275 => ((impl_NuGetCompare.f k x257000 x257001 x257002 x257003 x259000 x259001 x259002 x259003).bind fun bt277 => (if bt277.2 = true then ((laws_chained.f k bt273.1 bt275.1 bt277.1).bind fun t279 => (laws_FnSemverOrder.j2 k (!t279) x257000 x257001 x257002 x257003 x258000 x258001 x258002 x258003 x259000 x259001 x259002 x259003)) else (laws_FnSemverOrder.j2 k true x257000 x257001 x257002 x257003 x258000 x258001 x258002 x258003 x259000 x259001 x259002 x259003)))))
def laws_FnSemverOrder.j2 : Nat → Bool → Bool → List (S66) → ByteArray → ByteArray → Bool → List (S66) → ByteArray → ByteArray → Bool → List (S66) → ByteArray → ByteArray → Option (Bool)
  | 0, _, _, _, _, _, _, _, _, _, _, _, _, _ => none
  | k + 1, x85, x257000, x257001, x257002, x257003, x258000, x258001, x258002, x258003, x259000, x259001, x259002, x259003 => if x85 = true then (some false) else ((impl_PubCompare.f k x257000 x257001 x257002 x257003 x258000 x258001 x258002 x258003).bind fun bt280 => ((impl_PubCompare.f k x258000 x258001 x258002 x258003 x259000 x259001 x259002 x259003).bind fun bt282 => ((impl_PubCompare.f k x257000 x257001 x257002 x257003 x259000 x259001 x259002 x259003).bind fun bt284 => (if bt284.2 = true then ((laws_chained.f k bt280.1 bt282.1 bt284.1).bind fun t286 => (laws_FnSemverOrder.j3 k (!t286) x257000 x257001 x257002 x257003 x258000 x258001 x258002 x258003 x259000 x259001 x259002 x259003)) else (laws_FnSemverOrder.j3 k true x257000 x257001 x257002 x257003 x258000 x258001 x258002 x258003 x259000 x259001 x259002 x259003)))))
def laws_FnSemverOrder.j3 : Nat → Bool → Bool → List (S66) → ByteArray → ByteArray → Bool → List (S66) → ByteArray → ByteArray → Bool → List (S66) → ByteArray → ByteArray → Option (Bool)
  | 0, _, _, _, _, _, _, _, _, _, _, _, _, _ => none
  | k + 1, x112, x257000, x257001, x257002, x257003, x258000, x258001, x258002, x258003, x259000, x259001, x259002, x259003 => if x112 = true then (some false) else ((impl_HackageCompare.f k x257000 x257001 x257002 x257003 x258000 x258001 x258002 x258003).bind fun bt287 => ((impl_HackageCompare.f k x258000 x258001 x258002 x258003 x259000 x259001 x259002 x259003).bind fun bt289 => ((impl_HackageCompare.f k x257000 x257001 x257002 x257003 x259000 x259001 x259002 x259003).bind fun bt291 => (if bt291.2 = true then ((laws_chained.f k bt287.1 bt289.1 bt291.1).bind fun t293 => (some t293)) else (some false)))))
end
def laws_FnSemverOrder.f (k : Nat) (a0_0 : Bool) (l0_1 : List (S66)) (a0_2 : ByteArray) (a0_3 : ByteArray) (a1_0 : Bool) (l1_1 : List (S66)) (a1_2 : ByteArray) (a1_3 : ByteArray) (a2_0 : Bool) (l2_1 : List (S66)) (a2_2 : ByteArray) (a2_3 : ByteArray) : Option (Bool) := (laws_zzFits4.f k a0_0 l0_1 a0_2 a0_3).bind fun t259 => (if t259 = true then ((laws_zzFits4.f k a1_0 l1_1 a1_2 a1_3).bind fun t260 => (if t260 = true then ((laws_zzFits4.f k a2_0 l2_1 a2_2 a2_3).bind fun t261 => (laws_FnSemverOrder.j0 k (!t261) a0_0 l0_1 a0_2 a0_3 a1_0 l1_1 a1_2 a1_3 a2_0 l2_1 a2_2 a2_3)) else (laws_FnSemverOrder.j0 k true a0_0 l0_1 a0_2 a0_3 a1_0 l1_1 a1_2 a1_3 a2_0 l2_1 a2_2 a2_3))) else (laws_FnSemverOrder.j0 k true a0_0 l0_1 a0_2 a0_3 a1_0 l1_1 a1_2 a1_3 a2_0 l2_1 a2_2 a2_3))
theorem laws_FnSemverOrder.mono_l : ∀ k, (∀ y0 y1 y2 y3 y4 y5 y6 y7 y8 y9 y10 y11 y12, LeO (laws_FnSemverOrder.j0 k y0 y1 y2 y3 y4 y5 y6 y7 y8 y9 y10 y11 y12) (laws_FnSemverOrder.j0 (k + 1) y0 y1 y2 y3 y4 y5 y6 y7 y8 y9 y10 y11 y12)) ∧ (∀ y0 y1 y2 y3 y4 y5 y6 y7 y8 y9 y10 y11 y12, LeO (laws_FnSemverOrder.j1 k y0 y1 y2 y3 y4 y5 y6 y7 y8 y9 y10 y11 y12) (laws_FnSemverOrder.j1 (k + 1) y0 y1 y2 y3 y4 y5 y6 y7 y8 y9 y10 y11 y12)) ∧ (∀ y0 y1 y2 y3 y4 y5 y6 y7 y8 y9 y10 y11 y12, LeO (laws_FnSemverOrder.j2 k y0 y1 y2 y3 y4 y5 y6 y7 y8 y9 y10 y11 y12) (laws_FnSemverOrder.j2 (k + 1) y0 y1 y2 y3 y4 y5 y6 y7 y8 y9 y10 y11 y12)) ∧ (∀ y0 y1 y2 y3 y4 y5 y6 y7 y8 y9 y10 y11 y12, LeO (laws_FnSemverOrder.j3 k y0 y1 y2 y3 y4 y5 y6 y7 y8 y9 y10 y11 y12) (laws_FnSemverOrder.j3 (k + 1) y0 y1 y2 y3 y4 y5 y6 y7 y8 y9 y10 y11 y12))
  | 0 => ⟨fun _ _ _ _ _ _ _ _ _ _ _ _ _ r h => by simp [laws_FnSemverOrder.j0] at h, fun _ _ _ _ _ _ _ _ _ _ _ _ _ r h => by simp [laws_FnSemverOrder.j1] at h, fun _ _ _ _ _ _ _ _ _ _ _ _ _ r h => by simp [laws_FnSemverOrder.j2] at h, fun _ _ _ _ _ _ _ _ _ _ _ _ _ r h => by simp [laws_FnSemverOrder.j3] at h⟩
  | k + 1 => by
    obtain ⟨ih0, ih1, ih2, ih3⟩ := laws_FnSemverOrder.mono_l k
    refine ⟨?_, ?_, ?_, ?_⟩
    · intro y0 y1 y2 y3 y4 y5 y6 y7 y8 y9 y10 y11 y12
      unfold laws_FnSemverOrder.j0
      repeat' first
      | (with_reducible exact ih0 _ _ _ _ _ _ _ _ _ _ _ _ _)
      | (with_reducible exact ih1 _ _ _ _ _ _ _ _ _ _ _ _ _)
      | (with_reducible exact ih2 _ _ _ _ _ _ _ _ _ _ _ _ _)
      | (with_reducible exact ih3 _ _ _ _ _ _ _ _ _ _ _ _ _)
      | (with_reducible exact impl_HackageCompare.mono _ _ _ _ _ _ _ _ _)
      | (with_reducible exact impl_NuGetCompare.mono _ _ _ _ _ _ _ _ _)
      | (with_reducible exact impl_PubCompare.mono _ _ _ _ _ _ _ _ _)
      | (with_reducible exact impl_SemverCompare.mono _ _ _ _ _ _ _ _ _)
      | (with_reducible exact laws_chained.mono _ _ _ _)
      | (with_reducible exact laws_likes.mono _ _)
      | (with_reducible exact laws_zzFits4.mono _ _ _ _ _)
      | (with_reducible exact LeO.refl _)
      | (with_reducible exact LeO.none _)
      | (with_reducible refine LeO.ite ?_ ?_)
      | (with_reducible refine LeO.bind ?_ (fun _ => ?_))
      | exact ih0 _ _ _ _ _ _ _ _ _ _ _ _ _
      | exact ih1 _ _ _ _ _ _ _ _ _ _ _ _ _
      | exact ih2 _ _ _ _ _ _ _ _ _ _ _ _ _
      | exact ih3 _ _ _ _ _ _ _ _ _ _ _ _ _
      | exact impl_HackageCompare.mono _ _ _ _ _ _ _ _ _
      | exact impl_NuGetCompare.mono _ _ _ _ _ _ _ _ _
      | exact impl_PubCompare.mono _ _ _ _ _ _ _ _ _
      | exact impl_SemverCompare.mono _ _ _ _ _ _ _ _ _
      | exact laws_chained.mono _ _ _ _
      | exact laws_likes.mono _ _
      | exact laws_zzFits4.mono _ _ _ _ _
      | exact LeO.none _
      | refine LeO.ite ?_ ?_
      | refine LeO.bind ?_ (fun _ => ?_)
    · intro y0 y1 y2 y3 y4 y5 y6 y7 y8 y9 y10 y11 y12
      unfold laws_FnSemverOrder.j1
      repeat' first
      | (with_reducible exact ih0 _ _ _ _ _ _ _ _ _ _ _ _ _)
      | (with_reducible exact ih1 _ _ _ _ _ _ _ _ _ _ _ _ _)
      | (with_reducible exact ih2 _ _ _ _ _ _ _ _ _ _ _ _ _)
      | (with_reducible exact ih3 _ _ _ _ _ _ _ _ _ _ _ _ _)
      | (with_reducible exact impl_HackageCompare.mono _ _ _ _ _ _ _ _ _)
      | (with_reducible exact impl_NuGetCompare.mono _ _ _ _ _ _ _ _ _)
      | (with_reducible exact impl_PubCompare.mono _ _ _ _ _ _ _ _ _)
      | (with_reducible exact impl_SemverCompare.mono _ _ _ _ _ _ _ _ _)
      | (with_reducible exact laws_chained.mono _ _ _ _)
      | (with_reducible exact laws_likes.mono _ _)
      | (with_reducible exact laws_zzFits4.mono _ _ _ _ _)
      | (with_reducible exact LeO.refl _)
      | (with_reducible exact LeO.none _)
      | (with_reducible refine LeO.ite ?_ ?_)
      | (with_reducible refine LeO.bind ?_ (fun _ => ?_))
      | exact ih0 _ _ _ _ _ _ _ _ _ _ _ _ _
      | exact ih1 _ _ _ _ _ _ _ _ _ _ _ _ _
      | exact ih2 _ _ _ _ _ _ _ _ _ _ _ _ _
      | exact ih3 _ _ _ _ _ _ _ _ _ _ _ _ _
      | exact impl_HackageCompare.mono _ _ _ _ _ _ _ _ _
      | exact impl_NuGetCompare.mono _ _ _ _ _ _ _ _ _
      | exact impl_PubCompare.mono _ _ _ _ _ _ _ _ _
      | exact impl_SemverCompare.mono _ _ _ _ _ _ _ _ _
      | exact laws_chained.mono _ _ _ _
      | exact laws_likes.mono _ _
      | exact laws_zzFits4.mono _ _ _ _ _
      | exact LeO.none _
      | refine LeO.ite ?_ ?_
      | refine LeO.bind ?_ (fun _ => ?_)
    · intro y0 y1 y2 y3 y4 y5 y6 y7 y8 y9 y10 y11 y12
      unfold laws_FnSemverOrder.j2
      repeat' first
      | (with_reducible exact ih0 _ _ _ _ _ _ _ _ _ _ _ _ _)
      | (with_reducible exact ih1 _ _ _ _ _ _ _ _ _ _ _ _ _)
      | (with_reducible exact ih2 _ _ _ _ _ _ _ _ _ _ _ _ _)
      | (with_reducible exact ih3 _ _ _ _ _ _ _ _ _ _ _ _ _)
      | (with_reducible exact impl_HackageCompare.mono _ _ _ _ _ _ _ _ _)
      | (with_reducible exact impl_NuGetCompare.mono _ _ _ _ _ _ _ _ _)
      | (with_reducible exact impl_PubCompare.mono _ _ _ _ _ _ _ _ _)
      | (with_reducible exact impl_SemverCompare.mono _ _ _ _ _ _ _ _ _)
      | (with_reducible exact laws_chained.mono _ _ _ _)
      | (with_reducible exact laws_likes.mono _ _)
      | (with_reducible exact laws_zzFits4.mono _ _ _ _ _)
      | (with_reducible exact LeO.refl _)
      | (with_reducible exact LeO.none _)
      | (with_reducible refine LeO.ite ?_ ?_)
      | (with_reducible refine LeO.bind ?_ (fun _ => ?_))
      | exact ih0 _ _ _ _ _ _ _ _ _ _ _ _ _
      | exact ih1 _ _ _ _ _ _ _ _ _ _ _ _ _
      | exact ih2 _ _ _ _ _ _ _ _ _ _ _ _ _
      | exact ih3 _ _ _ _ _ _ _ _ _ _ _ _ _
      | exact impl_HackageCompare.mono _ _ _ _ _ _ _ _ _
      | exact impl_NuGetCompare.mono _ _ _ _ _ _ _ _ _
      | exact impl_PubCompare.mono _ _ _ _ _ _ _ _ _
      | exact impl_SemverCompare.mono _ _ _ _ _ _ _ _ _
      | exact laws_chained.mono _ _ _ _
      | exact laws_likes.mono _ _
      | exact laws_zzFits4.mono _ _ _ _ _
      | exact LeO.none _
      | refine LeO.ite ?_ ?_
      | refine LeO.bind ?_ (fun _ => ?_)
    · intro y0 y1 y2 y3 y4 y5 y6 y7 y8 y9 y10 y11 y12
      unfold laws_FnSemverOrder.j3
      repeat' first
      | (with_reducible exact ih0 _ _ _ _ _ _ _ _ _ _ _ _ _)
      | (with_reducible exact ih1 _ _ _ _ _ _ _ _ _ _ _ _ _)
      | (with_reducible exact ih2 _ _ _ _ _ _ _ _ _ _ _ _ _)
      | (with_reducible exact ih3 _ _ _ _ _ _ _ _ _ _ _ _ _)
      | (with_reducible exact impl_HackageCompare.mono _ _ _ _ _ _ _ _ _)
      | (with_reducible exact impl_NuGetCompare.mono _ _ _ _ _ _ _ _ _)
      | (with_reducible exact impl_PubCompare.mono _ _ _ _ _ _ _ _ _)
      | (with_reducible exact impl_SemverCompare.mono _ _ _ _ _ _ _ _ _)
      | (with_reducible exact laws_chained.mono _ _ _ _)
      | (with_reducible exact laws_likes.mono _ _)
      | (with_reducible exact laws_zzFits4.mono _ _ _ _ _)
      | (with_reducible exact LeO.refl _)
      | (with_reducible exact LeO.none _)
      | (with_reducible refine LeO.ite ?_ ?_)
      | (with_reducible refine LeO.bind ?_ (fun _ => ?_))
      | exact ih0 _ _ _ _ _ _ _ _ _ _ _ _ _
      | exact ih1 _ _ _ _ _ _ _ _ _ _ _ _ _
      | exact ih2 _ _ _ _ _ _ _ _ _ _ _ _ _
      | exact ih3 _ _ _ _ _ _ _ _ _ _ _ _ _
      | exact impl_HackageCompare.mono _ _ _ _ _ _ _ _ _
      | exact impl_NuGetCompare.mono _ _ _ _ _ _ _ _ _
      | exact impl_PubCompare.mono _ _ _ _ _ _ _ _ _
      | exact impl_SemverCompare.mono _ _ _ _ _ _ _ _ _
      | exact laws_chained.mono _ _ _ _
      | exact laws_likes.mono _ _
      | exact laws_zzFits4.mono _ _ _ _ _
      | exact LeO.none _
      | refine LeO.ite ?_ ?_
      | refine LeO.bind ?_ (fun _ => ?_)
theorem laws_FnSemverOrder.mono : ∀ a0 a1 a2 a3 a4 a5 a6 a7 a8 a9 a10 a11 k, LeO (laws_FnSemverOrder.f k a0 a1 a2 a3 a4 a5 a6 a7 a8 a9 a10 a11) (laws_FnSemverOrder.f (k + 1) a0 a1 a2 a3 a4 a5 a6 a7 a8 a9 a10 a11) := by
  intro a0 a1 a2 a3 a4 a5 a6 a7 a8 a9 a10 a11 k
  obtain ⟨ih0, ih1, ih2, ih3⟩ := laws_FnSemverOrder.mono_l k
  unfold laws_FnSemverOrder.f
  repeat' first
      | (with_reducible exact ih0 _ _ _ _ _ _ _ _ _ _ _ _ _)
      | (with_reducible exact ih1 _ _ _ _ _ _ _ _ _ _ _ _ _)
      | (with_reducible exact ih2 _ _ _ _ _ _ _ _ _ _ _ _ _)
      | (with_reducible exact ih3 _ _ _ _ _ _ _ _ _ _ _ _ _)
      | (with_reducible exact impl_HackageCompare.mono _ _ _ _ _ _ _ _ _)
      | (with_reducible exact impl_NuGetCompare.mono _ _ _ _ _ _ _ _ _)
      | (with_reducible exact impl_PubCompare.mono _ _ _ _ _ _ _ _ _)
      | (with_reducible exact impl_SemverCompare.mono _ _ _ _ _ _ _ _ _)
      | (with_reducible exact laws_chained.mono _ _ _ _)
      | (with_reducible exact laws_likes.mono _ _)
      | (with_reducible exact laws_zzFits4.mono _ _ _ _ _)
      | (with_reducible exact LeO.refl _)
      | (with_reducible exact LeO.none _)
      | (with_reducible refine LeO.ite ?_ ?_)
      | (with_reducible refine LeO.bind ?_ (fun _ => ?_))
      | exact ih0 _ _ _ _ _ _ _ _ _ _ _ _ _
      | exact ih1 _ _ _ _ _ _ _ _ _ _ _ _ _
      | exact ih2 _ _ _ _ _ _ _ _ _ _ _ _ _
      | exact ih3 _ _ _ _ _ _ _ _ _ _ _ _ _
      | exact impl_HackageCompare.mono _ _ _ _ _ _ _ _ _
      | exact impl_NuGetCompare.mono _ _ _ _ _ _ _ _ _
      | exact impl_PubCompare.mono _ _ _ _ _ _ _ _ _
      | exact impl_SemverCompare.mono _ _ _ _ _ _ _ _ _
      | exact laws_chained.mono _ _ _ _
      | exact laws_likes.mono _ _
      | exact laws_zzFits4.mono _ _ _ _ _
      | exact LeO.none _
      | refine LeO.ite ?_ ?_
      | refine LeO.bind ?_ (fun _ => ?_)
set_option maxHeartbeats 8000000 in
set_option maxRecDepth 100000 in
theorem laws_FnSemverOrder.calls (k : Nat) (a0_0 : Bool) (P0_1_ : Nat → Prop) (A0_1 : Option Addr) (c0_1 : Nat) (l0_1 : List (S66)) (a0_2 : ByteArray) (a0_3 : ByteArray) (a1_0 : Bool) (P1_1_ : Nat → Prop) (A1_1 : Option Addr) (c1_1 : Nat) (l1_1 : List (S66)) (a1_2 : ByteArray) (a1_3 : ByteArray) (a2_0 : Bool) (P2_1_ : Nat → Prop) (A2_1 : Option Addr) (c2_1 : Nat) (l2_1 : List (S66)) (a2_2 : ByteArray) (a2_3 : ByteArray) (r : Bool) (w : World) (hs0_1 : Kd.V k66 66 w w.heap.size (fun k_ => P0_1_ k_) (.slice A0_1 l0_1.length c0_1) l0_1) (hs1_1 : Kd.V k66 66 w w.heap.size (fun k_ => P1_1_ k_) (.slice A1_1 l1_1.length c1_1) l1_1) (hs2_1 : Kd.V k66 66 w w.heap.size (fun k_ => P2_1_ k_) (.slice A2_1 l2_1.length c2_1) l2_1) (hG : GW w) (h : laws_FnSemverOrder.f k a0_0 l0_1 a0_2 a0_3 a1_0 l1_1 a1_2 a1_3 a2_0 l2_1 a2_2 a2_3 = some r) :
    Calls Tryz.prog 4 #[.agg #[.bool a0_0, .slice A0_1 l0_1.length c0_1, .string a0_2, .string a0_3], .agg #[.bool a1_0, .slice A1_1 l1_1.length c1_1, .string a1_2, .string a1_3], .agg #[.bool a2_0, .slice A2_1 l2_1.length c2_1, .string a2_2, .string a2_3]] w fun e w' => e = .returned (.bool r) ∧ Below w.heap.size w w' := by
  have HG := Aside0.mk hG
  clear hG
  have hu24 := Tryz.underlying24
  have HO0_1 := Aside0.mk (show Kd.V k66 66 w w.heap.size (fun k_ => ((P0_1_ k_ ∨ P1_1_ k_ ∨ P2_1_ k_) ∨ w.heap.size ≤ k_)) (.slice A0_1 l0_1.length c0_1) l0_1 from Kd.V_mono hs0_1 (fun k_ hk => .inl (.inl hk)))
  have HO1_1 := Aside0.mk (show Kd.V k66 66 w w.heap.size (fun k_ => ((P0_1_ k_ ∨ P1_1_ k_ ∨ P2_1_ k_) ∨ w.heap.size ≤ k_)) (.slice A1_1 l1_1.length c1_1) l1_1 from Kd.V_mono hs1_1 (fun k_ hk => .inl (.inr (.inl hk))))
  have HO2_1 := Aside0.mk (show Kd.V k66 66 w w.heap.size (fun k_ => ((P0_1_ k_ ∨ P1_1_ k_ ∨ P2_1_ k_) ∨ w.heap.size ≤ k_)) (.slice A2_1 l2_1.length c2_1) l2_1 from Kd.V_mono hs2_1 (fun k_ hk => .inl (.inr (.inr hk))))
  have HB := Aside0.mk (Below.refl w.heap.size w)
  have H : ((laws_zzFits4.f k a0_0 l0_1 a0_2 a0_3).bind fun t259 => (if t259 = true then ((laws_zzFits4.f k a1_0 l1_1 a1_2 a1_3).bind fun t260 => (if t260 = true then ((laws_zzFits4.f k a2_0 l2_1 a2_2 a2_3).bind fun t261 => (laws_FnSemverOrder.j0 k (!t261) a0_0 l0_1 a0_2 a0_3 a1_0 l1_1 a1_2 a1_3 a2_0 l2_1 a2_2 a2_3)) else (laws_FnSemverOrder.j0 k true a0_0 l0_1 a0_2 a0_3 a1_0 l1_1 a1_2 a1_3 a2_0 l2_1 a2_2 a2_3))) else (laws_FnSemverOrder.j0 k true a0_0 l0_1 a0_2 a0_3 a1_0 l1_1 a1_2 a1_3 a2_0 l2_1 a2_2 a2_3))) = some r := h
  clear h
  have HC4 := Aside0.mk H
  clear H
  go_enter Tryz.func4, Tryz.ntmps4
  go_upto_region 1 with (first | ((with_reducible refine gate_dst (N := 3) rfl ?_); refine box_event ?hg (N := 3) ?hd (cs := #[.bool a0_0, .slice A0_1 l0_1.length c0_1, .string a0_2, .string a0_3]) (t := 24) ?hr ?_; (case hd => rfl); (case hg => rfl); (case hr => first | (go_simp; done) | (go_simp; rfl)); intro gb256 hg w5 hbox hb; have n0_ := Aside0.mk (Kd.V_below (Kd.V_elderB (by (with_reducible repeat (first | apply Kd.V_alloc | apply Kd.V_drewN | apply Kd.V_drew)); exact HO0_1.out) gb256 (Nat.le_of_eq hg.symm)) hb); have n1_ := Aside0.mk (Kd.V_below (Kd.V_elderB (by (with_reducible repeat (first | apply Kd.V_alloc | apply Kd.V_drewN | apply Kd.V_drew)); exact HO1_1.out) gb256 (Nat.le_of_eq hg.symm)) hb); have n2_ := Aside0.mk (Kd.V_below (Kd.V_elderB (by (with_reducible repeat (first | apply Kd.V_alloc | apply Kd.V_drewN | apply Kd.V_drew)); exact HO2_1.out) gb256 (Nat.le_of_eq hg.symm)) hb); have n3_ := Aside0.mk (below_step (by repeat (first | (with_reducible first | exact HB.out | apply below_alloc | apply pw_below_drewN | apply below_drew1) | exact HB.out)) hb); have n4_ := Aside0.mk (hbox); have n5_ := Aside0.mk ((by rw [hg]; exact (below_size (by repeat (first | (with_reducible first | exact HB.out | apply below_alloc | apply pw_below_drewN | apply below_drew1) | exact HB.out))) : w.heap.size ≤ gb256)); have n6_ := Aside0.mk ((by rw [hg]; exact (below_size (by repeat (first | (with_reducible first | exact HB.out | apply below_alloc | apply pw_below_drewN | apply below_drew1) | exact HB.out))) : w.heap.size ≤ gb256)); clear HO0_1; clear HO1_1; clear HO2_1; clear HB; have HO0_1 := n0_; have HO1_1 := n1_; have HO2_1 := n2_; have HB := n3_; have BK256 := n4_; have GW256 := n5_; have GE256 := n6_; clear n0_ n1_ n2_ n3_ n4_ n5_ n6_; clear hb hbox hg) | ((with_reducible refine gate_dst (N := 4) rfl ?_); refine box_event ?hg (N := 4) ?hd (cs := #[.bool a1_0, .slice A1_1 l1_1.length c1_1, .string a1_2, .string a1_3]) (t := 24) ?hr ?_; (case hd => rfl); (case hg => rfl); (case hr => first | (go_simp; done) | (go_simp; rfl)); intro gb257 hg w6 hbox hb; have n0_ := Aside0.mk (Kd.V_below (Kd.V_elderB (by (with_reducible repeat (first | apply Kd.V_alloc | apply Kd.V_drewN | apply Kd.V_drew)); exact HO0_1.out) gb257 (Nat.le_of_eq hg.symm)) hb); have n1_ := Aside0.mk (Kd.V_below (Kd.V_elderB (by (with_reducible repeat (first | apply Kd.V_alloc | apply Kd.V_drewN | apply Kd.V_drew)); exact HO1_1.out) gb257 (Nat.le_of_eq hg.symm)) hb); have n2_ := Aside0.mk (Kd.V_below (Kd.V_elderB (by (with_reducible repeat (first | apply Kd.V_alloc | apply Kd.V_drewN | apply Kd.V_drew)); exact HO2_1.out) gb257 (Nat.le_of_eq hg.symm)) hb); have n3_ := Aside0.mk (blk_below (g := gb256) (o := .cells #[.bool a0_0, .slice A0_1 l0_1.length c0_1, .string a0_2, .string a0_3] 24 (0, 0)) (by (with_reducible repeat (first | refine blk_drewN ?_ _ | refine blk_drew ?_ | refine blk_alloc ?_ _)); exact BK256.out) hb); have n4_ := Aside0.mk (below_step (by repeat (first | (with_reducible first | exact HB.out | apply below_alloc | apply pw_below_drewN | apply below_drew1 | refine below_set ?_ GE256.out) | exact HB.out)) hb); have n5_ := Aside0.mk (hbox); have n6_ := Aside0.mk ((by rw [hg]; exact (below_size (by repeat (first | (with_reducible first | exact HB.out | apply below_alloc | apply pw_below_drewN | apply below_drew1 | refine below_set ?_ GE256.out) | exact HB.out))) : w.heap.size ≤ gb257)); have n7_ := Aside0.mk ((by rw [hg]; exact (below_size (by repeat (first | (with_reducible first | exact HB.out | apply below_alloc | apply pw_below_drewN | apply below_drew1 | refine below_set ?_ GE256.out) | exact HB.out))) : w.heap.size ≤ gb257)); have n8_ := Aside0.mk ((by rw [hg]; exact Nat.ne_of_lt (blk_lt (g := gb256) (o := .cells #[.bool a0_0, .slice A0_1 l0_1.length c0_1, .string a0_2, .string a0_3] 24 (0, 0)) (by (with_reducible repeat (first | refine blk_drewN ?_ _ | refine blk_drew ?_ | refine blk_alloc ?_ _)); exact BK256.out)) : gb256 ≠ gb257)); have n9_ := Aside0.mk ((by rw [hg]; exact Nat.ne_of_gt (blk_lt (g := gb256) (o := .cells #[.bool a0_0, .slice A0_1 l0_1.length c0_1, .string a0_2, .string a0_3] 24 (0, 0)) (by (with_reducible repeat (first | refine blk_drewN ?_ _ | refine blk_drew ?_ | refine blk_alloc ?_ _)); exact BK256.out)) : gb257 ≠ gb256)); clear HO0_1; clear HO1_1; clear HO2_1; clear BK256; clear HB; have HO0_1 := n0_; have HO1_1 := n1_; have HO2_1 := n2_; have BK256 := n3_; have HB := n4_; have BK257 := n5_; have GW257 := n6_; have GE257 := n7_; have NB256_257 := n8_; have NB257_256 := n9_; clear n0_ n1_ n2_ n3_ n4_ n5_ n6_ n7_ n8_ n9_; clear hb hbox hg) | ((with_reducible refine gate_dst (N := 5) rfl ?_); refine box_event ?hg (N := 5) ?hd (cs := #[.bool a2_0, .slice A2_1 l2_1.length c2_1, .string a2_2, .string a2_3]) (t := 24) ?hr ?_; (case hd => rfl); (case hg => rfl); (case hr => first | (go_simp; done) | (go_simp; rfl)); intro gb258 hg w7 hbox hb; have n0_ := Aside0.mk (Kd.V_below (Kd.V_elderB (by (with_reducible repeat (first | apply Kd.V_alloc | apply Kd.V_drewN | apply Kd.V_drew)); exact HO0_1.out) gb258 (Nat.le_of_eq hg.symm)) hb); have n1_ := Aside0.mk (Kd.V_below (Kd.V_elderB (by (with_reducible repeat (first | apply Kd.V_alloc | apply Kd.V_drewN | apply Kd.V_drew)); exact HO1_1.out) gb258 (Nat.le_of_eq hg.symm)) hb); have n2_ := Aside0.mk (Kd.V_below (Kd.V_elderB (by (with_reducible repeat (first | apply Kd.V_alloc | apply Kd.V_drewN | apply Kd.V_drew)); exact HO2_1.out) gb258 (Nat.le_of_eq hg.symm)) hb); have n3_ := Aside0.mk (blk_below (g := gb256) (o := .cells #[.bool a0_0, .slice A0_1 l0_1.length c0_1, .string a0_2, .string a0_3] 24 (0, 0)) (by (with_reducible repeat (first | refine blk_drewN ?_ _ | refine blk_drew ?_ | refine blk_alloc ?_ _)); exact BK256.out) hb); have n4_ := Aside0.mk (blk_below (g := gb257) (o := .cells #[.bool a1_0, .slice A1_1 l1_1.length c1_1, .string a1_2, .string a1_3] 24 (0, 0)) (by (with_reducible repeat (first | refine blk_drewN ?_ _ | refine blk_drew ?_ | refine blk_alloc ?_ _)); exact BK257.out) hb); have n5_ := Aside0.mk (below_step (by repeat (first | (with_reducible first | exact HB.out | apply below_alloc | apply pw_below_drewN | apply below_drew1 | refine below_set ?_ GE256.out | refine below_set ?_ GE257.out) | exact HB.out)) hb); have n6_ := Aside0.mk (hbox); have n7_ := Aside0.mk ((by rw [hg]; exact (below_size (by repeat (first | (with_reducible first | exact HB.out | apply below_alloc | apply pw_below_drewN | apply below_drew1 | refine below_set ?_ GE256.out | refine below_set ?_ GE257.out) | exact HB.out))) : w.heap.size ≤ gb258)); have n8_ := Aside0.mk ((by rw [hg]; exact (below_size (by repeat (first | (with_reducible first | exact HB.out | apply below_alloc | apply pw_below_drewN | apply below_drew1 | refine below_set ?_ GE256.out | refine below_set ?_ GE257.out) | exact HB.out))) : w.heap.size ≤ gb258)); have n9_ := Aside0.mk ((by rw [hg]; exact Nat.ne_of_lt (blk_lt (g := gb256) (o := .cells #[.bool a0_0, .slice A0_1 l0_1.length c0_1, .string a0_2, .string a0_3] 24 (0, 0)) (by (with_reducible repeat (first | refine blk_drewN ?_ _ | refine blk_drew ?_ | refine blk_alloc ?_ _)); exact BK256.out)) : gb256 ≠ gb258)); have n10_ := Aside0.mk ((by rw [hg]; exact Nat.ne_of_gt (blk_lt (g := gb256) (o := .cells #[.bool a0_0, .slice A0_1 l0_1.length c0_1, .string a0_2, .string a0_3] 24 (0, 0)) (by (with_reducible repeat (first | refine blk_drewN ?_ _ | refine blk_drew ?_ | refine blk_alloc ?_ _)); exact BK256.out)) : gb258 ≠ gb256)); have n11_ := Aside0.mk ((by rw [hg]; exact Nat.ne_of_lt (blk_lt (g := gb257) (o := .cells #[.bool a1_0, .slice A1_1 l1_1.length c1_1, .string a1_2, .string a1_3] 24 (0, 0)) (by (with_reducible repeat (first | refine blk_drewN ?_ _ | refine blk_drew ?_ | refine blk_alloc ?_ _)); exact BK257.out)) : gb257 ≠ gb258)); have n12_ := Aside0.mk ((by rw [hg]; exact Nat.ne_of_gt (blk_lt (g := gb257) (o := .cells #[.bool a1_0, .slice A1_1 l1_1.length c1_1, .string a1_2, .string a1_3] 24 (0, 0)) (by (with_reducible repeat (first | refine blk_drewN ?_ _ | refine blk_drew ?_ | refine blk_alloc ?_ _)); exact BK257.out)) : gb258 ≠ gb257)); clear HO0_1; clear HO1_1; clear HO2_1; clear BK256; clear BK257; clear HB; have HO0_1 := n0_; have HO1_1 := n1_; have HO2_1 := n2_; have BK256 := n3_; have BK257 := n4_; have HB := n5_; have BK258 := n6_; have GW258 := n7_; have GE258 := n8_; have NB256_258 := n9_; have NB258_256 := n10_; have NB257_258 := n11_; have NB258_257 := n12_; clear n0_ n1_ n2_ n3_ n4_ n5_ n6_ n7_ n8_ n9_ n10_ n11_ n12_; clear hb hbox hg))
  (try simp only [Act.put, List.setIfInBounds_toArray, List.set_cons_zero, List.set_cons_succ])
  go_cut [25] (fun v25 wc => ∃ (kq : Nat) (x25_3 : Bool), v25 = .bool x25_3 ∧ Aside0 (laws_FnSemverOrder.j0 kq x25_3 a0_0 l0_1 a0_2 a0_3 a1_0 l1_1 a1_2 a1_3 a2_0 l2_1 a2_2 a2_3 = some r) ∧ Aside0 (kq ≤ k) ∧ Aside0 (Kd.V k66 66 wc w.heap.size (fun k_ => ((P0_1_ k_ ∨ P1_1_ k_ ∨ P2_1_ k_) ∨ w.heap.size ≤ k_) ∧ k_ ≠ gb256 ∧ k_ ≠ gb257 ∧ k_ ≠ gb258) (.slice A0_1 l0_1.length c0_1) l0_1) ∧ Aside0 (Kd.V k66 66 wc w.heap.size (fun k_ => ((P0_1_ k_ ∨ P1_1_ k_ ∨ P2_1_ k_) ∨ w.heap.size ≤ k_) ∧ k_ ≠ gb256 ∧ k_ ≠ gb257 ∧ k_ ≠ gb258) (.slice A1_1 l1_1.length c1_1) l1_1) ∧ Aside0 (Kd.V k66 66 wc w.heap.size (fun k_ => ((P0_1_ k_ ∨ P1_1_ k_ ∨ P2_1_ k_) ∨ w.heap.size ≤ k_) ∧ k_ ≠ gb256 ∧ k_ ≠ gb257 ∧ k_ ≠ gb258) (.slice A2_1 l2_1.length c2_1) l2_1) ∧ Aside0 (wc.heap[gb256]? = some (.cells #[.bool a0_0, (.slice A0_1 l0_1.length c0_1), .string a0_2, .string a0_3] 24 (0, 0))) ∧ Aside0 (wc.heap[gb257]? = some (.cells #[.bool a1_0, (.slice A1_1 l1_1.length c1_1), .string a1_2, .string a1_3] 24 (0, 0))) ∧ Aside0 (wc.heap[gb258]? = some (.cells #[.bool a2_0, (.slice A2_1 l2_1.length c2_1), .string a2_2, .string a2_3] 24 (0, 0))) ∧ Aside0 (Below w.heap.size w wc))
  case first =>
    have H := HC4.out
    clear HC4
    replace H := Option.bind_eq_some_iff.mp H
    obtain ⟨t259, A80, H⟩ := H
    replace H : (if t259 = true then ((laws_zzFits4.f k a1_0 l1_1 a1_2 a1_3).bind fun t260 => (if t260 = true then ((laws_zzFits4.f k a2_0 l2_1 a2_2 a2_3).bind fun t261 => (laws_FnSemverOrder.j0 k (!t261) a0_0 l0_1 a0_2 a0_3 a1_0 l1_1 a1_2 a1_3 a2_0 l2_1 a2_2 a2_3)) else (laws_FnSemverOrder.j0 k true a0_0 l0_1 a0_2 a0_3 a1_0 l1_1 a1_2 a1_3 a2_0 l2_1 a2_2 a2_3))) else (laws_FnSemverOrder.j0 k true a0_0 l0_1 a0_2 a0_3 a1_0 l1_1 a1_2 a1_3 a2_0 l2_1 a2_2 a2_3)) = some r := H
    have A8 := Aside0.mk A80
    clear A80
    by_cases c9 : t259 = true
    · subst c9
      have H1 : ((laws_zzFits4.f k a1_0 l1_1 a1_2 a1_3).bind fun t260 => (if t260 = true then ((laws_zzFits4.f k a2_0 l2_1 a2_2 a2_3).bind fun t261 => (laws_FnSemverOrder.j0 k (!t261) a0_0 l0_1 a0_2 a0_3 a1_0 l1_1 a1_2 a1_3 a2_0 l2_1 a2_2 a2_3)) else (laws_FnSemverOrder.j0 k true a0_0 l0_1 a0_2 a0_3 a1_0 l1_1 a1_2 a1_3 a2_0 l2_1 a2_2 a2_3))) = some r := by rw [if_pos rfl] at H; exact H
      clear H
      have H := H1
      clear H1
      replace H := Option.bind_eq_some_iff.mp H
      obtain ⟨t260, A100, H⟩ := H
      replace H : (if t260 = true then ((laws_zzFits4.f k a2_0 l2_1 a2_2 a2_3).bind fun t261 => (laws_FnSemverOrder.j0 k (!t261) a0_0 l0_1 a0_2 a0_3 a1_0 l1_1 a1_2 a1_3 a2_0 l2_1 a2_2 a2_3)) else (laws_FnSemverOrder.j0 k true a0_0 l0_1 a0_2 a0_3 a1_0 l1_1 a1_2 a1_3 a2_0 l2_1 a2_2 a2_3)) = some r := H
      have A10 := Aside0.mk A100
      clear A100
      by_cases c11 : t260 = true
      · subst c11
        have H1 : ((laws_zzFits4.f k a2_0 l2_1 a2_2 a2_3).bind fun t261 => (laws_FnSemverOrder.j0 k (!t261) a0_0 l0_1 a0_2 a0_3 a1_0 l1_1 a1_2 a1_3 a2_0 l2_1 a2_2 a2_3)) = some r := by rw [if_pos rfl] at H; exact H
        clear H
        have H := H1
        clear H1
        replace H := Option.bind_eq_some_iff.mp H
        obtain ⟨t261, A120, H⟩ := H
        replace H : (laws_FnSemverOrder.j0 k (!t261) a0_0 l0_1 a0_2 a0_3 a1_0 l1_1 a1_2 a1_3 a2_0 l2_1 a2_2 a2_3) = some r := H
        have A12 := Aside0.mk A120
        clear A120
        have H' := Aside0.mk H
        clear H
        have hnb13 := NB256_257.out
        have hnc13 := NB257_256.out
        have hnb14 := NB256_258.out
        have hnc14 := NB258_256.out
        have hcz15_0 : w7.cell? ⟨gb256, 0, none⟩ = some (.bool a0_0) := (blk_cell BK256.out 0).trans rfl
        have hcz15_1 : w7.cell? ⟨gb256, 1, none⟩ = some (.slice A0_1 l0_1.length c0_1) := (blk_cell BK256.out 1).trans rfl
        have hcz15_2 : w7.cell? ⟨gb256, 2, none⟩ = some (.string a0_2) := (blk_cell BK256.out 2).trans rfl
        have hcz15_3 : w7.cell? ⟨gb256, 3, none⟩ = some (.string a0_3) := (blk_cell BK256.out 3).trans rfl
        have hfz15_0 := blk_frozen BK256.out 0
        have hfz15_1 := blk_frozen BK256.out 1
        have hfz15_2 := blk_frozen BK256.out 2
        have hfz15_3 := blk_frozen BK256.out 3
        go_wp2_with (first | ((with_reducible refine gate_callee (f := 6) rfl ?_); refine goesL_ (some 14) rfl rfl Tryz.func6 (by kernel_rfl) rfl #[.agg #[.bool a0_0, .slice A0_1 l0_1.length c0_1, .string a0_2, .string a0_3]] rfl (by (try simp only [List.map_toArray, List.map_cons, List.map_nil]); first | done | rfl | (simp only [List.length_drop, List.length_take]; rfl)) ?_; (with_reducible refine (laws_zzFits4.calls k a0_0 _ _ l0_1 a0_2 a0_3 true _ ?side1 ?side2 A8.out).mono ?_); (case side1 => repeat (first | exact (Kd.V_reads' HO0_1.out).2.2 | (with_reducible refine Kd.C_alloc ?_ _) | (with_reducible refine Kd.C_drewN ?_ _) | (with_reducible refine Kd.C_drew ?_))); (case side2 => exact (Kd.V_reads' HO0_1.out).2.1); rintro e w16 ⟨rfl, hb⟩; refine ⟨_, rfl, ?_⟩; have n0_ := Aside0.mk (Kd.V_below (by (with_reducible repeat (first | apply Kd.V_alloc | apply Kd.V_drewN | apply Kd.V_drew)); exact HO0_1.out) hb); have n1_ := Aside0.mk (Kd.V_below (by (with_reducible repeat (first | apply Kd.V_alloc | apply Kd.V_drewN | apply Kd.V_drew)); exact HO1_1.out) hb); have n2_ := Aside0.mk (Kd.V_below (by (with_reducible repeat (first | apply Kd.V_alloc | apply Kd.V_drewN | apply Kd.V_drew)); exact HO2_1.out) hb); have n3_ := Aside0.mk (blk_below (g := gb256) (o := .cells #[.bool a0_0, .slice A0_1 l0_1.length c0_1, .string a0_2, .string a0_3] 24 (0, 0)) (by (with_reducible repeat (first | refine blk_drewN ?_ _ | refine blk_drew ?_ | refine blk_alloc ?_ _)); exact BK256.out) hb); have n4_ := Aside0.mk (blk_below (g := gb257) (o := .cells #[.bool a1_0, .slice A1_1 l1_1.length c1_1, .string a1_2, .string a1_3] 24 (0, 0)) (by (with_reducible repeat (first | refine blk_drewN ?_ _ | refine blk_drew ?_ | refine blk_alloc ?_ _)); exact BK257.out) hb); have n5_ := Aside0.mk (blk_below (g := gb258) (o := .cells #[.bool a2_0, .slice A2_1 l2_1.length c2_1, .string a2_2, .string a2_3] 24 (0, 0)) (by (with_reducible repeat (first | refine blk_drewN ?_ _ | refine blk_drew ?_ | refine blk_alloc ?_ _)); exact BK258.out) hb); have n6_ := Aside0.mk (below_step (by repeat (first | (with_reducible first | exact HB.out | apply below_alloc | apply pw_below_drewN | apply below_drew1 | refine below_set ?_ GE256.out | refine below_set ?_ GE257.out | refine below_set ?_ GE258.out) | exact HB.out)) hb); clear HO0_1; clear HO1_1; clear HO2_1; clear BK256; clear BK257; clear BK258; clear HB; have HO0_1 := n0_; have HO1_1 := n1_; have HO2_1 := n2_; have BK256 := n3_; have BK257 := n4_; have BK258 := n5_; have HB := n6_; clear n0_ n1_ n2_ n3_ n4_ n5_ n6_; (try clear hb); (try clear hb2); (try clear hk); (try clear hi); have hnb17 := NB257_258.out; have hnc17 := NB258_257.out; have hcz18_0 : w16.cell? ⟨gb257, 0, none⟩ = some (.bool a1_0) := (blk_cell BK257.out 0).trans rfl; have hcz18_1 : w16.cell? ⟨gb257, 1, none⟩ = some (.slice A1_1 l1_1.length c1_1) := (blk_cell BK257.out 1).trans rfl; have hcz18_2 : w16.cell? ⟨gb257, 2, none⟩ = some (.string a1_2) := (blk_cell BK257.out 2).trans rfl; have hcz18_3 : w16.cell? ⟨gb257, 3, none⟩ = some (.string a1_3) := (blk_cell BK257.out 3).trans rfl; have hfz18_0 := blk_frozen BK257.out 0; have hfz18_1 := blk_frozen BK257.out 1; have hfz18_2 := blk_frozen BK257.out 2; have hfz18_3 := blk_frozen BK257.out 3) | (go_at_call 6; (with_reducible refine (laws_zzFits4.calls k a1_0 _ _ l1_1 a1_2 a1_3 true _ ?side1 ?side2 A10.out).mono ?_); (case side1 => repeat (first | exact (Kd.V_reads' HO1_1.out).2.2 | (with_reducible refine Kd.C_alloc ?_ _) | (with_reducible refine Kd.C_drewN ?_ _) | (with_reducible refine Kd.C_drew ?_))); (case side2 => exact (Kd.V_reads' HO1_1.out).2.1); rintro e w19 ⟨rfl, hb⟩; have n0_ := Aside0.mk (Kd.V_below (by (with_reducible repeat (first | apply Kd.V_alloc | apply Kd.V_drewN | apply Kd.V_drew)); exact HO0_1.out) hb); have n1_ := Aside0.mk (Kd.V_below (by (with_reducible repeat (first | apply Kd.V_alloc | apply Kd.V_drewN | apply Kd.V_drew)); exact HO1_1.out) hb); have n2_ := Aside0.mk (Kd.V_below (by (with_reducible repeat (first | apply Kd.V_alloc | apply Kd.V_drewN | apply Kd.V_drew)); exact HO2_1.out) hb); have n3_ := Aside0.mk (blk_below (g := gb256) (o := .cells #[.bool a0_0, .slice A0_1 l0_1.length c0_1, .string a0_2, .string a0_3] 24 (0, 0)) (by (with_reducible repeat (first | refine blk_drewN ?_ _ | refine blk_drew ?_ | refine blk_alloc ?_ _)); exact BK256.out) hb); have n4_ := Aside0.mk (blk_below (g := gb257) (o := .cells #[.bool a1_0, .slice A1_1 l1_1.length c1_1, .string a1_2, .string a1_3] 24 (0, 0)) (by (with_reducible repeat (first | refine blk_drewN ?_ _ | refine blk_drew ?_ | refine blk_alloc ?_ _)); exact BK257.out) hb); have n5_ := Aside0.mk (blk_below (g := gb258) (o := .cells #[.bool a2_0, .slice A2_1 l2_1.length c2_1, .string a2_2, .string a2_3] 24 (0, 0)) (by (with_reducible repeat (first | refine blk_drewN ?_ _ | refine blk_drew ?_ | refine blk_alloc ?_ _)); exact BK258.out) hb); have n6_ := Aside0.mk (below_step (by repeat (first | (with_reducible first | exact HB.out | apply below_alloc | apply pw_below_drewN | apply below_drew1 | refine below_set ?_ GE256.out | refine below_set ?_ GE257.out | refine below_set ?_ GE258.out) | exact HB.out)) hb); clear HO0_1; clear HO1_1; clear HO2_1; clear BK256; clear BK257; clear BK258; clear HB; have HO0_1 := n0_; have HO1_1 := n1_; have HO2_1 := n2_; have BK256 := n3_; have BK257 := n4_; have BK258 := n5_; have HB := n6_; clear n0_ n1_ n2_ n3_ n4_ n5_ n6_; (try clear hb); (try clear hb2); (try clear hk); (try clear hi); have hcz20_0 : w19.cell? ⟨gb258, 0, none⟩ = some (.bool a2_0) := (blk_cell BK258.out 0).trans rfl; have hcz20_1 : w19.cell? ⟨gb258, 1, none⟩ = some (.slice A2_1 l2_1.length c2_1) := (blk_cell BK258.out 1).trans rfl; have hcz20_2 : w19.cell? ⟨gb258, 2, none⟩ = some (.string a2_2) := (blk_cell BK258.out 2).trans rfl; have hcz20_3 : w19.cell? ⟨gb258, 3, none⟩ = some (.string a2_3) := (blk_cell BK258.out 3).trans rfl; have hfz20_0 := blk_frozen BK258.out 0; have hfz20_1 := blk_frozen BK258.out 1; have hfz20_2 := blk_frozen BK258.out 2; have hfz20_3 := blk_frozen BK258.out 3) | (go_at_call 6; (with_reducible refine (laws_zzFits4.calls k a2_0 _ _ l2_1 a2_2 a2_3 t261 _ ?side1 ?side2 A12.out).mono ?_); (case side1 => repeat (first | exact (Kd.V_reads' HO2_1.out).2.2 | (with_reducible refine Kd.C_alloc ?_ _) | (with_reducible refine Kd.C_drewN ?_ _) | (with_reducible refine Kd.C_drew ?_))); (case side2 => exact (Kd.V_reads' HO2_1.out).2.1); rintro e w21 ⟨rfl, hb⟩; have n0_ := Aside0.mk (Kd.V_below (by (with_reducible repeat (first | apply Kd.V_alloc | apply Kd.V_drewN | apply Kd.V_drew)); exact HO0_1.out) hb); have n1_ := Aside0.mk (Kd.V_below (by (with_reducible repeat (first | apply Kd.V_alloc | apply Kd.V_drewN | apply Kd.V_drew)); exact HO1_1.out) hb); have n2_ := Aside0.mk (Kd.V_below (by (with_reducible repeat (first | apply Kd.V_alloc | apply Kd.V_drewN | apply Kd.V_drew)); exact HO2_1.out) hb); have n3_ := Aside0.mk (blk_below (g := gb256) (o := .cells #[.bool a0_0, .slice A0_1 l0_1.length c0_1, .string a0_2, .string a0_3] 24 (0, 0)) (by (with_reducible repeat (first | refine blk_drewN ?_ _ | refine blk_drew ?_ | refine blk_alloc ?_ _)); exact BK256.out) hb); have n4_ := Aside0.mk (blk_below (g := gb257) (o := .cells #[.bool a1_0, .slice A1_1 l1_1.length c1_1, .string a1_2, .string a1_3] 24 (0, 0)) (by (with_reducible repeat (first | refine blk_drewN ?_ _ | refine blk_drew ?_ | refine blk_alloc ?_ _)); exact BK257.out) hb); have n5_ := Aside0.mk (blk_below (g := gb258) (o := .cells #[.bool a2_0, .slice A2_1 l2_1.length c2_1, .string a2_2, .string a2_3] 24 (0, 0)) (by (with_reducible repeat (first | refine blk_drewN ?_ _ | refine blk_drew ?_ | refine blk_alloc ?_ _)); exact BK258.out) hb); have n6_ := Aside0.mk (below_step (by repeat (first | (with_reducible first | exact HB.out | apply below_alloc | apply pw_below_drewN | apply below_drew1 | refine below_set ?_ GE256.out | refine below_set ?_ GE257.out | refine below_set ?_ GE258.out) | exact HB.out)) hb); clear HO0_1; clear HO1_1; clear HO2_1; clear BK256; clear BK257; clear BK258; clear HB; have HO0_1 := n0_; have HO1_1 := n1_; have HO2_1 := n2_; have BK256 := n3_; have BK257 := n4_; have BK258 := n5_; have HB := n6_; clear n0_ n1_ n2_ n3_ n4_ n5_ n6_; (try clear hb); (try clear hb2); (try clear hk); (try clear hi)))
        go_meet
        case rel => exact ⟨_, (!t261), (by first | rfl | (simp; done) | (simp [*]; done)), H', ⟨by first | omega | exact Nat.le_refl _⟩, ⟨by (with_reducible repeat (first | apply Kd.V_alloc | apply Kd.V_drewN | apply Kd.V_drew)); exact Kd.V_mono HO0_1.out (fun _ hk => ⟨hk.1.1.1, ⟨hk.1.1.2, ⟨hk.1.2, hk.2⟩⟩⟩)⟩, ⟨by (with_reducible repeat (first | apply Kd.V_alloc | apply Kd.V_drewN | apply Kd.V_drew)); exact Kd.V_mono HO1_1.out (fun _ hk => ⟨hk.1.1.1, ⟨hk.1.1.2, ⟨hk.1.2, hk.2⟩⟩⟩)⟩, ⟨by (with_reducible repeat (first | apply Kd.V_alloc | apply Kd.V_drewN | apply Kd.V_drew)); exact Kd.V_mono HO2_1.out (fun _ hk => ⟨hk.1.1.1, ⟨hk.1.1.2, ⟨hk.1.2, hk.2⟩⟩⟩)⟩, ⟨by (with_reducible repeat (first | refine blk_drewN ?_ _ | refine blk_drew ?_ | refine blk_alloc ?_ _)); exact BK256.out⟩, ⟨by (with_reducible repeat (first | refine blk_drewN ?_ _ | refine blk_drew ?_ | refine blk_alloc ?_ _)); exact BK257.out⟩, ⟨by (with_reducible repeat (first | refine blk_drewN ?_ _ | refine blk_drew ?_ | refine blk_alloc ?_ _)); exact BK258.out⟩, ⟨by repeat (first | (with_reducible first | exact HB.out | apply below_alloc | apply pw_below_drewN | apply below_drew1 | refine below_set ?_ GE256.out | refine below_set ?_ GE257.out | refine below_set ?_ GE258.out) | exact HB.out)⟩⟩
      · replace c11 := Bool.eq_false_iff.mpr c11
        subst c11
        have H1 : (laws_FnSemverOrder.j0 k true a0_0 l0_1 a0_2 a0_3 a1_0 l1_1 a1_2 a1_3 a2_0 l2_1 a2_2 a2_3) = some r := by rw [if_neg (show ¬ (false = true) by decide)] at H; exact H
        clear H
        have H := H1
        clear H1
        have H' := Aside0.mk H
        clear H
        have hnb22 := NB256_257.out
        have hnc22 := NB257_256.out
        have hnb23 := NB256_258.out
        have hnc23 := NB258_256.out
        have hcz24_0 : w7.cell? ⟨gb256, 0, none⟩ = some (.bool a0_0) := (blk_cell BK256.out 0).trans rfl
        have hcz24_1 : w7.cell? ⟨gb256, 1, none⟩ = some (.slice A0_1 l0_1.length c0_1) := (blk_cell BK256.out 1).trans rfl
        have hcz24_2 : w7.cell? ⟨gb256, 2, none⟩ = some (.string a0_2) := (blk_cell BK256.out 2).trans rfl
        have hcz24_3 : w7.cell? ⟨gb256, 3, none⟩ = some (.string a0_3) := (blk_cell BK256.out 3).trans rfl
        have hfz24_0 := blk_frozen BK256.out 0
        have hfz24_1 := blk_frozen BK256.out 1
        have hfz24_2 := blk_frozen BK256.out 2
        have hfz24_3 := blk_frozen BK256.out 3
        go_wp2_with (first | ((with_reducible refine gate_callee (f := 6) rfl ?_); refine goesL_ (some 14) rfl rfl Tryz.func6 (by kernel_rfl) rfl #[.agg #[.bool a0_0, .slice A0_1 l0_1.length c0_1, .string a0_2, .string a0_3]] rfl (by (try simp only [List.map_toArray, List.map_cons, List.map_nil]); first | done | rfl | (simp only [List.length_drop, List.length_take]; rfl)) ?_; (with_reducible refine (laws_zzFits4.calls k a0_0 _ _ l0_1 a0_2 a0_3 true _ ?side1 ?side2 A8.out).mono ?_); (case side1 => repeat (first | exact (Kd.V_reads' HO0_1.out).2.2 | (with_reducible refine Kd.C_alloc ?_ _) | (with_reducible refine Kd.C_drewN ?_ _) | (with_reducible refine Kd.C_drew ?_))); (case side2 => exact (Kd.V_reads' HO0_1.out).2.1); rintro e w25 ⟨rfl, hb⟩; refine ⟨_, rfl, ?_⟩; have n0_ := Aside0.mk (Kd.V_below (by (with_reducible repeat (first | apply Kd.V_alloc | apply Kd.V_drewN | apply Kd.V_drew)); exact HO0_1.out) hb); have n1_ := Aside0.mk (Kd.V_below (by (with_reducible repeat (first | apply Kd.V_alloc | apply Kd.V_drewN | apply Kd.V_drew)); exact HO1_1.out) hb); have n2_ := Aside0.mk (Kd.V_below (by (with_reducible repeat (first | apply Kd.V_alloc | apply Kd.V_drewN | apply Kd.V_drew)); exact HO2_1.out) hb); have n3_ := Aside0.mk (blk_below (g := gb256) (o := .cells #[.bool a0_0, .slice A0_1 l0_1.length c0_1, .string a0_2, .string a0_3] 24 (0, 0)) (by (with_reducible repeat (first | refine blk_drewN ?_ _ | refine blk_drew ?_ | refine blk_alloc ?_ _)); exact BK256.out) hb); have n4_ := Aside0.mk (blk_below (g := gb257) (o := .cells #[.bool a1_0, .slice A1_1 l1_1.length c1_1, .string a1_2, .string a1_3] 24 (0, 0)) (by (with_reducible repeat (first | refine blk_drewN ?_ _ | refine blk_drew ?_ | refine blk_alloc ?_ _)); exact BK257.out) hb); have n5_ := Aside0.mk (blk_below (g := gb258) (o := .cells #[.bool a2_0, .slice A2_1 l2_1.length c2_1, .string a2_2, .string a2_3] 24 (0, 0)) (by (with_reducible repeat (first | refine blk_drewN ?_ _ | refine blk_drew ?_ | refine blk_alloc ?_ _)); exact BK258.out) hb); have n6_ := Aside0.mk (below_step (by repeat (first | (with_reducible first | exact HB.out | apply below_alloc | apply pw_below_drewN | apply below_drew1 | refine below_set ?_ GE256.out | refine below_set ?_ GE257.out | refine below_set ?_ GE258.out) | exact HB.out)) hb); clear HO0_1; clear HO1_1; clear HO2_1; clear BK256; clear BK257; clear BK258; clear HB; have HO0_1 := n0_; have HO1_1 := n1_; have HO2_1 := n2_; have BK256 := n3_; have BK257 := n4_; have BK258 := n5_; have HB := n6_; clear n0_ n1_ n2_ n3_ n4_ n5_ n6_; (try clear hb); (try clear hb2); (try clear hk); (try clear hi); have hnb26 := NB257_258.out; have hnc26 := NB258_257.out; have hcz27_0 : w25.cell? ⟨gb257, 0, none⟩ = some (.bool a1_0) := (blk_cell BK257.out 0).trans rfl; have hcz27_1 : w25.cell? ⟨gb257, 1, none⟩ = some (.slice A1_1 l1_1.length c1_1) := (blk_cell BK257.out 1).trans rfl; have hcz27_2 : w25.cell? ⟨gb257, 2, none⟩ = some (.string a1_2) := (blk_cell BK257.out 2).trans rfl; have hcz27_3 : w25.cell? ⟨gb257, 3, none⟩ = some (.string a1_3) := (blk_cell BK257.out 3).trans rfl; have hfz27_0 := blk_frozen BK257.out 0; have hfz27_1 := blk_frozen BK257.out 1; have hfz27_2 := blk_frozen BK257.out 2; have hfz27_3 := blk_frozen BK257.out 3) | (go_at_call 6; (with_reducible refine (laws_zzFits4.calls k a1_0 _ _ l1_1 a1_2 a1_3 false _ ?side1 ?side2 A10.out).mono ?_); (case side1 => repeat (first | exact (Kd.V_reads' HO1_1.out).2.2 | (with_reducible refine Kd.C_alloc ?_ _) | (with_reducible refine Kd.C_drewN ?_ _) | (with_reducible refine Kd.C_drew ?_))); (case side2 => exact (Kd.V_reads' HO1_1.out).2.1); rintro e w28 ⟨rfl, hb⟩; have n0_ := Aside0.mk (Kd.V_below (by (with_reducible repeat (first | apply Kd.V_alloc | apply Kd.V_drewN | apply Kd.V_drew)); exact HO0_1.out) hb); have n1_ := Aside0.mk (Kd.V_below (by (with_reducible repeat (first | apply Kd.V_alloc | apply Kd.V_drewN | apply Kd.V_drew)); exact HO1_1.out) hb); have n2_ := Aside0.mk (Kd.V_below (by (with_reducible repeat (first | apply Kd.V_alloc | apply Kd.V_drewN | apply Kd.V_drew)); exact HO2_1.out) hb); have n3_ := Aside0.mk (blk_below (g := gb256) (o := .cells #[.bool a0_0, .slice A0_1 l0_1.length c0_1, .string a0_2, .string a0_3] 24 (0, 0)) (by (with_reducible repeat (first | refine blk_drewN ?_ _ | refine blk_drew ?_ | refine blk_alloc ?_ _)); exact BK256.out) hb); have n4_ := Aside0.mk (blk_below (g := gb257) (o := .cells #[.bool a1_0, .slice A1_1 l1_1.length c1_1, .string a1_2, .string a1_3] 24 (0, 0)) (by (with_reducible repeat (first | refine blk_drewN ?_ _ | refine blk_drew ?_ | refine blk_alloc ?_ _)); exact BK257.out) hb); have n5_ := Aside0.mk (blk_below (g := gb258) (o := .cells #[.bool a2_0, .slice A2_1 l2_1.length c2_1, .string a2_2, .string a2_3] 24 (0, 0)) (by (with_reducible repeat (first | refine blk_drewN ?_ _ | refine blk_drew ?_ | refine blk_alloc ?_ _)); exact BK258.out) hb); have n6_ := Aside0.mk (below_step (by repeat (first | (with_reducible first | exact HB.out | apply below_alloc | apply pw_below_drewN | apply below_drew1 | refine below_set ?_ GE256.out | refine below_set ?_ GE257.out | refine below_set ?_ GE258.out) | exact HB.out)) hb); clear HO0_1; clear HO1_1; clear HO2_1; clear BK256; clear BK257; clear BK258; clear HB; have HO0_1 := n0_; have HO1_1 := n1_; have HO2_1 := n2_; have BK256 := n3_; have BK257 := n4_; have BK258 := n5_; have HB := n6_; clear n0_ n1_ n2_ n3_ n4_ n5_ n6_; (try clear hb); (try clear hb2); (try clear hk); (try clear hi)))
        go_meet
        case rel => exact ⟨_, (true), (by first | rfl | (simp; done) | (simp [*]; done)), H', ⟨by first | omega | exact Nat.le_refl _⟩, ⟨by (with_reducible repeat (first | apply Kd.V_alloc | apply Kd.V_drewN | apply Kd.V_drew)); exact Kd.V_mono HO0_1.out (fun _ hk => ⟨hk.1.1.1, ⟨hk.1.1.2, ⟨hk.1.2, hk.2⟩⟩⟩)⟩, ⟨by (with_reducible repeat (first | apply Kd.V_alloc | apply Kd.V_drewN | apply Kd.V_drew)); exact Kd.V_mono HO1_1.out (fun _ hk => ⟨hk.1.1.1, ⟨hk.1.1.2, ⟨hk.1.2, hk.2⟩⟩⟩)⟩, ⟨by (with_reducible repeat (first | apply Kd.V_alloc | apply Kd.V_drewN | apply Kd.V_drew)); exact Kd.V_mono HO2_1.out (fun _ hk => ⟨hk.1.1.1, ⟨hk.1.1.2, ⟨hk.1.2, hk.2⟩⟩⟩)⟩, ⟨by (with_reducible repeat (first | refine blk_drewN ?_ _ | refine blk_drew ?_ | refine blk_alloc ?_ _)); exact BK256.out⟩, ⟨by (with_reducible repeat (first | refine blk_drewN ?_ _ | refine blk_drew ?_ | refine blk_alloc ?_ _)); exact BK257.out⟩, ⟨by (with_reducible repeat (first | refine blk_drewN ?_ _ | refine blk_drew ?_ | refine blk_alloc ?_ _)); exact BK258.out⟩, ⟨by repeat (first | (with_reducible first | exact HB.out | apply below_alloc | apply pw_below_drewN | apply below_drew1 | refine below_set ?_ GE256.out | refine below_set ?_ GE257.out | refine below_set ?_ GE258.out) | exact HB.out)⟩⟩
    · replace c9 := Bool.eq_false_iff.mpr c9
      subst c9
      have H1 : (laws_FnSemverOrder.j0 k true a0_0 l0_1 a0_2 a0_3 a1_0 l1_1 a1_2 a1_3 a2_0 l2_1 a2_2 a2_3) = some r := by rw [if_neg (show ¬ (false = true) by decide)] at H; exact H
      clear H
      have H := H1
      clear H1
      have H' := Aside0.mk H
      clear H
      have hnb29 := NB256_257.out
      have hnc29 := NB257_256.out
      have hnb30 := NB256_258.out
      have hnc30 := NB258_256.out
      have hcz31_0 : w7.cell? ⟨gb256, 0, none⟩ = some (.bool a0_0) := (blk_cell BK256.out 0).trans rfl
      have hcz31_1 : w7.cell? ⟨gb256, 1, none⟩ = some (.slice A0_1 l0_1.length c0_1) := (blk_cell BK256.out 1).trans rfl
      have hcz31_2 : w7.cell? ⟨gb256, 2, none⟩ = some (.string a0_2) := (blk_cell BK256.out 2).trans rfl
      have hcz31_3 : w7.cell? ⟨gb256, 3, none⟩ = some (.string a0_3) := (blk_cell BK256.out 3).trans rfl
      have hfz31_0 := blk_frozen BK256.out 0
      have hfz31_1 := blk_frozen BK256.out 1
      have hfz31_2 := blk_frozen BK256.out 2
      have hfz31_3 := blk_frozen BK256.out 3
      go_wp2_with (first | ((with_reducible refine gate_callee (f := 6) rfl ?_); refine goesL_ (some 14) rfl rfl Tryz.func6 (by kernel_rfl) rfl #[.agg #[.bool a0_0, .slice A0_1 l0_1.length c0_1, .string a0_2, .string a0_3]] rfl (by (try simp only [List.map_toArray, List.map_cons, List.map_nil]); first | done | rfl | (simp only [List.length_drop, List.length_take]; rfl)) ?_; (with_reducible refine (laws_zzFits4.calls k a0_0 _ _ l0_1 a0_2 a0_3 false _ ?side1 ?side2 A8.out).mono ?_); (case side1 => repeat (first | exact (Kd.V_reads' HO0_1.out).2.2 | (with_reducible refine Kd.C_alloc ?_ _) | (with_reducible refine Kd.C_drewN ?_ _) | (with_reducible refine Kd.C_drew ?_))); (case side2 => exact (Kd.V_reads' HO0_1.out).2.1); rintro e w32 ⟨rfl, hb⟩; refine ⟨_, rfl, ?_⟩; have n0_ := Aside0.mk (Kd.V_below (by (with_reducible repeat (first | apply Kd.V_alloc | apply Kd.V_drewN | apply Kd.V_drew)); exact HO0_1.out) hb); have n1_ := Aside0.mk (Kd.V_below (by (with_reducible repeat (first | apply Kd.V_alloc | apply Kd.V_drewN | apply Kd.V_drew)); exact HO1_1.out) hb); have n2_ := Aside0.mk (Kd.V_below (by (with_reducible repeat (first | apply Kd.V_alloc | apply Kd.V_drewN | apply Kd.V_drew)); exact HO2_1.out) hb); have n3_ := Aside0.mk (blk_below (g := gb256) (o := .cells #[.bool a0_0, .slice A0_1 l0_1.length c0_1, .string a0_2, .string a0_3] 24 (0, 0)) (by (with_reducible repeat (first | refine blk_drewN ?_ _ | refine blk_drew ?_ | refine blk_alloc ?_ _)); exact BK256.out) hb); have n4_ := Aside0.mk (blk_below (g := gb257) (o := .cells #[.bool a1_0, .slice A1_1 l1_1.length c1_1, .string a1_2, .string a1_3] 24 (0, 0)) (by (with_reducible repeat (first | refine blk_drewN ?_ _ | refine blk_drew ?_ | refine blk_alloc ?_ _)); exact BK257.out) hb); have n5_ := Aside0.mk (blk_below (g := gb258) (o := .cells #[.bool a2_0, .slice A2_1 l2_1.length c2_1, .string a2_2, .string a2_3] 24 (0, 0)) (by (with_reducible repeat (first | refine blk_drewN ?_ _ | refine blk_drew ?_ | refine blk_alloc ?_ _)); exact BK258.out) hb); have n6_ := Aside0.mk (below_step (by repeat (first | (with_reducible first | exact HB.out | apply below_alloc | apply pw_below_drewN | apply below_drew1 | refine below_set ?_ GE256.out | refine below_set ?_ GE257.out | refine below_set ?_ GE258.out) | exact HB.out)) hb); clear HO0_1; clear HO1_1; clear HO2_1; clear BK256; clear BK257; clear BK258; clear HB; have HO0_1 := n0_; have HO1_1 := n1_; have HO2_1 := n2_; have BK256 := n3_; have BK257 := n4_; have BK258 := n5_; have HB := n6_; clear n0_ n1_ n2_ n3_ n4_ n5_ n6_; (try clear hb); (try clear hb2); (try clear hk); (try clear hi)))
      go_meet
      case rel => exact ⟨_, (true), (by first | rfl | (simp; done) | (simp [*]; done)), H', ⟨by first | omega | exact Nat.le_refl _⟩, ⟨by (with_reducible repeat (first | apply Kd.V_alloc | apply Kd.V_drewN | apply Kd.V_drew)); exact Kd.V_mono HO0_1.out (fun _ hk => ⟨hk.1.1.1, ⟨hk.1.1.2, ⟨hk.1.2, hk.2⟩⟩⟩)⟩, ⟨by (with_reducible repeat (first | apply Kd.V_alloc | apply Kd.V_drewN | apply Kd.V_drew)); exact Kd.V_mono HO1_1.out (fun _ hk => ⟨hk.1.1.1, ⟨hk.1.1.2, ⟨hk.1.2, hk.2⟩⟩⟩)⟩, ⟨by (with_reducible repeat (first | apply Kd.V_alloc | apply Kd.V_drewN | apply Kd.V_drew)); exact Kd.V_mono HO2_1.out (fun _ hk => ⟨hk.1.1.1, ⟨hk.1.1.2, ⟨hk.1.2, hk.2⟩⟩⟩)⟩, ⟨by (with_reducible repeat (first | refine blk_drewN ?_ _ | refine blk_drew ?_ | refine blk_alloc ?_ _)); exact BK256.out⟩, ⟨by (with_reducible repeat (first | refine blk_drewN ?_ _ | refine blk_drew ?_ | refine blk_alloc ?_ _)); exact BK257.out⟩, ⟨by (with_reducible repeat (first | refine blk_drewN ?_ _ | refine blk_drew ?_ | refine blk_alloc ?_ _)); exact BK258.out⟩, ⟨by repeat (first | (with_reducible first | exact HB.out | apply below_alloc | apply pw_below_drewN | apply below_drew1 | refine below_set ?_ GE256.out | refine below_set ?_ GE257.out | refine below_set ?_ GE258.out) | exact HB.out)⟩⟩
  case rest =>
    clear HC4
    try clear c1
    try clear c2
    try clear p2
    try clear c3
    try clear c4
    try clear c6
    try clear c9
    try clear c11
    try clear c13
    try clear c14
    try clear c17
    try clear c22
    try clear c23
    try clear c26
    try clear c29
    try clear c30
    try clear hcz15_0
    try clear hcz15_1
    try clear hcz15_2
    try clear hcz15_3
    try clear hcz18_0
    try clear hcz18_1
    try clear hcz18_2
    try clear hcz18_3
    try clear hcz20_0
    try clear hcz20_1
    try clear hcz20_2
    try clear hcz20_3
    try clear hcz24_0
    try clear hcz24_1
    try clear hcz24_2
    try clear hcz24_3
    try clear hcz27_0
    try clear hcz27_1
    try clear hcz27_2
    try clear hcz27_3
    try clear hcz31_0
    try clear hcz31_1
    try clear hcz31_2
    try clear hcz31_3
    try clear hfz15_0
    try clear hfz15_1
    try clear hfz15_2
    try clear hfz15_3
    try clear hfz18_0
    try clear hfz18_1
    try clear hfz18_2
    try clear hfz18_3
    try clear hfz20_0
    try clear hfz20_1
    try clear hfz20_2
    try clear hfz20_3
    try clear hfz24_0
    try clear hfz24_1
    try clear hfz24_2
    try clear hfz24_3
    try clear hfz27_0
    try clear hfz27_1
    try clear hfz27_2
    try clear hfz27_3
    try clear hfz31_0
    try clear hfz31_1
    try clear hfz31_2
    try clear hfz31_3
    obtain ⟨kq, x25_3, rfl, HA, HJ3, HO_257001, HO_258001, HO_259001, BK256, BK257, BK258, HB⟩ := hcut
    cases kq with
    | zero => exact absurd HA.out (by simp [laws_FnSemverOrder.j0])
    | succ kj3 =>
      have H := HA.out
      clear HA
      simp only [laws_FnSemverOrder.j0] at H
      by_cases c33 : x25_3 = true
      · subst c33
        have H1 : (some true) = some r := by rw [if_pos rfl] at H; exact H
        clear H
        have H := H1
        clear H1
        obtain rfl := Option.some.inj H
        go_wp2
        go_ret
        exact ⟨by first | rfl | (simp [errW_none, errW_some] <;> rfl) | (simp [*, errW_none, errW_some] <;> rfl), by repeat (first | (with_reducible first | exact HB.out | apply below_alloc | apply pw_below_drewN | apply below_drew1 | refine below_set ?_ GE256.out | refine below_set ?_ GE257.out | refine below_set ?_ GE258.out) | exact HB.out)⟩
      · replace c33 := Bool.eq_false_iff.mpr c33
        subst c33
        have H1 : ((laws_likes.f kj3 (([(⟨a0_0, l0_1, a0_2, a0_3⟩ : S24), (⟨a1_0, l1_1, a1_2, a1_3⟩ : S24), (⟨a2_0, l2_1, a2_2, a2_3⟩ : S24)] : List (S24)))).bind fun t265 => (if t265 = true then ((impl_SemverCompare.f kj3 a0_0 l0_1 a0_2 a0_3 a1_0 l1_1 a1_2 a1_3).bind fun bt266 => ((impl_SemverCompare.f kj3 a1_0 l1_1 a1_2 a1_3 a2_0 l2_1 a2_2 a2_3).bind fun bt268 => ((impl_SemverCompare.f kj3 a0_0 l0_1 a0_2 a0_3 a2_0 l2_1 a2_2 a2_3).bind fun bt270 => (if bt270.2 = true then ((laws_chained.f kj3 bt266.1 bt268.1 bt270.1).bind fun t272 => (laws_FnSemverOrder.j1 kj3 (!t272) a0_0 l0_1 a0_2 a0_3 a1_0 l1_1 a1_2 a1_3 a2_0 l2_1 a2_2 a2_3)) else (laws_FnSemverOrder.j1 kj3 true a0_0 l0_1 a0_2 a0_3 a1_0 l1_1 a1_2 a1_3 a2_0 l2_1 a2_2 a2_3))))) else (some true))) = some r := by rw [if_neg (show ¬ (false = true) by decide)] at H; exact H
        clear H
        have H := H1
        clear H1
        obtain ⟨y262, hy262⟩ : ∃ y_ : List (S24), y_ = (([(⟨a0_0, l0_1, a0_2, a0_3⟩ : S24), (⟨a1_0, l1_1, a1_2, a1_3⟩ : S24), (⟨a2_0, l2_1, a2_2, a2_3⟩ : S24)] : List (S24))) := ⟨_, rfl⟩
        replace H : ((laws_likes.f kj3 y262).bind fun t265 => (if t265 = true then ((impl_SemverCompare.f kj3 a0_0 l0_1 a0_2 a0_3 a1_0 l1_1 a1_2 a1_3).bind fun bt266 => ((impl_SemverCompare.f kj3 a1_0 l1_1 a1_2 a1_3 a2_0 l2_1 a2_2 a2_3).bind fun bt268 => ((impl_SemverCompare.f kj3 a0_0 l0_1 a0_2 a0_3 a2_0 l2_1 a2_2 a2_3).bind fun bt270 => (if bt270.2 = true then ((laws_chained.f kj3 bt266.1 bt268.1 bt270.1).bind fun t272 => (laws_FnSemverOrder.j1 kj3 (!t272) a0_0 l0_1 a0_2 a0_3 a1_0 l1_1 a1_2 a1_3 a2_0 l2_1 a2_2 a2_3)) else (laws_FnSemverOrder.j1 kj3 true a0_0 l0_1 a0_2 a0_3 a1_0 l1_1 a1_2 a1_3 a2_0 l2_1 a2_2 a2_3))))) else (some true))) = some r := by first | (rw [hy262]; with_reducible exact H) | (have H2_ := (Option.bind_some _ _).symm.trans H; rw [hy262]; with_reducible exact H2_) | (have H2_ := (Option.bind_some _ _).symm.trans H; with_reducible exact H2_) | with_reducible exact H | (rw [hy262]; exact H) | exact H
        have Ny262 := Aside0.mk hy262
        clear hy262
        replace H := Option.bind_eq_some_iff.mp H
        obtain ⟨t265, A340, H⟩ := H
        replace H : (if t265 = true then ((impl_SemverCompare.f kj3 a0_0 l0_1 a0_2 a0_3 a1_0 l1_1 a1_2 a1_3).bind fun bt266 => ((impl_SemverCompare.f kj3 a1_0 l1_1 a1_2 a1_3 a2_0 l2_1 a2_2 a2_3).bind fun bt268 => ((impl_SemverCompare.f kj3 a0_0 l0_1 a0_2 a0_3 a2_0 l2_1 a2_2 a2_3).bind fun bt270 => (if bt270.2 = true then ((laws_chained.f kj3 bt266.1 bt268.1 bt270.1).bind fun t272 => (laws_FnSemverOrder.j1 kj3 (!t272) a0_0 l0_1 a0_2 a0_3 a1_0 l1_1 a1_2 a1_3 a2_0 l2_1 a2_2 a2_3)) else (laws_FnSemverOrder.j1 kj3 true a0_0 l0_1 a0_2 a0_3 a1_0 l1_1 a1_2 a1_3 a2_0 l2_1 a2_2 a2_3))))) else (some true)) = some r := H
        have A34 := Aside0.mk A340
        clear A340
        by_cases c35 : t265 = true
        · subst c35
          have H1 : ((impl_SemverCompare.f kj3 a0_0 l0_1 a0_2 a0_3 a1_0 l1_1 a1_2 a1_3).bind fun bt266 => ((impl_SemverCompare.f kj3 a1_0 l1_1 a1_2 a1_3 a2_0 l2_1 a2_2 a2_3).bind fun bt268 => ((impl_SemverCompare.f kj3 a0_0 l0_1 a0_2 a0_3 a2_0 l2_1 a2_2 a2_3).bind fun bt270 => (if bt270.2 = true then ((laws_chained.f kj3 bt266.1 bt268.1 bt270.1).bind fun t272 => (laws_FnSemverOrder.j1 kj3 (!t272) a0_0 l0_1 a0_2 a0_3 a1_0 l1_1 a1_2 a1_3 a2_0 l2_1 a2_2 a2_3)) else (laws_FnSemverOrder.j1 kj3 true a0_0 l0_1 a0_2 a0_3 a1_0 l1_1 a1_2 a1_3 a2_0 l2_1 a2_2 a2_3))))) = some r := by rw [if_pos rfl] at H; exact H
          clear H
          have H := H1
          clear H1
          replace H := Option.bind_eq_some_iff.mp H
          obtain ⟨⟨t266, t267⟩, A360, H⟩ := H
          replace H : ((impl_SemverCompare.f kj3 a1_0 l1_1 a1_2 a1_3 a2_0 l2_1 a2_2 a2_3).bind fun bt268 => ((impl_SemverCompare.f kj3 a0_0 l0_1 a0_2 a0_3 a2_0 l2_1 a2_2 a2_3).bind fun bt270 => (if bt270.2 = true then ((laws_chained.f kj3 t266 bt268.1 bt270.1).bind fun t272 => (laws_FnSemverOrder.j1 kj3 (!t272) a0_0 l0_1 a0_2 a0_3 a1_0 l1_1 a1_2 a1_3 a2_0 l2_1 a2_2 a2_3)) else (laws_FnSemverOrder.j1 kj3 true a0_0 l0_1 a0_2 a0_3 a1_0 l1_1 a1_2 a1_3 a2_0 l2_1 a2_2 a2_3)))) = some r := H
          have A36 := Aside0.mk A360
          clear A360
          replace H := Option.bind_eq_some_iff.mp H
          obtain ⟨⟨t268, t269⟩, A370, H⟩ := H
          replace H : ((impl_SemverCompare.f kj3 a0_0 l0_1 a0_2 a0_3 a2_0 l2_1 a2_2 a2_3).bind fun bt270 => (if bt270.2 = true then ((laws_chained.f kj3 t266 t268 bt270.1).bind fun t272 => (laws_FnSemverOrder.j1 kj3 (!t272) a0_0 l0_1 a0_2 a0_3 a1_0 l1_1 a1_2 a1_3 a2_0 l2_1 a2_2 a2_3)) else (laws_FnSemverOrder.j1 kj3 true a0_0 l0_1 a0_2 a0_3 a1_0 l1_1 a1_2 a1_3 a2_0 l2_1 a2_2 a2_3))) = some r := H
          have A37 := Aside0.mk A370
          clear A370
          replace H := Option.bind_eq_some_iff.mp H
          obtain ⟨⟨t270, t271⟩, A380, H⟩ := H
          replace H : (if t271 = true then ((laws_chained.f kj3 t266 t268 t270).bind fun t272 => (laws_FnSemverOrder.j1 kj3 (!t272) a0_0 l0_1 a0_2 a0_3 a1_0 l1_1 a1_2 a1_3 a2_0 l2_1 a2_2 a2_3)) else (laws_FnSemverOrder.j1 kj3 true a0_0 l0_1 a0_2 a0_3 a1_0 l1_1 a1_2 a1_3 a2_0 l2_1 a2_2 a2_3)) = some r := H
          have A38 := Aside0.mk A380
          clear A380
          have HC39 := Aside0.mk H
          clear H
          have hnb40 := NB256_257.out
          have hnc40 := NB257_256.out
          have hnb41 := NB256_258.out
          have hnc41 := NB258_256.out
          have hcz42_0 : wc.cell? ⟨gb256, 0, none⟩ = some (.bool a0_0) := (blk_cell BK256.out 0).trans rfl
          have hcz42_1 : wc.cell? ⟨gb256, 1, none⟩ = some (.slice A0_1 l0_1.length c0_1) := (blk_cell BK256.out 1).trans rfl
          have hcz42_2 : wc.cell? ⟨gb256, 2, none⟩ = some (.string a0_2) := (blk_cell BK256.out 2).trans rfl
          have hcz42_3 : wc.cell? ⟨gb256, 3, none⟩ = some (.string a0_3) := (blk_cell BK256.out 3).trans rfl
          have hfz42_0 := blk_frozen BK256.out 0
          have hfz42_1 := blk_frozen BK256.out 1
          have hfz42_2 := blk_frozen BK256.out 2
          have hfz42_3 := blk_frozen BK256.out 3
          have hnb43 := NB257_258.out
          have hnc43 := NB258_257.out
          have hcz44_0 : wc.cell? ⟨gb257, 0, none⟩ = some (.bool a1_0) := (blk_cell BK257.out 0).trans rfl
          have hcz44_1 : wc.cell? ⟨gb257, 1, none⟩ = some (.slice A1_1 l1_1.length c1_1) := (blk_cell BK257.out 1).trans rfl
          have hcz44_2 : wc.cell? ⟨gb257, 2, none⟩ = some (.string a1_2) := (blk_cell BK257.out 2).trans rfl
          have hcz44_3 : wc.cell? ⟨gb257, 3, none⟩ = some (.string a1_3) := (blk_cell BK257.out 3).trans rfl
          have hfz44_0 := blk_frozen BK257.out 0
          have hfz44_1 := blk_frozen BK257.out 1
          have hfz44_2 := blk_frozen BK257.out 2
          have hfz44_3 := blk_frozen BK257.out 3
          have hcz45_0 : wc.cell? ⟨gb258, 0, none⟩ = some (.bool a2_0) := (blk_cell BK258.out 0).trans rfl
          have hcz45_1 : wc.cell? ⟨gb258, 1, none⟩ = some (.slice A2_1 l2_1.length c2_1) := (blk_cell BK258.out 1).trans rfl
          have hcz45_2 : wc.cell? ⟨gb258, 2, none⟩ = some (.string a2_2) := (blk_cell BK258.out 2).trans rfl
          have hcz45_3 : wc.cell? ⟨gb258, 3, none⟩ = some (.string a2_3) := (blk_cell BK258.out 3).trans rfl
          have hfz45_0 := blk_frozen BK258.out 0
          have hfz45_1 := blk_frozen BK258.out 1
          have hfz45_2 := blk_frozen BK258.out 2
          have hfz45_3 := blk_frozen BK258.out 3
          go_upto_region 8 with (first | ((with_reducible refine gate_dst (N := 29) rfl ?_); refine Kd.N_lit k24 _ 24 ?hg (N' := 29) ?hd (xs := ([(⟨a0_0, l0_1, a0_2, a0_3⟩ : S24), (⟨a1_0, l1_1, a1_2, a1_3⟩ : S24), (⟨a2_0, l2_1, a2_2, a2_3⟩ : S24)] : List (S24))) (inner := [.bool a0_0, .slice A0_1 l0_1.length c0_1, .string a0_2, .string a0_3, .bool a1_0, .slice A1_1 l1_1.length c1_1, .string a1_2, .string a1_3, .bool a2_0, .slice A2_1 l2_1.length c2_1, .string a2_2, .string a2_3]) (ok := (fun k_ => ((P0_1_ k_ ∨ P1_1_ k_ ∨ P2_1_ k_) ∨ w.heap.size ≤ k_) ∧ k_ ≠ gb256 ∧ k_ ≠ gb257 ∧ k_ ≠ gb258)) (okp := (fun k_ => ((P0_1_ k_ ∨ P1_1_ k_ ∨ P2_1_ k_) ∨ w.heap.size ≤ k_) ∧ k_ ≠ gb256 ∧ k_ ≠ gb257 ∧ k_ ≠ gb258)) ?hr ?hp (fun _ hk => hk) ((show ∀ k_, wc.heap.size ≤ k_ → (fun k_ => ((P0_1_ k_ ∨ P1_1_ k_ ∨ P2_1_ k_) ∨ w.heap.size ≤ k_) ∧ k_ ≠ gb256 ∧ k_ ≠ gb257 ∧ k_ ≠ gb258) k_ from fun k_ hk => ⟨(.inr (Nat.le_trans (below_size (by repeat (first | (with_reducible first | exact HB.out | apply below_alloc | apply pw_below_drewN | apply below_drew1 | refine below_set ?_ GE256.out | refine below_set ?_ GE257.out | refine below_set ?_ GE258.out) | exact HB.out))) hk)), Kd.freshB (g := gb256) (o := .cells #[.bool a0_0, .slice A0_1 l0_1.length c0_1, .string a0_2, .string a0_3] 24 (0, 0)) (by (with_reducible repeat (first | refine blk_drewN ?_ _ | refine blk_drew ?_ | refine blk_alloc ?_ _)); exact BK256.out) k_ hk, Kd.freshB (g := gb257) (o := .cells #[.bool a1_0, .slice A1_1 l1_1.length c1_1, .string a1_2, .string a1_3] 24 (0, 0)) (by (with_reducible repeat (first | refine blk_drewN ?_ _ | refine blk_drew ?_ | refine blk_alloc ?_ _)); exact BK257.out) k_ hk, Kd.freshB (g := gb258) (o := .cells #[.bool a2_0, .slice A2_1 l2_1.length c2_1, .string a2_2, .string a2_3] 24 (0, 0)) (by (with_reducible repeat (first | refine blk_drewN ?_ _ | refine blk_drew ?_ | refine blk_alloc ?_ _)); exact BK258.out) k_ hk⟩) _ (Nat.le_refl _)) (Below.refl _ _) (Nat.le_refl _) (by simp) ?_; (case hd => rfl); (case hg => rfl); (case hr => first | (go_simp; done) | (go_simp; rfl)); (case hp => exact (Reps.c4 (show Kd.FK k24 _ _ (⟨a0_0, l0_1, a0_2, a0_3⟩ : S24) [.bool a0_0, .slice A0_1 l0_1.length c0_1, .string a0_2, .string a0_3] from (k24_mkF _ _ (⟨a0_0, l0_1, a0_2, a0_3⟩ : S24) (Kd.V_reads' (Kd.V_mono (ok' := (fun k_ => ((P0_1_ k_ ∨ P1_1_ k_ ∨ P2_1_ k_) ∨ w.heap.size ≤ k_) ∧ k_ ≠ gb256 ∧ k_ ≠ gb257 ∧ k_ ≠ gb258)) (HO_257001.out) (fun k_ hk => ⟨hk.1, ⟨hk.2.1, ⟨hk.2.2.1, hk.2.2.2⟩⟩⟩))).2.1 (Kd.V_F (Kd.V_mono (ok' := (fun k_ => ((P0_1_ k_ ∨ P1_1_ k_ ∨ P2_1_ k_) ∨ w.heap.size ≤ k_) ∧ k_ ≠ gb256 ∧ k_ ≠ gb257 ∧ k_ ≠ gb258)) (HO_257001.out) (fun k_ hk => ⟨hk.1, ⟨hk.2.1, ⟨hk.2.2.1, hk.2.2.2⟩⟩⟩))))) (Reps.c4 (show Kd.FK k24 _ _ (⟨a1_0, l1_1, a1_2, a1_3⟩ : S24) [.bool a1_0, .slice A1_1 l1_1.length c1_1, .string a1_2, .string a1_3] from (k24_mkF _ _ (⟨a1_0, l1_1, a1_2, a1_3⟩ : S24) (Kd.V_reads' (Kd.V_mono (ok' := (fun k_ => ((P0_1_ k_ ∨ P1_1_ k_ ∨ P2_1_ k_) ∨ w.heap.size ≤ k_) ∧ k_ ≠ gb256 ∧ k_ ≠ gb257 ∧ k_ ≠ gb258)) (HO_258001.out) (fun k_ hk => ⟨hk.1, ⟨hk.2.1, ⟨hk.2.2.1, hk.2.2.2⟩⟩⟩))).2.1 (Kd.V_F (Kd.V_mono (ok' := (fun k_ => ((P0_1_ k_ ∨ P1_1_ k_ ∨ P2_1_ k_) ∨ w.heap.size ≤ k_) ∧ k_ ≠ gb256 ∧ k_ ≠ gb257 ∧ k_ ≠ gb258)) (HO_258001.out) (fun k_ hk => ⟨hk.1, ⟨hk.2.1, ⟨hk.2.2.1, hk.2.2.2⟩⟩⟩))))) (Reps.c4 (show Kd.FK k24 _ _ (⟨a2_0, l2_1, a2_2, a2_3⟩ : S24) [.bool a2_0, .slice A2_1 l2_1.length c2_1, .string a2_2, .string a2_3] from (k24_mkF _ _ (⟨a2_0, l2_1, a2_2, a2_3⟩ : S24) (Kd.V_reads' (Kd.V_mono (ok' := (fun k_ => ((P0_1_ k_ ∨ P1_1_ k_ ∨ P2_1_ k_) ∨ w.heap.size ≤ k_) ∧ k_ ≠ gb256 ∧ k_ ≠ gb257 ∧ k_ ≠ gb258)) (HO_259001.out) (fun k_ hk => ⟨hk.1, ⟨hk.2.1, ⟨hk.2.2.1, hk.2.2.2⟩⟩⟩))).2.1 (Kd.V_F (Kd.V_mono (ok' := (fun k_ => ((P0_1_ k_ ∨ P1_1_ k_ ∨ P2_1_ k_) ∨ w.heap.size ≤ k_) ∧ k_ ≠ gb256 ∧ k_ ≠ gb257 ∧ k_ ≠ gb258)) (HO_259001.out) (fun k_ hk => ⟨hk.1, ⟨hk.2.1, ⟨hk.2.2.1, hk.2.2.2⟩⟩⟩))))) (Reps.none _ _))))); intro v263 w46 ho47 hb hg_ hnew_; clear hg_ hnew_; (first | rw [← Ny262.out] at ho47 | (simp only [Int.reduceToNat] at ho47; rw [← Ny262.out] at ho47)); have n0_ := Aside0.mk (Kd.V_elder' (by (with_reducible repeat (first | apply Kd.V_alloc | apply Kd.V_drewN | apply Kd.V_drew)); exact HO_257001.out) (Kd.N_base ho47) hb); have n1_ := Aside0.mk (Kd.V_elder' (by (with_reducible repeat (first | apply Kd.V_alloc | apply Kd.V_drewN | apply Kd.V_drew)); exact HO_258001.out) (Kd.N_base ho47) hb); have n2_ := Aside0.mk (Kd.V_elder' (by (with_reducible repeat (first | apply Kd.V_alloc | apply Kd.V_drewN | apply Kd.V_drew)); exact HO_259001.out) (Kd.N_base ho47) hb); have n3_ := Aside0.mk (Kd.N_lower ho47 (below_size (by repeat (first | (with_reducible first | exact HB.out | apply below_alloc | apply pw_below_drewN | apply below_drew1 | refine below_set ?_ GE256.out | refine below_set ?_ GE257.out | refine below_set ?_ GE258.out) | exact HB.out)))); have n4_ := Aside0.mk (blk_below (g := gb256) (o := .cells #[.bool a0_0, .slice A0_1 l0_1.length c0_1, .string a0_2, .string a0_3] 24 (0, 0)) (by (with_reducible repeat (first | refine blk_drewN ?_ _ | refine blk_drew ?_ | refine blk_alloc ?_ _)); exact BK256.out) hb); have n5_ := Aside0.mk (blk_below (g := gb257) (o := .cells #[.bool a1_0, .slice A1_1 l1_1.length c1_1, .string a1_2, .string a1_3] 24 (0, 0)) (by (with_reducible repeat (first | refine blk_drewN ?_ _ | refine blk_drew ?_ | refine blk_alloc ?_ _)); exact BK257.out) hb); have n6_ := Aside0.mk (blk_below (g := gb258) (o := .cells #[.bool a2_0, .slice A2_1 l2_1.length c2_1, .string a2_2, .string a2_3] 24 (0, 0)) (by (with_reducible repeat (first | refine blk_drewN ?_ _ | refine blk_drew ?_ | refine blk_alloc ?_ _)); exact BK258.out) hb); have n7_ := Aside0.mk (below_step (by repeat (first | (with_reducible first | exact HB.out | apply below_alloc | apply pw_below_drewN | apply below_drew1 | refine below_set ?_ GE256.out | refine below_set ?_ GE257.out | refine below_set ?_ GE258.out) | exact HB.out)) hb); clear HO_257001; clear HO_258001; clear HO_259001; clear BK256; clear BK257; clear BK258; clear HB; have HO_257001 := n0_; have HO_258001 := n1_; have HO_259001 := n2_; have HO264 := n3_; have BK256 := n4_; have BK257 := n5_; have BK258 := n6_; have HB := n7_; clear n0_ n1_ n2_ n3_ n4_ n5_ n6_ n7_; clear hb ho47; obtain ⟨Ao48, co48, eo48⟩ := Kd.N_slice HO264.out; subst eo48) | ((with_reducible refine gate_callee (f := 7) rfl ?_); refine goesL_ (some 30) rfl rfl Tryz.func7 (by kernel_rfl) rfl #[.slice Ao48 y262.length co48] rfl (by (try simp only [List.map_toArray, List.map_cons, List.map_nil]); first | done | rfl | (simp only [List.length_drop, List.length_take]; rfl)) ?_; (with_reducible refine (laws_likes.calls kj3 _ _ y262 true _ ?side1 ?side2 A34.out).mono ?_); (case side1 => repeat (first | exact (Kd.N_reads' HO264.out).2.2 | (with_reducible refine Kd.C_alloc ?_ _) | (with_reducible refine Kd.C_drewN ?_ _) | (with_reducible refine Kd.C_drew ?_))); (case side2 => exact (Kd.N_reads' HO264.out).2.1); rintro e w49 ⟨rfl, hb⟩; refine ⟨_, rfl, ?_⟩; have n0_ := Aside0.mk (Kd.V_below (by (with_reducible repeat (first | apply Kd.V_alloc | apply Kd.V_drewN | apply Kd.V_drew)); exact HO_257001.out) hb); have n1_ := Aside0.mk (Kd.V_below (by (with_reducible repeat (first | apply Kd.V_alloc | apply Kd.V_drewN | apply Kd.V_drew)); exact HO_258001.out) hb); have n2_ := Aside0.mk (Kd.V_below (by (with_reducible repeat (first | apply Kd.V_alloc | apply Kd.V_drewN | apply Kd.V_drew)); exact HO_259001.out) hb); have n3_ := Aside0.mk (Kd.N_below (by (with_reducible repeat (first | apply Kd.N_alloc | apply Kd.N_drewN | apply Kd.N_drew)); exact HO264.out) hb); have n4_ := Aside0.mk (blk_below (g := gb256) (o := .cells #[.bool a0_0, .slice A0_1 l0_1.length c0_1, .string a0_2, .string a0_3] 24 (0, 0)) (by (with_reducible repeat (first | refine blk_drewN ?_ _ | refine blk_drew ?_ | refine blk_alloc ?_ _)); exact BK256.out) hb); have n5_ := Aside0.mk (blk_below (g := gb257) (o := .cells #[.bool a1_0, .slice A1_1 l1_1.length c1_1, .string a1_2, .string a1_3] 24 (0, 0)) (by (with_reducible repeat (first | refine blk_drewN ?_ _ | refine blk_drew ?_ | refine blk_alloc ?_ _)); exact BK257.out) hb); have n6_ := Aside0.mk (blk_below (g := gb258) (o := .cells #[.bool a2_0, .slice A2_1 l2_1.length c2_1, .string a2_2, .string a2_3] 24 (0, 0)) (by (with_reducible repeat (first | refine blk_drewN ?_ _ | refine blk_drew ?_ | refine blk_alloc ?_ _)); exact BK258.out) hb); have n7_ := Aside0.mk (below_step (by repeat (first | (with_reducible first | exact HB.out | apply below_alloc | apply pw_below_drewN | apply below_drew1 | refine below_set ?_ GE256.out | refine below_set ?_ GE257.out | refine below_set ?_ GE258.out) | exact HB.out)) hb); clear HO_257001; clear HO_258001; clear HO_259001; clear HO264; clear BK256; clear BK257; clear BK258; clear HB; have HO_257001 := n0_; have HO_258001 := n1_; have HO_259001 := n2_; have HO264 := n3_; have BK256 := n4_; have BK257 := n5_; have BK258 := n6_; have HB := n7_; clear n0_ n1_ n2_ n3_ n4_ n5_ n6_ n7_; (try clear hb); (try clear hb2); (try clear hk); (try clear hi); have hcz50_0 : w49.cell? ⟨gb256, 0, none⟩ = some (.bool a0_0) := (blk_cell BK256.out 0).trans rfl; have hcz50_1 : w49.cell? ⟨gb256, 1, none⟩ = some (.slice A0_1 l0_1.length c0_1) := (blk_cell BK256.out 1).trans rfl; have hcz50_2 : w49.cell? ⟨gb256, 2, none⟩ = some (.string a0_2) := (blk_cell BK256.out 2).trans rfl; have hcz50_3 : w49.cell? ⟨gb256, 3, none⟩ = some (.string a0_3) := (blk_cell BK256.out 3).trans rfl; have hfz50_0 := blk_frozen BK256.out 0; have hfz50_1 := blk_frozen BK256.out 1; have hfz50_2 := blk_frozen BK256.out 2; have hfz50_3 := blk_frozen BK256.out 3; have hcz51_0 : w49.cell? ⟨gb257, 0, none⟩ = some (.bool a1_0) := (blk_cell BK257.out 0).trans rfl; have hcz51_1 : w49.cell? ⟨gb257, 1, none⟩ = some (.slice A1_1 l1_1.length c1_1) := (blk_cell BK257.out 1).trans rfl; have hcz51_2 : w49.cell? ⟨gb257, 2, none⟩ = some (.string a1_2) := (blk_cell BK257.out 2).trans rfl; have hcz51_3 : w49.cell? ⟨gb257, 3, none⟩ = some (.string a1_3) := (blk_cell BK257.out 3).trans rfl; have hfz51_0 := blk_frozen BK257.out 0; have hfz51_1 := blk_frozen BK257.out 1; have hfz51_2 := blk_frozen BK257.out 2; have hfz51_3 := blk_frozen BK257.out 3) | ((with_reducible refine gate_callee (f := 11) rfl ?_); refine goesL_ (some 35) rfl rfl Tryz.func11 (by kernel_rfl) rfl #[.agg #[.bool a0_0, .slice A0_1 l0_1.length c0_1, .string a0_2, .string a0_3], .agg #[.bool a1_0, .slice A1_1 l1_1.length c1_1, .string a1_2, .string a1_3]] rfl (by (try simp only [List.map_toArray, List.map_cons, List.map_nil]); first | done | rfl | (simp only [List.length_drop, List.length_take]; rfl)) ?_; (with_reducible refine (impl_SemverCompare.calls kj3 a0_0 _ _ l0_1 a0_2 a0_3 a1_0 _ _ l1_1 a1_2 a1_3 t266 t267 _ ?side1 ?side2 ?side3 ?side4 ?side5 A36.out).mono ?_); (case side1 => repeat (first | exact (Kd.V_reads' HO_257001.out).2.2 | (with_reducible refine Kd.C_alloc ?_ _) | (with_reducible refine Kd.C_drewN ?_ _) | (with_reducible refine Kd.C_drew ?_))); (case side2 => exact (Kd.V_reads' HO_257001.out).2.1); (case side3 => repeat (first | exact (Kd.V_reads' HO_258001.out).2.2 | (with_reducible refine Kd.C_alloc ?_ _) | (with_reducible refine Kd.C_drewN ?_ _) | (with_reducible refine Kd.C_drew ?_))); (case side4 => exact (Kd.V_reads' HO_258001.out).2.1); (case side5 => first | exact HG.out | exact GW.below HG.out (by repeat (first | (with_reducible first | exact HB.out | exact Below.refl _ _ | apply below_alloc | apply pw_below_drewN | apply below_drew1 | apply below_drew | refine below_set ?_ (Aside0.out (by assumption))) | exact HB.out))); rintro e w52 ⟨rfl, hb⟩; refine ⟨_, rfl, ?_⟩; have n0_ := Aside0.mk (Kd.V_below (by (with_reducible repeat (first | apply Kd.V_alloc | apply Kd.V_drewN | apply Kd.V_drew)); exact HO_257001.out) hb); have n1_ := Aside0.mk (Kd.V_below (by (with_reducible repeat (first | apply Kd.V_alloc | apply Kd.V_drewN | apply Kd.V_drew)); exact HO_258001.out) hb); have n2_ := Aside0.mk (Kd.V_below (by (with_reducible repeat (first | apply Kd.V_alloc | apply Kd.V_drewN | apply Kd.V_drew)); exact HO_259001.out) hb); have n3_ := Aside0.mk (Kd.N_below (by (with_reducible repeat (first | apply Kd.N_alloc | apply Kd.N_drewN | apply Kd.N_drew)); exact HO264.out) hb); have n4_ := Aside0.mk (blk_below (g := gb256) (o := .cells #[.bool a0_0, .slice A0_1 l0_1.length c0_1, .string a0_2, .string a0_3] 24 (0, 0)) (by (with_reducible repeat (first | refine blk_drewN ?_ _ | refine blk_drew ?_ | refine blk_alloc ?_ _)); exact BK256.out) hb); have n5_ := Aside0.mk (blk_below (g := gb257) (o := .cells #[.bool a1_0, .slice A1_1 l1_1.length c1_1, .string a1_2, .string a1_3] 24 (0, 0)) (by (with_reducible repeat (first | refine blk_drewN ?_ _ | refine blk_drew ?_ | refine blk_alloc ?_ _)); exact BK257.out) hb); have n6_ := Aside0.mk (blk_below (g := gb258) (o := .cells #[.bool a2_0, .slice A2_1 l2_1.length c2_1, .string a2_2, .string a2_3] 24 (0, 0)) (by (with_reducible repeat (first | refine blk_drewN ?_ _ | refine blk_drew ?_ | refine blk_alloc ?_ _)); exact BK258.out) hb); have n7_ := Aside0.mk (below_step (by repeat (first | (with_reducible first | exact HB.out | apply below_alloc | apply pw_below_drewN | apply below_drew1 | refine below_set ?_ GE256.out | refine below_set ?_ GE257.out | refine below_set ?_ GE258.out) | exact HB.out)) hb); clear HO_257001; clear HO_258001; clear HO_259001; clear HO264; clear BK256; clear BK257; clear BK258; clear HB; have HO_257001 := n0_; have HO_258001 := n1_; have HO_259001 := n2_; have HO264 := n3_; have BK256 := n4_; have BK257 := n5_; have BK258 := n6_; have HB := n7_; clear n0_ n1_ n2_ n3_ n4_ n5_ n6_ n7_; (try clear hb); (try clear hb2); (try clear hk); (try clear hi); have hcz53_0 : w52.cell? ⟨gb257, 0, none⟩ = some (.bool a1_0) := (blk_cell BK257.out 0).trans rfl; have hcz53_1 : w52.cell? ⟨gb257, 1, none⟩ = some (.slice A1_1 l1_1.length c1_1) := (blk_cell BK257.out 1).trans rfl; have hcz53_2 : w52.cell? ⟨gb257, 2, none⟩ = some (.string a1_2) := (blk_cell BK257.out 2).trans rfl; have hcz53_3 : w52.cell? ⟨gb257, 3, none⟩ = some (.string a1_3) := (blk_cell BK257.out 3).trans rfl; have hfz53_0 := blk_frozen BK257.out 0; have hfz53_1 := blk_frozen BK257.out 1; have hfz53_2 := blk_frozen BK257.out 2; have hfz53_3 := blk_frozen BK257.out 3; have hcz54_0 : w52.cell? ⟨gb258, 0, none⟩ = some (.bool a2_0) := (blk_cell BK258.out 0).trans rfl; have hcz54_1 : w52.cell? ⟨gb258, 1, none⟩ = some (.slice A2_1 l2_1.length c2_1) := (blk_cell BK258.out 1).trans rfl; have hcz54_2 : w52.cell? ⟨gb258, 2, none⟩ = some (.string a2_2) := (blk_cell BK258.out 2).trans rfl; have hcz54_3 : w52.cell? ⟨gb258, 3, none⟩ = some (.string a2_3) := (blk_cell BK258.out 3).trans rfl; have hfz54_0 := blk_frozen BK258.out 0; have hfz54_1 := blk_frozen BK258.out 1; have hfz54_2 := blk_frozen BK258.out 2; have hfz54_3 := blk_frozen BK258.out 3) | ((with_reducible refine gate_callee (f := 11) rfl ?_); refine goesL_ (some 41) rfl rfl Tryz.func11 (by kernel_rfl) rfl #[.agg #[.bool a1_0, .slice A1_1 l1_1.length c1_1, .string a1_2, .string a1_3], .agg #[.bool a2_0, .slice A2_1 l2_1.length c2_1, .string a2_2, .string a2_3]] rfl (by (try simp only [List.map_toArray, List.map_cons, List.map_nil]); first | done | rfl | (simp only [List.length_drop, List.length_take]; rfl)) ?_; (with_reducible refine (impl_SemverCompare.calls kj3 a1_0 _ _ l1_1 a1_2 a1_3 a2_0 _ _ l2_1 a2_2 a2_3 t268 t269 _ ?side1 ?side2 ?side3 ?side4 ?side5 A37.out).mono ?_); (case side1 => repeat (first | exact (Kd.V_reads' HO_258001.out).2.2 | (with_reducible refine Kd.C_alloc ?_ _) | (with_reducible refine Kd.C_drewN ?_ _) | (with_reducible refine Kd.C_drew ?_))); (case side2 => exact (Kd.V_reads' HO_258001.out).2.1); (case side3 => repeat (first | exact (Kd.V_reads' HO_259001.out).2.2 | (with_reducible refine Kd.C_alloc ?_ _) | (with_reducible refine Kd.C_drewN ?_ _) | (with_reducible refine Kd.C_drew ?_))); (case side4 => exact (Kd.V_reads' HO_259001.out).2.1); (case side5 => first | exact HG.out | exact GW.below HG.out (by repeat (first | (with_reducible first | exact HB.out | exact Below.refl _ _ | apply below_alloc | apply pw_below_drewN | apply below_drew1 | apply below_drew | refine below_set ?_ (Aside0.out (by assumption))) | exact HB.out))); rintro e w55 ⟨rfl, hb⟩; refine ⟨_, rfl, ?_⟩; have n0_ := Aside0.mk (Kd.V_below (by (with_reducible repeat (first | apply Kd.V_alloc | apply Kd.V_drewN | apply Kd.V_drew)); exact HO_257001.out) hb); have n1_ := Aside0.mk (Kd.V_below (by (with_reducible repeat (first | apply Kd.V_alloc | apply Kd.V_drewN | apply Kd.V_drew)); exact HO_258001.out) hb); have n2_ := Aside0.mk (Kd.V_below (by (with_reducible repeat (first | apply Kd.V_alloc | apply Kd.V_drewN | apply Kd.V_drew)); exact HO_259001.out) hb); have n3_ := Aside0.mk (Kd.N_below (by (with_reducible repeat (first | apply Kd.N_alloc | apply Kd.N_drewN | apply Kd.N_drew)); exact HO264.out) hb); have n4_ := Aside0.mk (blk_below (g := gb256) (o := .cells #[.bool a0_0, .slice A0_1 l0_1.length c0_1, .string a0_2, .string a0_3] 24 (0, 0)) (by (with_reducible repeat (first | refine blk_drewN ?_ _ | refine blk_drew ?_ | refine blk_alloc ?_ _)); exact BK256.out) hb); have n5_ := Aside0.mk (blk_below (g := gb257) (o := .cells #[.bool a1_0, .slice A1_1 l1_1.length c1_1, .string a1_2, .string a1_3] 24 (0, 0)) (by (with_reducible repeat (first | refine blk_drewN ?_ _ | refine blk_drew ?_ | refine blk_alloc ?_ _)); exact BK257.out) hb); have n6_ := Aside0.mk (blk_below (g := gb258) (o := .cells #[.bool a2_0, .slice A2_1 l2_1.length c2_1, .string a2_2, .string a2_3] 24 (0, 0)) (by (with_reducible repeat (first | refine blk_drewN ?_ _ | refine blk_drew ?_ | refine blk_alloc ?_ _)); exact BK258.out) hb); have n7_ := Aside0.mk (below_step (by repeat (first | (with_reducible first | exact HB.out | apply below_alloc | apply pw_below_drewN | apply below_drew1 | refine below_set ?_ GE256.out | refine below_set ?_ GE257.out | refine below_set ?_ GE258.out) | exact HB.out)) hb); clear HO_257001; clear HO_258001; clear HO_259001; clear HO264; clear BK256; clear BK257; clear BK258; clear HB; have HO_257001 := n0_; have HO_258001 := n1_; have HO_259001 := n2_; have HO264 := n3_; have BK256 := n4_; have BK257 := n5_; have BK258 := n6_; have HB := n7_; clear n0_ n1_ n2_ n3_ n4_ n5_ n6_ n7_; (try clear hb); (try clear hb2); (try clear hk); (try clear hi); have hcz56_0 : w55.cell? ⟨gb256, 0, none⟩ = some (.bool a0_0) := (blk_cell BK256.out 0).trans rfl; have hcz56_1 : w55.cell? ⟨gb256, 1, none⟩ = some (.slice A0_1 l0_1.length c0_1) := (blk_cell BK256.out 1).trans rfl; have hcz56_2 : w55.cell? ⟨gb256, 2, none⟩ = some (.string a0_2) := (blk_cell BK256.out 2).trans rfl; have hcz56_3 : w55.cell? ⟨gb256, 3, none⟩ = some (.string a0_3) := (blk_cell BK256.out 3).trans rfl; have hfz56_0 := blk_frozen BK256.out 0; have hfz56_1 := blk_frozen BK256.out 1; have hfz56_2 := blk_frozen BK256.out 2; have hfz56_3 := blk_frozen BK256.out 3; have hcz57_0 : w55.cell? ⟨gb258, 0, none⟩ = some (.bool a2_0) := (blk_cell BK258.out 0).trans rfl; have hcz57_1 : w55.cell? ⟨gb258, 1, none⟩ = some (.slice A2_1 l2_1.length c2_1) := (blk_cell BK258.out 1).trans rfl; have hcz57_2 : w55.cell? ⟨gb258, 2, none⟩ = some (.string a2_2) := (blk_cell BK258.out 2).trans rfl; have hcz57_3 : w55.cell? ⟨gb258, 3, none⟩ = some (.string a2_3) := (blk_cell BK258.out 3).trans rfl; have hfz57_0 := blk_frozen BK258.out 0; have hfz57_1 := blk_frozen BK258.out 1; have hfz57_2 := blk_frozen BK258.out 2; have hfz57_3 := blk_frozen BK258.out 3) | ((with_reducible refine gate_callee (f := 11) rfl ?_); refine goesL_ (some 47) rfl rfl Tryz.func11 (by kernel_rfl) rfl #[.agg #[.bool a0_0, .slice A0_1 l0_1.length c0_1, .string a0_2, .string a0_3], .agg #[.bool a2_0, .slice A2_1 l2_1.length c2_1, .string a2_2, .string a2_3]] rfl (by (try simp only [List.map_toArray, List.map_cons, List.map_nil]); first | done | rfl | (simp only [List.length_drop, List.length_take]; rfl)) ?_; (with_reducible refine (impl_SemverCompare.calls kj3 a0_0 _ _ l0_1 a0_2 a0_3 a2_0 _ _ l2_1 a2_2 a2_3 t270 t271 _ ?side1 ?side2 ?side3 ?side4 ?side5 A38.out).mono ?_); (case side1 => repeat (first | exact (Kd.V_reads' HO_257001.out).2.2 | (with_reducible refine Kd.C_alloc ?_ _) | (with_reducible refine Kd.C_drewN ?_ _) | (with_reducible refine Kd.C_drew ?_))); (case side2 => exact (Kd.V_reads' HO_257001.out).2.1); (case side3 => repeat (first | exact (Kd.V_reads' HO_259001.out).2.2 | (with_reducible refine Kd.C_alloc ?_ _) | (with_reducible refine Kd.C_drewN ?_ _) | (with_reducible refine Kd.C_drew ?_))); (case side4 => exact (Kd.V_reads' HO_259001.out).2.1); (case side5 => first | exact HG.out | exact GW.below HG.out (by repeat (first | (with_reducible first | exact HB.out | exact Below.refl _ _ | apply below_alloc | apply pw_below_drewN | apply below_drew1 | apply below_drew | refine below_set ?_ (Aside0.out (by assumption))) | exact HB.out))); rintro e w58 ⟨rfl, hb⟩; refine ⟨_, rfl, ?_⟩; have n0_ := Aside0.mk (Kd.V_below (by (with_reducible repeat (first | apply Kd.V_alloc | apply Kd.V_drewN | apply Kd.V_drew)); exact HO_257001.out) hb); have n1_ := Aside0.mk (Kd.V_below (by (with_reducible repeat (first | apply Kd.V_alloc | apply Kd.V_drewN | apply Kd.V_drew)); exact HO_258001.out) hb); have n2_ := Aside0.mk (Kd.V_below (by (with_reducible repeat (first | apply Kd.V_alloc | apply Kd.V_drewN | apply Kd.V_drew)); exact HO_259001.out) hb); have n3_ := Aside0.mk (Kd.N_below (by (with_reducible repeat (first | apply Kd.N_alloc | apply Kd.N_drewN | apply Kd.N_drew)); exact HO264.out) hb); have n4_ := Aside0.mk (blk_below (g := gb256) (o := .cells #[.bool a0_0, .slice A0_1 l0_1.length c0_1, .string a0_2, .string a0_3] 24 (0, 0)) (by (with_reducible repeat (first | refine blk_drewN ?_ _ | refine blk_drew ?_ | refine blk_alloc ?_ _)); exact BK256.out) hb); have n5_ := Aside0.mk (blk_below (g := gb257) (o := .cells #[.bool a1_0, .slice A1_1 l1_1.length c1_1, .string a1_2, .string a1_3] 24 (0, 0)) (by (with_reducible repeat (first | refine blk_drewN ?_ _ | refine blk_drew ?_ | refine blk_alloc ?_ _)); exact BK257.out) hb); have n6_ := Aside0.mk (blk_below (g := gb258) (o := .cells #[.bool a2_0, .slice A2_1 l2_1.length c2_1, .string a2_2, .string a2_3] 24 (0, 0)) (by (with_reducible repeat (first | refine blk_drewN ?_ _ | refine blk_drew ?_ | refine blk_alloc ?_ _)); exact BK258.out) hb); have n7_ := Aside0.mk (below_step (by repeat (first | (with_reducible first | exact HB.out | apply below_alloc | apply pw_below_drewN | apply below_drew1 | refine below_set ?_ GE256.out | refine below_set ?_ GE257.out | refine below_set ?_ GE258.out) | exact HB.out)) hb); clear HO_257001; clear HO_258001; clear HO_259001; clear HO264; clear BK256; clear BK257; clear BK258; clear HB; have HO_257001 := n0_; have HO_258001 := n1_; have HO_259001 := n2_; have HO264 := n3_; have BK256 := n4_; have BK257 := n5_; have BK258 := n6_; have HB := n7_; clear n0_ n1_ n2_ n3_ n4_ n5_ n6_ n7_; (try clear hb); (try clear hb2); (try clear hk); (try clear hi)))
          (try simp only [Act.put, List.setIfInBounds_toArray, List.set_cons_zero, List.set_cons_succ])
          go_cut [58] (fun v58 wc => ∃ (kq : Nat) (x58_38 : Bool), v58 = .bool x58_38 ∧ Aside0 (laws_FnSemverOrder.j1 kq x58_38 a0_0 l0_1 a0_2 a0_3 a1_0 l1_1 a1_2 a1_3 a2_0 l2_1 a2_2 a2_3 = some r) ∧ Aside0 (kq ≤ kj3) ∧ Aside0 (Kd.V k66 66 wc w.heap.size (fun k_ => ((P0_1_ k_ ∨ P1_1_ k_ ∨ P2_1_ k_) ∨ w.heap.size ≤ k_) ∧ k_ ≠ gb256 ∧ k_ ≠ gb257 ∧ k_ ≠ gb258) (.slice A0_1 l0_1.length c0_1) l0_1) ∧ Aside0 (Kd.V k66 66 wc w.heap.size (fun k_ => ((P0_1_ k_ ∨ P1_1_ k_ ∨ P2_1_ k_) ∨ w.heap.size ≤ k_) ∧ k_ ≠ gb256 ∧ k_ ≠ gb257 ∧ k_ ≠ gb258) (.slice A1_1 l1_1.length c1_1) l1_1) ∧ Aside0 (Kd.V k66 66 wc w.heap.size (fun k_ => ((P0_1_ k_ ∨ P1_1_ k_ ∨ P2_1_ k_) ∨ w.heap.size ≤ k_) ∧ k_ ≠ gb256 ∧ k_ ≠ gb257 ∧ k_ ≠ gb258) (.slice A2_1 l2_1.length c2_1) l2_1) ∧ Aside0 (wc.heap[gb256]? = some (.cells #[.bool a0_0, (.slice A0_1 l0_1.length c0_1), .string a0_2, .string a0_3] 24 (0, 0))) ∧ Aside0 (wc.heap[gb257]? = some (.cells #[.bool a1_0, (.slice A1_1 l1_1.length c1_1), .string a1_2, .string a1_3] 24 (0, 0))) ∧ Aside0 (wc.heap[gb258]? = some (.cells #[.bool a2_0, (.slice A2_1 l2_1.length c2_1), .string a2_2, .string a2_3] 24 (0, 0))) ∧ Aside0 (Below w.heap.size w wc))
          case first =>
            have H := HC39.out
            clear HC39
            by_cases c59 : t271 = true
            · subst c59
              have H1 : ((laws_chained.f kj3 t266 t268 t270).bind fun t272 => (laws_FnSemverOrder.j1 kj3 (!t272) a0_0 l0_1 a0_2 a0_3 a1_0 l1_1 a1_2 a1_3 a2_0 l2_1 a2_2 a2_3)) = some r := by rw [if_pos rfl] at H; exact H
              clear H
              have H := H1
              clear H1
              replace H := Option.bind_eq_some_iff.mp H
              obtain ⟨t272, A600, H⟩ := H
              replace H : (laws_FnSemverOrder.j1 kj3 (!t272) a0_0 l0_1 a0_2 a0_3 a1_0 l1_1 a1_2 a1_3 a2_0 l2_1 a2_2 a2_3) = some r := H
              have A60 := Aside0.mk A600
              clear A600
              have H' := Aside0.mk H
              clear H
              go_wp2_with (first | (go_at_call 12; (with_reducible refine (laws_chained.calls kj3 t266 t268 t270 t272 _ A60.out).mono ?_); rintro e w' ⟨rfl, ⟨nd, rfl⟩⟩))
              go_meet
              case rel => exact ⟨_, (!t272), (by first | rfl | (simp; done) | (simp [*]; done)), H', ⟨by have := HJ3.out; first | omega | exact Nat.le_refl _⟩, ⟨by (with_reducible repeat (first | apply Kd.V_alloc | apply Kd.V_drewN | apply Kd.V_drew)); exact Kd.V_mono HO_257001.out (fun _ hk => ⟨hk.1.1, ⟨hk.1.2.1, ⟨hk.1.2.2.1, hk.1.2.2.2⟩⟩⟩)⟩, ⟨by (with_reducible repeat (first | apply Kd.V_alloc | apply Kd.V_drewN | apply Kd.V_drew)); exact Kd.V_mono HO_258001.out (fun _ hk => ⟨hk.1.1, ⟨hk.1.2.1, ⟨hk.1.2.2.1, hk.1.2.2.2⟩⟩⟩)⟩, ⟨by (with_reducible repeat (first | apply Kd.V_alloc | apply Kd.V_drewN | apply Kd.V_drew)); exact Kd.V_mono HO_259001.out (fun _ hk => ⟨hk.1.1, ⟨hk.1.2.1, ⟨hk.1.2.2.1, hk.1.2.2.2⟩⟩⟩)⟩, ⟨by (with_reducible repeat (first | refine blk_drewN ?_ _ | refine blk_drew ?_ | refine blk_alloc ?_ _)); exact BK256.out⟩, ⟨by (with_reducible repeat (first | refine blk_drewN ?_ _ | refine blk_drew ?_ | refine blk_alloc ?_ _)); exact BK257.out⟩, ⟨by (with_reducible repeat (first | refine blk_drewN ?_ _ | refine blk_drew ?_ | refine blk_alloc ?_ _)); exact BK258.out⟩, ⟨by repeat (first | (with_reducible first | exact HB.out | apply below_alloc | apply pw_below_drewN | apply below_drew1 | refine below_set ?_ GE256.out | refine below_set ?_ GE257.out | refine below_set ?_ GE258.out) | exact HB.out)⟩⟩
            · replace c59 := Bool.eq_false_iff.mpr c59
              subst c59
              have H1 : (laws_FnSemverOrder.j1 kj3 true a0_0 l0_1 a0_2 a0_3 a1_0 l1_1 a1_2 a1_3 a2_0 l2_1 a2_2 a2_3) = some r := by rw [if_neg (show ¬ (false = true) by decide)] at H; exact H
              clear H
              have H := H1
              clear H1
              have H' := Aside0.mk H
              clear H
              go_wp2
              go_meet
              case rel => exact ⟨_, (true), (by first | rfl | (simp; done) | (simp [*]; done)), H', ⟨by have := HJ3.out; first | omega | exact Nat.le_refl _⟩, ⟨by (with_reducible repeat (first | apply Kd.V_alloc | apply Kd.V_drewN | apply Kd.V_drew)); exact Kd.V_mono HO_257001.out (fun _ hk => ⟨hk.1.1, ⟨hk.1.2.1, ⟨hk.1.2.2.1, hk.1.2.2.2⟩⟩⟩)⟩, ⟨by (with_reducible repeat (first | apply Kd.V_alloc | apply Kd.V_drewN | apply Kd.V_drew)); exact Kd.V_mono HO_258001.out (fun _ hk => ⟨hk.1.1, ⟨hk.1.2.1, ⟨hk.1.2.2.1, hk.1.2.2.2⟩⟩⟩)⟩, ⟨by (with_reducible repeat (first | apply Kd.V_alloc | apply Kd.V_drewN | apply Kd.V_drew)); exact Kd.V_mono HO_259001.out (fun _ hk => ⟨hk.1.1, ⟨hk.1.2.1, ⟨hk.1.2.2.1, hk.1.2.2.2⟩⟩⟩)⟩, ⟨by (with_reducible repeat (first | refine blk_drewN ?_ _ | refine blk_drew ?_ | refine blk_alloc ?_ _)); exact BK256.out⟩, ⟨by (with_reducible repeat (first | refine blk_drewN ?_ _ | refine blk_drew ?_ | refine blk_alloc ?_ _)); exact BK257.out⟩, ⟨by (with_reducible repeat (first | refine blk_drewN ?_ _ | refine blk_drew ?_ | refine blk_alloc ?_ _)); exact BK258.out⟩, ⟨by repeat (first | (with_reducible first | exact HB.out | apply below_alloc | apply pw_below_drewN | apply below_drew1 | refine below_set ?_ GE256.out | refine below_set ?_ GE257.out | refine below_set ?_ GE258.out) | exact HB.out)⟩⟩
          case rest =>
            clear HC39
            try clear c1
            try clear c2
            try clear p2
            try clear c3
            try clear c4
            try clear c5
            try clear c6
            try clear c7
            try clear c9
            try clear c11
            try clear c13
            try clear c14
            try clear c17
            try clear c22
            try clear c23
            try clear c26
            try clear c29
            try clear c30
            try clear c33
            try clear c35
            try clear c40
            try clear c41
            try clear c43
            try clear c59
            try clear hcz15_0
            try clear hcz15_1
            try clear hcz15_2
            try clear hcz15_3
            try clear hcz18_0
            try clear hcz18_1
            try clear hcz18_2
            try clear hcz18_3
            try clear hcz20_0
            try clear hcz20_1
            try clear hcz20_2
            try clear hcz20_3
            try clear hcz24_0
            try clear hcz24_1
            try clear hcz24_2
            try clear hcz24_3
            try clear hcz27_0
            try clear hcz27_1
            try clear hcz27_2
            try clear hcz27_3
            try clear hcz31_0
            try clear hcz31_1
            try clear hcz31_2
            try clear hcz31_3
            try clear hcz42_0
            try clear hcz42_1
            try clear hcz42_2
            try clear hcz42_3
            try clear hcz44_0
            try clear hcz44_1
            try clear hcz44_2
            try clear hcz44_3
            try clear hcz45_0
            try clear hcz45_1
            try clear hcz45_2
            try clear hcz45_3
            try clear hcz50_0
            try clear hcz50_1
            try clear hcz50_2
            try clear hcz50_3
            try clear hcz51_0
            try clear hcz51_1
            try clear hcz51_2
            try clear hcz51_3
            try clear hcz53_0
            try clear hcz53_1
            try clear hcz53_2
            try clear hcz53_3
            try clear hcz54_0
            try clear hcz54_1
            try clear hcz54_2
            try clear hcz54_3
            try clear hcz56_0
            try clear hcz56_1
            try clear hcz56_2
            try clear hcz56_3
            try clear hcz57_0
            try clear hcz57_1
            try clear hcz57_2
            try clear hcz57_3
            try clear hfz15_0
            try clear hfz15_1
            try clear hfz15_2
            try clear hfz15_3
            try clear hfz18_0
            try clear hfz18_1
            try clear hfz18_2
            try clear hfz18_3
            try clear hfz20_0
            try clear hfz20_1
            try clear hfz20_2
            try clear hfz20_3
            try clear hfz24_0
            try clear hfz24_1
            try clear hfz24_2
            try clear hfz24_3
            try clear hfz27_0
            try clear hfz27_1
            try clear hfz27_2
            try clear hfz27_3
            try clear hfz31_0
            try clear hfz31_1
            try clear hfz31_2
            try clear hfz31_3
            try clear hfz42_0
            try clear hfz42_1
            try clear hfz42_2
            try clear hfz42_3
            try clear hfz44_0
            try clear hfz44_1
            try clear hfz44_2
            try clear hfz44_3
            try clear hfz45_0
            try clear hfz45_1
            try clear hfz45_2
            try clear hfz45_3
            try clear hfz50_0
            try clear hfz50_1
            try clear hfz50_2
            try clear hfz50_3
            try clear hfz51_0
            try clear hfz51_1
            try clear hfz51_2
            try clear hfz51_3
            try clear hfz53_0
            try clear hfz53_1
            try clear hfz53_2
            try clear hfz53_3
            try clear hfz54_0
            try clear hfz54_1
            try clear hfz54_2
            try clear hfz54_3
            try clear hfz56_0
            try clear hfz56_1
            try clear hfz56_2
            try clear hfz56_3
            try clear hfz57_0
            try clear hfz57_1
            try clear hfz57_2
            try clear hfz57_3
            try clear p2
            obtain ⟨kq, x58_38, rfl, HA, HJ38, HO_257001, HO_258001, HO_259001, BK256, BK257, BK258, HB⟩ := hcut
            cases kq with
            | zero => exact absurd HA.out (by simp [laws_FnSemverOrder.j1])
            | succ kj38 =>
              have H := HA.out
              clear HA
              simp only [laws_FnSemverOrder.j1] at H
              by_cases c61 : x58_38 = true
              · subst c61
                have H1 : (some false) = some r := by rw [if_pos rfl] at H; exact H
                clear H
                have H := H1
                clear H1
                obtain rfl := Option.some.inj H
                go_wp2
                go_ret
                exact ⟨by first | rfl | (simp [errW_none, errW_some] <;> rfl) | (simp [*, errW_none, errW_some] <;> rfl), by repeat (first | (with_reducible first | exact HB.out | apply below_alloc | apply pw_below_drewN | apply below_drew1 | refine below_set ?_ GE256.out | refine below_set ?_ GE257.out | refine below_set ?_ GE258.out) | exact HB.out)⟩
              · replace c61 := Bool.eq_false_iff.mpr c61
                subst c61
                have H1 : ((impl_NuGetCompare.f kj38 a0_0 l0_1 a0_2 a0_3 a1_0 l1_1 a1_2 a1_3).bind fun bt273 => ((impl_NuGetCompare.f kj38 a1_0 l1_1 a1_2 a1_3 a2_0 l2_1 a2_2 a2_3).bind fun bt275 => ((impl_NuGetCompare.f kj38 a0_0 l0_1 a0_2 a0_3 a2_0 l2_1 a2_2 a2_3).bind fun bt277 => (if bt277.2 = true then ((laws_chained.f kj38 bt273.1 bt275.1 bt277.1).bind fun t279 => (laws_FnSemverOrder.j2 kj38 (!t279) a0_0 l0_1 a0_2 a0_3 a1_0 l1_1 a1_2 a1_3 a2_0 l2_1 a2_2 a2_3)) else (laws_FnSemverOrder.j2 kj38 true a0_0 l0_1 a0_2 a0_3 a1_0 l1_1 a1_2 a1_3 a2_0 l2_1 a2_2 a2_3))))) = some r := by rw [if_neg (show ¬ (false = true) by decide)] at H; exact H
                clear H
                have H := H1
                clear H1
                replace H := Option.bind_eq_some_iff.mp H
                obtain ⟨⟨t273, t274⟩, A620, H⟩ := H
                replace H : ((impl_NuGetCompare.f kj38 a1_0 l1_1 a1_2 a1_3 a2_0 l2_1 a2_2 a2_3).bind fun bt275 => ((impl_NuGetCompare.f kj38 a0_0 l0_1 a0_2 a0_3 a2_0 l2_1 a2_2 a2_3).bind fun bt277 => (if bt277.2 = true then ((laws_chained.f kj38 t273 bt275.1 bt277.1).bind fun t279 => (laws_FnSemverOrder.j2 kj38 (!t279) a0_0 l0_1 a0_2 a0_3 a1_0 l1_1 a1_2 a1_3 a2_0 l2_1 a2_2 a2_3)) else (laws_FnSemverOrder.j2 kj38 true a0_0 l0_1 a0_2 a0_3 a1_0 l1_1 a1_2 a1_3 a2_0 l2_1 a2_2 a2_3)))) = some r := H
                have A62 := Aside0.mk A620
                clear A620
                replace H := Option.bind_eq_some_iff.mp H
                obtain ⟨⟨t275, t276⟩, A630, H⟩ := H
                replace H : ((impl_NuGetCompare.f kj38 a0_0 l0_1 a0_2 a0_3 a2_0 l2_1 a2_2 a2_3).bind fun bt277 => (if bt277.2 = true then ((laws_chained.f kj38 t273 t275 bt277.1).bind fun t279 => (laws_FnSemverOrder.j2 kj38 (!t279) a0_0 l0_1 a0_2 a0_3 a1_0 l1_1 a1_2 a1_3 a2_0 l2_1 a2_2 a2_3)) else (laws_FnSemverOrder.j2 kj38 true a0_0 l0_1 a0_2 a0_3 a1_0 l1_1 a1_2 a1_3 a2_0 l2_1 a2_2 a2_3))) = some r := H
                have A63 := Aside0.mk A630
                clear A630
                replace H := Option.bind_eq_some_iff.mp H
                obtain ⟨⟨t277, t278⟩, A640, H⟩ := H
                replace H : (if t278 = true then ((laws_chained.f kj38 t273 t275 t277).bind fun t279 => (laws_FnSemverOrder.j2 kj38 (!t279) a0_0 l0_1 a0_2 a0_3 a1_0 l1_1 a1_2 a1_3 a2_0 l2_1 a2_2 a2_3)) else (laws_FnSemverOrder.j2 kj38 true a0_0 l0_1 a0_2 a0_3 a1_0 l1_1 a1_2 a1_3 a2_0 l2_1 a2_2 a2_3)) = some r := H
                have A64 := Aside0.mk A640
                clear A640
                have HC65 := Aside0.mk H
                clear H
                have hnb66 := NB256_257.out
                have hnc66 := NB257_256.out
                have hnb67 := NB256_258.out
                have hnc67 := NB258_256.out
                have hcz68_0 : wc.cell? ⟨gb256, 0, none⟩ = some (.bool a0_0) := (blk_cell BK256.out 0).trans rfl
                have hcz68_1 : wc.cell? ⟨gb256, 1, none⟩ = some (.slice A0_1 l0_1.length c0_1) := (blk_cell BK256.out 1).trans rfl
                have hcz68_2 : wc.cell? ⟨gb256, 2, none⟩ = some (.string a0_2) := (blk_cell BK256.out 2).trans rfl
                have hcz68_3 : wc.cell? ⟨gb256, 3, none⟩ = some (.string a0_3) := (blk_cell BK256.out 3).trans rfl
                have hfz68_0 := blk_frozen BK256.out 0
                have hfz68_1 := blk_frozen BK256.out 1
                have hfz68_2 := blk_frozen BK256.out 2
                have hfz68_3 := blk_frozen BK256.out 3
                have hnb69 := NB257_258.out
                have hnc69 := NB258_257.out
                have hcz70_0 : wc.cell? ⟨gb257, 0, none⟩ = some (.bool a1_0) := (blk_cell BK257.out 0).trans rfl
                have hcz70_1 : wc.cell? ⟨gb257, 1, none⟩ = some (.slice A1_1 l1_1.length c1_1) := (blk_cell BK257.out 1).trans rfl
                have hcz70_2 : wc.cell? ⟨gb257, 2, none⟩ = some (.string a1_2) := (blk_cell BK257.out 2).trans rfl
                have hcz70_3 : wc.cell? ⟨gb257, 3, none⟩ = some (.string a1_3) := (blk_cell BK257.out 3).trans rfl
                have hfz70_0 := blk_frozen BK257.out 0
                have hfz70_1 := blk_frozen BK257.out 1
                have hfz70_2 := blk_frozen BK257.out 2
                have hfz70_3 := blk_frozen BK257.out 3
                go_upto_region 13 with (first | ((with_reducible refine gate_callee (f := 13) rfl ?_); refine goesL_ (some 62) rfl rfl Tryz.func13 (by kernel_rfl) rfl #[.agg #[.bool a0_0, .slice A0_1 l0_1.length c0_1, .string a0_2, .string a0_3], .agg #[.bool a1_0, .slice A1_1 l1_1.length c1_1, .string a1_2, .string a1_3]] rfl (by (try simp only [List.map_toArray, List.map_cons, List.map_nil]); first | done | rfl | (simp only [List.length_drop, List.length_take]; rfl)) ?_; (with_reducible refine (impl_NuGetCompare.calls kj38 a0_0 _ _ l0_1 a0_2 a0_3 a1_0 _ _ l1_1 a1_2 a1_3 t273 t274 _ ?side1 ?side2 ?side3 ?side4 ?side5 A62.out).mono ?_); (case side1 => repeat (first | exact (Kd.V_reads' HO_257001.out).2.2 | (with_reducible refine Kd.C_alloc ?_ _) | (with_reducible refine Kd.C_drewN ?_ _) | (with_reducible refine Kd.C_drew ?_))); (case side2 => exact (Kd.V_reads' HO_257001.out).2.1); (case side3 => repeat (first | exact (Kd.V_reads' HO_258001.out).2.2 | (with_reducible refine Kd.C_alloc ?_ _) | (with_reducible refine Kd.C_drewN ?_ _) | (with_reducible refine Kd.C_drew ?_))); (case side4 => exact (Kd.V_reads' HO_258001.out).2.1); (case side5 => first | exact HG.out | exact GW.below HG.out (by repeat (first | (with_reducible first | exact HB.out | exact Below.refl _ _ | apply below_alloc | apply pw_below_drewN | apply below_drew1 | apply below_drew | refine below_set ?_ (Aside0.out (by assumption))) | exact HB.out))); rintro e w71 ⟨rfl, hb⟩; refine ⟨_, rfl, ?_⟩; have n0_ := Aside0.mk (Kd.V_below (by (with_reducible repeat (first | apply Kd.V_alloc | apply Kd.V_drewN | apply Kd.V_drew)); exact HO_257001.out) hb); have n1_ := Aside0.mk (Kd.V_below (by (with_reducible repeat (first | apply Kd.V_alloc | apply Kd.V_drewN | apply Kd.V_drew)); exact HO_258001.out) hb); have n2_ := Aside0.mk (Kd.V_below (by (with_reducible repeat (first | apply Kd.V_alloc | apply Kd.V_drewN | apply Kd.V_drew)); exact HO_259001.out) hb); have n3_ := Aside0.mk (blk_below (g := gb256) (o := .cells #[.bool a0_0, .slice A0_1 l0_1.length c0_1, .string a0_2, .string a0_3] 24 (0, 0)) (by (with_reducible repeat (first | refine blk_drewN ?_ _ | refine blk_drew ?_ | refine blk_alloc ?_ _)); exact BK256.out) hb); have n4_ := Aside0.mk (blk_below (g := gb257) (o := .cells #[.bool a1_0, .slice A1_1 l1_1.length c1_1, .string a1_2, .string a1_3] 24 (0, 0)) (by (with_reducible repeat (first | refine blk_drewN ?_ _ | refine blk_drew ?_ | refine blk_alloc ?_ _)); exact BK257.out) hb); have n5_ := Aside0.mk (blk_below (g := gb258) (o := .cells #[.bool a2_0, .slice A2_1 l2_1.length c2_1, .string a2_2, .string a2_3] 24 (0, 0)) (by (with_reducible repeat (first | refine blk_drewN ?_ _ | refine blk_drew ?_ | refine blk_alloc ?_ _)); exact BK258.out) hb); have n6_ := Aside0.mk (below_step (by repeat (first | (with_reducible first | exact HB.out | apply below_alloc | apply pw_below_drewN | apply below_drew1 | refine below_set ?_ GE256.out | refine below_set ?_ GE257.out | refine below_set ?_ GE258.out) | exact HB.out)) hb); clear HO_257001; clear HO_258001; clear HO_259001; clear BK256; clear BK257; clear BK258; clear HB; have HO_257001 := n0_; have HO_258001 := n1_; have HO_259001 := n2_; have BK256 := n3_; have BK257 := n4_; have BK258 := n5_; have HB := n6_; clear n0_ n1_ n2_ n3_ n4_ n5_ n6_; (try clear hb); (try clear hb2); (try clear hk); (try clear hi); have hcz72_0 : w71.cell? ⟨gb257, 0, none⟩ = some (.bool a1_0) := (blk_cell BK257.out 0).trans rfl; have hcz72_1 : w71.cell? ⟨gb257, 1, none⟩ = some (.slice A1_1 l1_1.length c1_1) := (blk_cell BK257.out 1).trans rfl; have hcz72_2 : w71.cell? ⟨gb257, 2, none⟩ = some (.string a1_2) := (blk_cell BK257.out 2).trans rfl; have hcz72_3 : w71.cell? ⟨gb257, 3, none⟩ = some (.string a1_3) := (blk_cell BK257.out 3).trans rfl; have hfz72_0 := blk_frozen BK257.out 0; have hfz72_1 := blk_frozen BK257.out 1; have hfz72_2 := blk_frozen BK257.out 2; have hfz72_3 := blk_frozen BK257.out 3; have hcz73_0 : w71.cell? ⟨gb258, 0, none⟩ = some (.bool a2_0) := (blk_cell BK258.out 0).trans rfl; have hcz73_1 : w71.cell? ⟨gb258, 1, none⟩ = some (.slice A2_1 l2_1.length c2_1) := (blk_cell BK258.out 1).trans rfl; have hcz73_2 : w71.cell? ⟨gb258, 2, none⟩ = some (.string a2_2) := (blk_cell BK258.out 2).trans rfl; have hcz73_3 : w71.cell? ⟨gb258, 3, none⟩ = some (.string a2_3) := (blk_cell BK258.out 3).trans rfl; have hfz73_0 := blk_frozen BK258.out 0; have hfz73_1 := blk_frozen BK258.out 1; have hfz73_2 := blk_frozen BK258.out 2; have hfz73_3 := blk_frozen BK258.out 3) | ((with_reducible refine gate_callee (f := 13) rfl ?_); refine goesL_ (some 68) rfl rfl Tryz.func13 (by kernel_rfl) rfl #[.agg #[.bool a1_0, .slice A1_1 l1_1.length c1_1, .string a1_2, .string a1_3], .agg #[.bool a2_0, .slice A2_1 l2_1.length c2_1, .string a2_2, .string a2_3]] rfl (by (try simp only [List.map_toArray, List.map_cons, List.map_nil]); first | done | rfl | (simp only [List.length_drop, List.length_take]; rfl)) ?_; (with_reducible refine (impl_NuGetCompare.calls kj38 a1_0 _ _ l1_1 a1_2 a1_3 a2_0 _ _ l2_1 a2_2 a2_3 t275 t276 _ ?side1 ?side2 ?side3 ?side4 ?side5 A63.out).mono ?_); (case side1 => repeat (first | exact (Kd.V_reads' HO_258001.out).2.2 | (with_reducible refine Kd.C_alloc ?_ _) | (with_reducible refine Kd.C_drewN ?_ _) | (with_reducible refine Kd.C_drew ?_))); (case side2 => exact (Kd.V_reads' HO_258001.out).2.1); (case side3 => repeat (first | exact (Kd.V_reads' HO_259001.out).2.2 | (with_reducible refine Kd.C_alloc ?_ _) | (with_reducible refine Kd.C_drewN ?_ _) | (with_reducible refine Kd.C_drew ?_))); (case side4 => exact (Kd.V_reads' HO_259001.out).2.1); (case side5 => first | exact HG.out | exact GW.below HG.out (by repeat (first | (with_reducible first | exact HB.out | exact Below.refl _ _ | apply below_alloc | apply pw_below_drewN | apply below_drew1 | apply below_drew | refine below_set ?_ (Aside0.out (by assumption))) | exact HB.out))); rintro e w74 ⟨rfl, hb⟩; refine ⟨_, rfl, ?_⟩; have n0_ := Aside0.mk (Kd.V_below (by (with_reducible repeat (first | apply Kd.V_alloc | apply Kd.V_drewN | apply Kd.V_drew)); exact HO_257001.out) hb); have n1_ := Aside0.mk (Kd.V_below (by (with_reducible repeat (first | apply Kd.V_alloc | apply Kd.V_drewN | apply Kd.V_drew)); exact HO_258001.out) hb); have n2_ := Aside0.mk (Kd.V_below (by (with_reducible repeat (first | apply Kd.V_alloc | apply Kd.V_drewN | apply Kd.V_drew)); exact HO_259001.out) hb); have n3_ := Aside0.mk (blk_below (g := gb256) (o := .cells #[.bool a0_0, .slice A0_1 l0_1.length c0_1, .string a0_2, .string a0_3] 24 (0, 0)) (by (with_reducible repeat (first | refine blk_drewN ?_ _ | refine blk_drew ?_ | refine blk_alloc ?_ _)); exact BK256.out) hb); have n4_ := Aside0.mk (blk_below (g := gb257) (o := .cells #[.bool a1_0, .slice A1_1 l1_1.length c1_1, .string a1_2, .string a1_3] 24 (0, 0)) (by (with_reducible repeat (first | refine blk_drewN ?_ _ | refine blk_drew ?_ | refine blk_alloc ?_ _)); exact BK257.out) hb); have n5_ := Aside0.mk (blk_below (g := gb258) (o := .cells #[.bool a2_0, .slice A2_1 l2_1.length c2_1, .string a2_2, .string a2_3] 24 (0, 0)) (by (with_reducible repeat (first | refine blk_drewN ?_ _ | refine blk_drew ?_ | refine blk_alloc ?_ _)); exact BK258.out) hb); have n6_ := Aside0.mk (below_step (by repeat (first | (with_reducible first | exact HB.out | apply below_alloc | apply pw_below_drewN | apply below_drew1 | refine below_set ?_ GE256.out | refine below_set ?_ GE257.out | refine below_set ?_ GE258.out) | exact HB.out)) hb); clear HO_257001; clear HO_258001; clear HO_259001; clear BK256; clear BK257; clear BK258; clear HB; have HO_257001 := n0_; have HO_258001 := n1_; have HO_259001 := n2_; have BK256 := n3_; have BK257 := n4_; have BK258 := n5_; have HB := n6_; clear n0_ n1_ n2_ n3_ n4_ n5_ n6_; (try clear hb); (try clear hb2); (try clear hk); (try clear hi); have hcz75_0 : w74.cell? ⟨gb256, 0, none⟩ = some (.bool a0_0) := (blk_cell BK256.out 0).trans rfl; have hcz75_1 : w74.cell? ⟨gb256, 1, none⟩ = some (.slice A0_1 l0_1.length c0_1) := (blk_cell BK256.out 1).trans rfl; have hcz75_2 : w74.cell? ⟨gb256, 2, none⟩ = some (.string a0_2) := (blk_cell BK256.out 2).trans rfl; have hcz75_3 : w74.cell? ⟨gb256, 3, none⟩ = some (.string a0_3) := (blk_cell BK256.out 3).trans rfl; have hfz75_0 := blk_frozen BK256.out 0; have hfz75_1 := blk_frozen BK256.out 1; have hfz75_2 := blk_frozen BK256.out 2; have hfz75_3 := blk_frozen BK256.out 3; have hcz76_0 : w74.cell? ⟨gb258, 0, none⟩ = some (.bool a2_0) := (blk_cell BK258.out 0).trans rfl; have hcz76_1 : w74.cell? ⟨gb258, 1, none⟩ = some (.slice A2_1 l2_1.length c2_1) := (blk_cell BK258.out 1).trans rfl; have hcz76_2 : w74.cell? ⟨gb258, 2, none⟩ = some (.string a2_2) := (blk_cell BK258.out 2).trans rfl; have hcz76_3 : w74.cell? ⟨gb258, 3, none⟩ = some (.string a2_3) := (blk_cell BK258.out 3).trans rfl; have hfz76_0 := blk_frozen BK258.out 0; have hfz76_1 := blk_frozen BK258.out 1; have hfz76_2 := blk_frozen BK258.out 2; have hfz76_3 := blk_frozen BK258.out 3) | ((with_reducible refine gate_callee (f := 13) rfl ?_); refine goesL_ (some 74) rfl rfl Tryz.func13 (by kernel_rfl) rfl #[.agg #[.bool a0_0, .slice A0_1 l0_1.length c0_1, .string a0_2, .string a0_3], .agg #[.bool a2_0, .slice A2_1 l2_1.length c2_1, .string a2_2, .string a2_3]] rfl (by (try simp only [List.map_toArray, List.map_cons, List.map_nil]); first | done | rfl | (simp only [List.length_drop, List.length_take]; rfl)) ?_; (with_reducible refine (impl_NuGetCompare.calls kj38 a0_0 _ _ l0_1 a0_2 a0_3 a2_0 _ _ l2_1 a2_2 a2_3 t277 t278 _ ?side1 ?side2 ?side3 ?side4 ?side5 A64.out).mono ?_); (case side1 => repeat (first | exact (Kd.V_reads' HO_257001.out).2.2 | (with_reducible refine Kd.C_alloc ?_ _) | (with_reducible refine Kd.C_drewN ?_ _) | (with_reducible refine Kd.C_drew ?_))); (case side2 => exact (Kd.V_reads' HO_257001.out).2.1); (case side3 => repeat (first | exact (Kd.V_reads' HO_259001.out).2.2 | (with_reducible refine Kd.C_alloc ?_ _) | (with_reducible refine Kd.C_drewN ?_ _) | (with_reducible refine Kd.C_drew ?_))); (case side4 => exact (Kd.V_reads' HO_259001.out).2.1); (case side5 => first | exact HG.out | exact GW.below HG.out (by repeat (first | (with_reducible first | exact HB.out | exact Below.refl _ _ | apply below_alloc | apply pw_below_drewN | apply below_drew1 | apply below_drew | refine below_set ?_ (Aside0.out (by assumption))) | exact HB.out))); rintro e w77 ⟨rfl, hb⟩; refine ⟨_, rfl, ?_⟩; have n0_ := Aside0.mk (Kd.V_below (by (with_reducible repeat (first | apply Kd.V_alloc | apply Kd.V_drewN | apply Kd.V_drew)); exact HO_257001.out) hb); have n1_ := Aside0.mk (Kd.V_below (by (with_reducible repeat (first | apply Kd.V_alloc | apply Kd.V_drewN | apply Kd.V_drew)); exact HO_258001.out) hb); have n2_ := Aside0.mk (Kd.V_below (by (with_reducible repeat (first | apply Kd.V_alloc | apply Kd.V_drewN | apply Kd.V_drew)); exact HO_259001.out) hb); have n3_ := Aside0.mk (blk_below (g := gb256) (o := .cells #[.bool a0_0, .slice A0_1 l0_1.length c0_1, .string a0_2, .string a0_3] 24 (0, 0)) (by (with_reducible repeat (first | refine blk_drewN ?_ _ | refine blk_drew ?_ | refine blk_alloc ?_ _)); exact BK256.out) hb); have n4_ := Aside0.mk (blk_below (g := gb257) (o := .cells #[.bool a1_0, .slice A1_1 l1_1.length c1_1, .string a1_2, .string a1_3] 24 (0, 0)) (by (with_reducible repeat (first | refine blk_drewN ?_ _ | refine blk_drew ?_ | refine blk_alloc ?_ _)); exact BK257.out) hb); have n5_ := Aside0.mk (blk_below (g := gb258) (o := .cells #[.bool a2_0, .slice A2_1 l2_1.length c2_1, .string a2_2, .string a2_3] 24 (0, 0)) (by (with_reducible repeat (first | refine blk_drewN ?_ _ | refine blk_drew ?_ | refine blk_alloc ?_ _)); exact BK258.out) hb); have n6_ := Aside0.mk (below_step (by repeat (first | (with_reducible first | exact HB.out | apply below_alloc | apply pw_below_drewN | apply below_drew1 | refine below_set ?_ GE256.out | refine below_set ?_ GE257.out | refine below_set ?_ GE258.out) | exact HB.out)) hb); clear HO_257001; clear HO_258001; clear HO_259001; clear BK256; clear BK257; clear BK258; clear HB; have HO_257001 := n0_; have HO_258001 := n1_; have HO_259001 := n2_; have BK256 := n3_; have BK257 := n4_; have BK258 := n5_; have HB := n6_; clear n0_ n1_ n2_ n3_ n4_ n5_ n6_; (try clear hb); (try clear hb2); (try clear hk); (try clear hi)))
                (try simp only [Act.put, List.setIfInBounds_toArray, List.set_cons_zero, List.set_cons_succ])
                go_cut [85] (fun v85 wc => ∃ (kq : Nat) (x85_64 : Bool), v85 = .bool x85_64 ∧ Aside0 (laws_FnSemverOrder.j2 kq x85_64 a0_0 l0_1 a0_2 a0_3 a1_0 l1_1 a1_2 a1_3 a2_0 l2_1 a2_2 a2_3 = some r) ∧ Aside0 (kq ≤ kj38) ∧ Aside0 (Kd.V k66 66 wc w.heap.size (fun k_ => ((P0_1_ k_ ∨ P1_1_ k_ ∨ P2_1_ k_) ∨ w.heap.size ≤ k_) ∧ k_ ≠ gb256 ∧ k_ ≠ gb257 ∧ k_ ≠ gb258) (.slice A0_1 l0_1.length c0_1) l0_1) ∧ Aside0 (Kd.V k66 66 wc w.heap.size (fun k_ => ((P0_1_ k_ ∨ P1_1_ k_ ∨ P2_1_ k_) ∨ w.heap.size ≤ k_) ∧ k_ ≠ gb256 ∧ k_ ≠ gb257 ∧ k_ ≠ gb258) (.slice A1_1 l1_1.length c1_1) l1_1) ∧ Aside0 (Kd.V k66 66 wc w.heap.size (fun k_ => ((P0_1_ k_ ∨ P1_1_ k_ ∨ P2_1_ k_) ∨ w.heap.size ≤ k_) ∧ k_ ≠ gb256 ∧ k_ ≠ gb257 ∧ k_ ≠ gb258) (.slice A2_1 l2_1.length c2_1) l2_1) ∧ Aside0 (wc.heap[gb256]? = some (.cells #[.bool a0_0, (.slice A0_1 l0_1.length c0_1), .string a0_2, .string a0_3] 24 (0, 0))) ∧ Aside0 (wc.heap[gb257]? = some (.cells #[.bool a1_0, (.slice A1_1 l1_1.length c1_1), .string a1_2, .string a1_3] 24 (0, 0))) ∧ Aside0 (wc.heap[gb258]? = some (.cells #[.bool a2_0, (.slice A2_1 l2_1.length c2_1), .string a2_2, .string a2_3] 24 (0, 0))) ∧ Aside0 (Below w.heap.size w wc))
                case first =>
                  have H := HC65.out
                  clear HC65
                  by_cases c78 : t278 = true
                  · subst c78
                    have H1 : ((laws_chained.f kj38 t273 t275 t277).bind fun t279 => (laws_FnSemverOrder.j2 kj38 (!t279) a0_0 l0_1 a0_2 a0_3 a1_0 l1_1 a1_2 a1_3 a2_0 l2_1 a2_2 a2_3)) = some r := by rw [if_pos rfl] at H; exact H
                    clear H
                    have H := H1
                    clear H1
                    replace H := Option.bind_eq_some_iff.mp H
                    obtain ⟨t279, A790, H⟩ := H
                    replace H : (laws_FnSemverOrder.j2 kj38 (!t279) a0_0 l0_1 a0_2 a0_3 a1_0 l1_1 a1_2 a1_3 a2_0 l2_1 a2_2 a2_3) = some r := H
                    have A79 := Aside0.mk A790
                    clear A790
                    have H' := Aside0.mk H
                    clear H
                    go_wp2_with (first | (go_at_call 12; (with_reducible refine (laws_chained.calls kj38 t273 t275 t277 t279 _ A79.out).mono ?_); rintro e w' ⟨rfl, ⟨nd, rfl⟩⟩))
                    go_meet
                    case rel => exact ⟨_, (!t279), (by first | rfl | (simp; done) | (simp [*]; done)), H', ⟨by have := HJ3.out; have := HJ38.out; first | omega | exact Nat.le_refl _⟩, ⟨by (with_reducible repeat (first | apply Kd.V_alloc | apply Kd.V_drewN | apply Kd.V_drew)); exact HO_257001.out⟩, ⟨by (with_reducible repeat (first | apply Kd.V_alloc | apply Kd.V_drewN | apply Kd.V_drew)); exact HO_258001.out⟩, ⟨by (with_reducible repeat (first | apply Kd.V_alloc | apply Kd.V_drewN | apply Kd.V_drew)); exact HO_259001.out⟩, ⟨by (with_reducible repeat (first | refine blk_drewN ?_ _ | refine blk_drew ?_ | refine blk_alloc ?_ _)); exact BK256.out⟩, ⟨by (with_reducible repeat (first | refine blk_drewN ?_ _ | refine blk_drew ?_ | refine blk_alloc ?_ _)); exact BK257.out⟩, ⟨by (with_reducible repeat (first | refine blk_drewN ?_ _ | refine blk_drew ?_ | refine blk_alloc ?_ _)); exact BK258.out⟩, ⟨by repeat (first | (with_reducible first | exact HB.out | apply below_alloc | apply pw_below_drewN | apply below_drew1 | refine below_set ?_ GE256.out | refine below_set ?_ GE257.out | refine below_set ?_ GE258.out) | exact HB.out)⟩⟩
                  · replace c78 := Bool.eq_false_iff.mpr c78
                    subst c78
                    have H1 : (laws_FnSemverOrder.j2 kj38 true a0_0 l0_1 a0_2 a0_3 a1_0 l1_1 a1_2 a1_3 a2_0 l2_1 a2_2 a2_3) = some r := by rw [if_neg (show ¬ (false = true) by decide)] at H; exact H
                    clear H
                    have H := H1
                    clear H1
                    have H' := Aside0.mk H
                    clear H
                    go_wp2
                    go_meet
                    case rel => exact ⟨_, (true), (by first | rfl | (simp; done) | (simp [*]; done)), H', ⟨by have := HJ3.out; have := HJ38.out; first | omega | exact Nat.le_refl _⟩, ⟨by (with_reducible repeat (first | apply Kd.V_alloc | apply Kd.V_drewN | apply Kd.V_drew)); exact HO_257001.out⟩, ⟨by (with_reducible repeat (first | apply Kd.V_alloc | apply Kd.V_drewN | apply Kd.V_drew)); exact HO_258001.out⟩, ⟨by (with_reducible repeat (first | apply Kd.V_alloc | apply Kd.V_drewN | apply Kd.V_drew)); exact HO_259001.out⟩, ⟨by (with_reducible repeat (first | refine blk_drewN ?_ _ | refine blk_drew ?_ | refine blk_alloc ?_ _)); exact BK256.out⟩, ⟨by (with_reducible repeat (first | refine blk_drewN ?_ _ | refine blk_drew ?_ | refine blk_alloc ?_ _)); exact BK257.out⟩, ⟨by (with_reducible repeat (first | refine blk_drewN ?_ _ | refine blk_drew ?_ | refine blk_alloc ?_ _)); exact BK258.out⟩, ⟨by repeat (first | (with_reducible first | exact HB.out | apply below_alloc | apply pw_below_drewN | apply below_drew1 | refine below_set ?_ GE256.out | refine below_set ?_ GE257.out | refine below_set ?_ GE258.out) | exact HB.out)⟩⟩
                case rest =>
                  clear HC65
                  try clear c1
                  try clear c2
                  try clear p2
                  try clear c3
                  try clear c4
                  try clear c5
                  try clear c6
                  try clear c7
                  try clear c9
                  try clear c11
                  try clear c13
                  try clear c14
                  try clear c17
                  try clear c22
                  try clear c23
                  try clear c26
                  try clear c29
                  try clear c30
                  try clear c33
                  try clear c35
                  try clear c40
                  try clear c41
                  try clear c43
                  try clear c59
                  try clear c61
                  try clear c66
                  try clear c67
                  try clear c69
                  try clear c78
                  try clear hcz15_0
                  try clear hcz15_1
                  try clear hcz15_2
                  try clear hcz15_3
                  try clear hcz18_0
                  try clear hcz18_1
                  try clear hcz18_2
                  try clear hcz18_3
                  try clear hcz20_0
                  try clear hcz20_1
                  try clear hcz20_2
                  try clear hcz20_3
                  try clear hcz24_0
                  try clear hcz24_1
                  try clear hcz24_2
                  try clear hcz24_3
                  try clear hcz27_0
                  try clear hcz27_1
                  try clear hcz27_2
                  try clear hcz27_3
                  try clear hcz31_0
                  try clear hcz31_1
                  try clear hcz31_2
                  try clear hcz31_3
                  try clear hcz42_0
                  try clear hcz42_1
                  try clear hcz42_2
                  try clear hcz42_3
                  try clear hcz44_0
                  try clear hcz44_1
                  try clear hcz44_2
                  try clear hcz44_3
                  try clear hcz45_0
                  try clear hcz45_1
                  try clear hcz45_2
                  try clear hcz45_3
                  try clear hcz50_0
                  try clear hcz50_1
                  try clear hcz50_2
                  try clear hcz50_3
                  try clear hcz51_0
                  try clear hcz51_1
                  try clear hcz51_2
                  try clear hcz51_3
                  try clear hcz53_0
                  try clear hcz53_1
                  try clear hcz53_2
                  try clear hcz53_3
                  try clear hcz54_0
                  try clear hcz54_1
                  try clear hcz54_2
                  try clear hcz54_3
                  try clear hcz56_0
                  try clear hcz56_1
                  try clear hcz56_2
                  try clear hcz56_3
                  try clear hcz57_0
                  try clear hcz57_1
                  try clear hcz57_2
                  try clear hcz57_3
                  try clear hcz68_0
                  try clear hcz68_1
                  try clear hcz68_2
                  try clear hcz68_3
                  try clear hcz70_0
                  try clear hcz70_1
                  try clear hcz70_2
                  try clear hcz70_3
                  try clear hcz72_0
                  try clear hcz72_1
                  try clear hcz72_2
                  try clear hcz72_3
                  try clear hcz73_0
                  try clear hcz73_1
                  try clear hcz73_2
                  try clear hcz73_3
                  try clear hcz75_0
                  try clear hcz75_1
                  try clear hcz75_2
                  try clear hcz75_3
                  try clear hcz76_0
                  try clear hcz76_1
                  try clear hcz76_2
                  try clear hcz76_3
                  try clear hfz15_0
                  try clear hfz15_1
                  try clear hfz15_2
                  try clear hfz15_3
                  try clear hfz18_0
                  try clear hfz18_1
                  try clear hfz18_2
                  try clear hfz18_3
                  try clear hfz20_0
                  try clear hfz20_1
                  try clear hfz20_2
                  try clear hfz20_3
                  try clear hfz24_0
                  try clear hfz24_1
                  try clear hfz24_2
                  try clear hfz24_3
                  try clear hfz27_0
                  try clear hfz27_1
                  try clear hfz27_2
                  try clear hfz27_3
                  try clear hfz31_0
                  try clear hfz31_1
                  try clear hfz31_2
                  try clear hfz31_3
                  try clear hfz42_0
                  try clear hfz42_1
                  try clear hfz42_2
                  try clear hfz42_3
                  try clear hfz44_0
                  try clear hfz44_1
                  try clear hfz44_2
                  try clear hfz44_3
                  try clear hfz45_0
                  try clear hfz45_1
                  try clear hfz45_2
                  try clear hfz45_3
                  try clear hfz50_0
                  try clear hfz50_1
                  try clear hfz50_2
                  try clear hfz50_3
                  try clear hfz51_0
                  try clear hfz51_1
                  try clear hfz51_2
                  try clear hfz51_3
                  try clear hfz53_0
                  try clear hfz53_1
                  try clear hfz53_2
                  try clear hfz53_3
                  try clear hfz54_0
                  try clear hfz54_1
                  try clear hfz54_2
                  try clear hfz54_3
                  try clear hfz56_0
                  try clear hfz56_1
                  try clear hfz56_2
                  try clear hfz56_3
                  try clear hfz57_0
                  try clear hfz57_1
                  try clear hfz57_2
                  try clear hfz57_3
                  try clear hfz68_0
                  try clear hfz68_1
                  try clear hfz68_2
                  try clear hfz68_3
                  try clear hfz70_0
                  try clear hfz70_1
                  try clear hfz70_2
                  try clear hfz70_3
                  try clear hfz72_0
                  try clear hfz72_1
                  try clear hfz72_2
                  try clear hfz72_3
                  try clear hfz73_0
                  try clear hfz73_1
                  try clear hfz73_2
                  try clear hfz73_3
                  try clear hfz75_0
                  try clear hfz75_1
                  try clear hfz75_2
                  try clear hfz75_3
                  try clear hfz76_0
                  try clear hfz76_1
                  try clear hfz76_2
                  try clear hfz76_3
                  try clear p2
                  obtain ⟨kq, x85_64, rfl, HA, HJ64, HO_257001, HO_258001, HO_259001, BK256, BK257, BK258, HB⟩ := hcut
                  cases kq with
                  | zero => exact absurd HA.out (by simp [laws_FnSemverOrder.j2])
                  | succ kj64 =>
                    have H := HA.out
                    clear HA
                    simp only [laws_FnSemverOrder.j2] at H
                    by_cases c80 : x85_64 = true
                    · subst c80
                      have H1 : (some false) = some r := by rw [if_pos rfl] at H; exact H
                      clear H
                      have H := H1
                      clear H1
                      obtain rfl := Option.some.inj H
                      go_wp2
                      go_ret
                      exact ⟨by first | rfl | (simp [errW_none, errW_some] <;> rfl) | (simp [*, errW_none, errW_some] <;> rfl), by repeat (first | (with_reducible first | exact HB.out | apply below_alloc | apply pw_below_drewN | apply below_drew1 | refine below_set ?_ GE256.out | refine below_set ?_ GE257.out | refine below_set ?_ GE258.out) | exact HB.out)⟩
                    · replace c80 := Bool.eq_false_iff.mpr c80
                      subst c80
                      have H1 : ((impl_PubCompare.f kj64 a0_0 l0_1 a0_2 a0_3 a1_0 l1_1 a1_2 a1_3).bind fun bt280 => ((impl_PubCompare.f kj64 a1_0 l1_1 a1_2 a1_3 a2_0 l2_1 a2_2 a2_3).bind fun bt282 => ((impl_PubCompare.f kj64 a0_0 l0_1 a0_2 a0_3 a2_0 l2_1 a2_2 a2_3).bind fun bt284 => (if bt284.2 = true then ((laws_chained.f kj64 bt280.1 bt282.1 bt284.1).bind fun t286 => (laws_FnSemverOrder.j3 kj64 (!t286) a0_0 l0_1 a0_2 a0_3 a1_0 l1_1 a1_2 a1_3 a2_0 l2_1 a2_2 a2_3)) else (laws_FnSemverOrder.j3 kj64 true a0_0 l0_1 a0_2 a0_3 a1_0 l1_1 a1_2 a1_3 a2_0 l2_1 a2_2 a2_3))))) = some r := by rw [if_neg (show ¬ (false = true) by decide)] at H; exact H
                      clear H
                      have H := H1
                      clear H1
                      replace H := Option.bind_eq_some_iff.mp H
                      obtain ⟨⟨t280, t281⟩, A810, H⟩ := H
                      replace H : ((impl_PubCompare.f kj64 a1_0 l1_1 a1_2 a1_3 a2_0 l2_1 a2_2 a2_3).bind fun bt282 => ((impl_PubCompare.f kj64 a0_0 l0_1 a0_2 a0_3 a2_0 l2_1 a2_2 a2_3).bind fun bt284 => (if bt284.2 = true then ((laws_chained.f kj64 t280 bt282.1 bt284.1).bind fun t286 => (laws_FnSemverOrder.j3 kj64 (!t286) a0_0 l0_1 a0_2 a0_3 a1_0 l1_1 a1_2 a1_3 a2_0 l2_1 a2_2 a2_3)) else (laws_FnSemverOrder.j3 kj64 true a0_0 l0_1 a0_2 a0_3 a1_0 l1_1 a1_2 a1_3 a2_0 l2_1 a2_2 a2_3)))) = some r := H
                      have A81 := Aside0.mk A810
                      clear A810
                      replace H := Option.bind_eq_some_iff.mp H
                      obtain ⟨⟨t282, t283⟩, A820, H⟩ := H
                      replace H : ((impl_PubCompare.f kj64 a0_0 l0_1 a0_2 a0_3 a2_0 l2_1 a2_2 a2_3).bind fun bt284 => (if bt284.2 = true then ((laws_chained.f kj64 t280 t282 bt284.1).bind fun t286 => (laws_FnSemverOrder.j3 kj64 (!t286) a0_0 l0_1 a0_2 a0_3 a1_0 l1_1 a1_2 a1_3 a2_0 l2_1 a2_2 a2_3)) else (laws_FnSemverOrder.j3 kj64 true a0_0 l0_1 a0_2 a0_3 a1_0 l1_1 a1_2 a1_3 a2_0 l2_1 a2_2 a2_3))) = some r := H
                      have A82 := Aside0.mk A820
                      clear A820
                      replace H := Option.bind_eq_some_iff.mp H
                      obtain ⟨⟨t284, t285⟩, A830, H⟩ := H
                      replace H : (if t285 = true then ((laws_chained.f kj64 t280 t282 t284).bind fun t286 => (laws_FnSemverOrder.j3 kj64 (!t286) a0_0 l0_1 a0_2 a0_3 a1_0 l1_1 a1_2 a1_3 a2_0 l2_1 a2_2 a2_3)) else (laws_FnSemverOrder.j3 kj64 true a0_0 l0_1 a0_2 a0_3 a1_0 l1_1 a1_2 a1_3 a2_0 l2_1 a2_2 a2_3)) = some r := H
                      have A83 := Aside0.mk A830
                      clear A830
                      have HC84 := Aside0.mk H
                      clear H
                      have hnb85 := NB256_257.out
                      have hnc85 := NB257_256.out
                      have hnb86 := NB256_258.out
                      have hnc86 := NB258_256.out
                      have hcz87_0 : wc.cell? ⟨gb256, 0, none⟩ = some (.bool a0_0) := (blk_cell BK256.out 0).trans rfl
                      have hcz87_1 : wc.cell? ⟨gb256, 1, none⟩ = some (.slice A0_1 l0_1.length c0_1) := (blk_cell BK256.out 1).trans rfl
                      have hcz87_2 : wc.cell? ⟨gb256, 2, none⟩ = some (.string a0_2) := (blk_cell BK256.out 2).trans rfl
                      have hcz87_3 : wc.cell? ⟨gb256, 3, none⟩ = some (.string a0_3) := (blk_cell BK256.out 3).trans rfl
                      have hfz87_0 := blk_frozen BK256.out 0
                      have hfz87_1 := blk_frozen BK256.out 1
                      have hfz87_2 := blk_frozen BK256.out 2
                      have hfz87_3 := blk_frozen BK256.out 3
                      have hnb88 := NB257_258.out
                      have hnc88 := NB258_257.out
                      have hcz89_0 : wc.cell? ⟨gb257, 0, none⟩ = some (.bool a1_0) := (blk_cell BK257.out 0).trans rfl
                      have hcz89_1 : wc.cell? ⟨gb257, 1, none⟩ = some (.slice A1_1 l1_1.length c1_1) := (blk_cell BK257.out 1).trans rfl
                      have hcz89_2 : wc.cell? ⟨gb257, 2, none⟩ = some (.string a1_2) := (blk_cell BK257.out 2).trans rfl
                      have hcz89_3 : wc.cell? ⟨gb257, 3, none⟩ = some (.string a1_3) := (blk_cell BK257.out 3).trans rfl
                      have hfz89_0 := blk_frozen BK257.out 0
                      have hfz89_1 := blk_frozen BK257.out 1
                      have hfz89_2 := blk_frozen BK257.out 2
                      have hfz89_3 := blk_frozen BK257.out 3
                      go_upto_region 18 with (first | ((with_reducible refine gate_callee (f := 9) rfl ?_); refine goesL_ (some 89) rfl rfl Tryz.func9 (by kernel_rfl) rfl #[.agg #[.bool a0_0, .slice A0_1 l0_1.length c0_1, .string a0_2, .string a0_3], .agg #[.bool a1_0, .slice A1_1 l1_1.length c1_1, .string a1_2, .string a1_3]] rfl (by (try simp only [List.map_toArray, List.map_cons, List.map_nil]); first | done | rfl | (simp only [List.length_drop, List.length_take]; rfl)) ?_; (with_reducible refine (impl_PubCompare.calls kj64 a0_0 _ _ l0_1 a0_2 a0_3 a1_0 _ _ l1_1 a1_2 a1_3 t280 t281 _ ?side1 ?side2 ?side3 ?side4 ?side5 A81.out).mono ?_); (case side1 => repeat (first | exact (Kd.V_reads' HO_257001.out).2.2 | (with_reducible refine Kd.C_alloc ?_ _) | (with_reducible refine Kd.C_drewN ?_ _) | (with_reducible refine Kd.C_drew ?_))); (case side2 => exact (Kd.V_reads' HO_257001.out).2.1); (case side3 => repeat (first | exact (Kd.V_reads' HO_258001.out).2.2 | (with_reducible refine Kd.C_alloc ?_ _) | (with_reducible refine Kd.C_drewN ?_ _) | (with_reducible refine Kd.C_drew ?_))); (case side4 => exact (Kd.V_reads' HO_258001.out).2.1); (case side5 => first | exact HG.out | exact GW.below HG.out (by repeat (first | (with_reducible first | exact HB.out | exact Below.refl _ _ | apply below_alloc | apply pw_below_drewN | apply below_drew1 | apply below_drew | refine below_set ?_ (Aside0.out (by assumption))) | exact HB.out))); rintro e w90 ⟨rfl, hb⟩; refine ⟨_, rfl, ?_⟩; have n0_ := Aside0.mk (Kd.V_below (by (with_reducible repeat (first | apply Kd.V_alloc | apply Kd.V_drewN | apply Kd.V_drew)); exact HO_257001.out) hb); have n1_ := Aside0.mk (Kd.V_below (by (with_reducible repeat (first | apply Kd.V_alloc | apply Kd.V_drewN | apply Kd.V_drew)); exact HO_258001.out) hb); have n2_ := Aside0.mk (Kd.V_below (by (with_reducible repeat (first | apply Kd.V_alloc | apply Kd.V_drewN | apply Kd.V_drew)); exact HO_259001.out) hb); have n3_ := Aside0.mk (blk_below (g := gb256) (o := .cells #[.bool a0_0, .slice A0_1 l0_1.length c0_1, .string a0_2, .string a0_3] 24 (0, 0)) (by (with_reducible repeat (first | refine blk_drewN ?_ _ | refine blk_drew ?_ | refine blk_alloc ?_ _)); exact BK256.out) hb); have n4_ := Aside0.mk (blk_below (g := gb257) (o := .cells #[.bool a1_0, .slice A1_1 l1_1.length c1_1, .string a1_2, .string a1_3] 24 (0, 0)) (by (with_reducible repeat (first | refine blk_drewN ?_ _ | refine blk_drew ?_ | refine blk_alloc ?_ _)); exact BK257.out) hb); have n5_ := Aside0.mk (blk_below (g := gb258) (o := .cells #[.bool a2_0, .slice A2_1 l2_1.length c2_1, .string a2_2, .string a2_3] 24 (0, 0)) (by (with_reducible repeat (first | refine blk_drewN ?_ _ | refine blk_drew ?_ | refine blk_alloc ?_ _)); exact BK258.out) hb); have n6_ := Aside0.mk (below_step (by repeat (first | (with_reducible first | exact HB.out | apply below_alloc | apply pw_below_drewN | apply below_drew1 | refine below_set ?_ GE256.out | refine below_set ?_ GE257.out | refine below_set ?_ GE258.out) | exact HB.out)) hb); clear HO_257001; clear HO_258001; clear HO_259001; clear BK256; clear BK257; clear BK258; clear HB; have HO_257001 := n0_; have HO_258001 := n1_; have HO_259001 := n2_; have BK256 := n3_; have BK257 := n4_; have BK258 := n5_; have HB := n6_; clear n0_ n1_ n2_ n3_ n4_ n5_ n6_; (try clear hb); (try clear hb2); (try clear hk); (try clear hi); have hcz91_0 : w90.cell? ⟨gb257, 0, none⟩ = some (.bool a1_0) := (blk_cell BK257.out 0).trans rfl; have hcz91_1 : w90.cell? ⟨gb257, 1, none⟩ = some (.slice A1_1 l1_1.length c1_1) := (blk_cell BK257.out 1).trans rfl; have hcz91_2 : w90.cell? ⟨gb257, 2, none⟩ = some (.string a1_2) := (blk_cell BK257.out 2).trans rfl; have hcz91_3 : w90.cell? ⟨gb257, 3, none⟩ = some (.string a1_3) := (blk_cell BK257.out 3).trans rfl; have hfz91_0 := blk_frozen BK257.out 0; have hfz91_1 := blk_frozen BK257.out 1; have hfz91_2 := blk_frozen BK257.out 2; have hfz91_3 := blk_frozen BK257.out 3; have hcz92_0 : w90.cell? ⟨gb258, 0, none⟩ = some (.bool a2_0) := (blk_cell BK258.out 0).trans rfl; have hcz92_1 : w90.cell? ⟨gb258, 1, none⟩ = some (.slice A2_1 l2_1.length c2_1) := (blk_cell BK258.out 1).trans rfl; have hcz92_2 : w90.cell? ⟨gb258, 2, none⟩ = some (.string a2_2) := (blk_cell BK258.out 2).trans rfl; have hcz92_3 : w90.cell? ⟨gb258, 3, none⟩ = some (.string a2_3) := (blk_cell BK258.out 3).trans rfl; have hfz92_0 := blk_frozen BK258.out 0; have hfz92_1 := blk_frozen BK258.out 1; have hfz92_2 := blk_frozen BK258.out 2; have hfz92_3 := blk_frozen BK258.out 3) | ((with_reducible refine gate_callee (f := 9) rfl ?_); refine goesL_ (some 95) rfl rfl Tryz.func9 (by kernel_rfl) rfl #[.agg #[.bool a1_0, .slice A1_1 l1_1.length c1_1, .string a1_2, .string a1_3], .agg #[.bool a2_0, .slice A2_1 l2_1.length c2_1, .string a2_2, .string a2_3]] rfl (by (try simp only [List.map_toArray, List.map_cons, List.map_nil]); first | done | rfl | (simp only [List.length_drop, List.length_take]; rfl)) ?_; (with_reducible refine (impl_PubCompare.calls kj64 a1_0 _ _ l1_1 a1_2 a1_3 a2_0 _ _ l2_1 a2_2 a2_3 t282 t283 _ ?side1 ?side2 ?side3 ?side4 ?side5 A82.out).mono ?_); (case side1 => repeat (first | exact (Kd.V_reads' HO_258001.out).2.2 | (with_reducible refine Kd.C_alloc ?_ _) | (with_reducible refine Kd.C_drewN ?_ _) | (with_reducible refine Kd.C_drew ?_))); (case side2 => exact (Kd.V_reads' HO_258001.out).2.1); (case side3 => repeat (first | exact (Kd.V_reads' HO_259001.out).2.2 | (with_reducible refine Kd.C_alloc ?_ _) | (with_reducible refine Kd.C_drewN ?_ _) | (with_reducible refine Kd.C_drew ?_))); (case side4 => exact (Kd.V_reads' HO_259001.out).2.1); (case side5 => first | exact HG.out | exact GW.below HG.out (by repeat (first | (with_reducible first | exact HB.out | exact Below.refl _ _ | apply below_alloc | apply pw_below_drewN | apply below_drew1 | apply below_drew | refine below_set ?_ (Aside0.out (by assumption))) | exact HB.out))); rintro e w93 ⟨rfl, hb⟩; refine ⟨_, rfl, ?_⟩; have n0_ := Aside0.mk (Kd.V_below (by (with_reducible repeat (first | apply Kd.V_alloc | apply Kd.V_drewN | apply Kd.V_drew)); exact HO_257001.out) hb); have n1_ := Aside0.mk (Kd.V_below (by (with_reducible repeat (first | apply Kd.V_alloc | apply Kd.V_drewN | apply Kd.V_drew)); exact HO_258001.out) hb); have n2_ := Aside0.mk (Kd.V_below (by (with_reducible repeat (first | apply Kd.V_alloc | apply Kd.V_drewN | apply Kd.V_drew)); exact HO_259001.out) hb); have n3_ := Aside0.mk (blk_below (g := gb256) (o := .cells #[.bool a0_0, .slice A0_1 l0_1.length c0_1, .string a0_2, .string a0_3] 24 (0, 0)) (by (with_reducible repeat (first | refine blk_drewN ?_ _ | refine blk_drew ?_ | refine blk_alloc ?_ _)); exact BK256.out) hb); have n4_ := Aside0.mk (blk_below (g := gb257) (o := .cells #[.bool a1_0, .slice A1_1 l1_1.length c1_1, .string a1_2, .string a1_3] 24 (0, 0)) (by (with_reducible repeat (first | refine blk_drewN ?_ _ | refine blk_drew ?_ | refine blk_alloc ?_ _)); exact BK257.out) hb); have n5_ := Aside0.mk (blk_below (g := gb258) (o := .cells #[.bool a2_0, .slice A2_1 l2_1.length c2_1, .string a2_2, .string a2_3] 24 (0, 0)) (by (with_reducible repeat (first | refine blk_drewN ?_ _ | refine blk_drew ?_ | refine blk_alloc ?_ _)); exact BK258.out) hb); have n6_ := Aside0.mk (below_step (by repeat (first | (with_reducible first | exact HB.out | apply below_alloc | apply pw_below_drewN | apply below_drew1 | refine below_set ?_ GE256.out | refine below_set ?_ GE257.out | refine below_set ?_ GE258.out) | exact HB.out)) hb); clear HO_257001; clear HO_258001; clear HO_259001; clear BK256; clear BK257; clear BK258; clear HB; have HO_257001 := n0_; have HO_258001 := n1_; have HO_259001 := n2_; have BK256 := n3_; have BK257 := n4_; have BK258 := n5_; have HB := n6_; clear n0_ n1_ n2_ n3_ n4_ n5_ n6_; (try clear hb); (try clear hb2); (try clear hk); (try clear hi); have hcz94_0 : w93.cell? ⟨gb256, 0, none⟩ = some (.bool a0_0) := (blk_cell BK256.out 0).trans rfl; have hcz94_1 : w93.cell? ⟨gb256, 1, none⟩ = some (.slice A0_1 l0_1.length c0_1) := (blk_cell BK256.out 1).trans rfl; have hcz94_2 : w93.cell? ⟨gb256, 2, none⟩ = some (.string a0_2) := (blk_cell BK256.out 2).trans rfl; have hcz94_3 : w93.cell? ⟨gb256, 3, none⟩ = some (.string a0_3) := (blk_cell BK256.out 3).trans rfl; have hfz94_0 := blk_frozen BK256.out 0; have hfz94_1 := blk_frozen BK256.out 1; have hfz94_2 := blk_frozen BK256.out 2; have hfz94_3 := blk_frozen BK256.out 3; have hcz95_0 : w93.cell? ⟨gb258, 0, none⟩ = some (.bool a2_0) := (blk_cell BK258.out 0).trans rfl; have hcz95_1 : w93.cell? ⟨gb258, 1, none⟩ = some (.slice A2_1 l2_1.length c2_1) := (blk_cell BK258.out 1).trans rfl; have hcz95_2 : w93.cell? ⟨gb258, 2, none⟩ = some (.string a2_2) := (blk_cell BK258.out 2).trans rfl; have hcz95_3 : w93.cell? ⟨gb258, 3, none⟩ = some (.string a2_3) := (blk_cell BK258.out 3).trans rfl; have hfz95_0 := blk_frozen BK258.out 0; have hfz95_1 := blk_frozen BK258.out 1; have hfz95_2 := blk_frozen BK258.out 2; have hfz95_3 := blk_frozen BK258.out 3) | ((with_reducible refine gate_callee (f := 9) rfl ?_); refine goesL_ (some 101) rfl rfl Tryz.func9 (by kernel_rfl) rfl #[.agg #[.bool a0_0, .slice A0_1 l0_1.length c0_1, .string a0_2, .string a0_3], .agg #[.bool a2_0, .slice A2_1 l2_1.length c2_1, .string a2_2, .string a2_3]] rfl (by (try simp only [List.map_toArray, List.map_cons, List.map_nil]); first | done | rfl | (simp only [List.length_drop, List.length_take]; rfl)) ?_; (with_reducible refine (impl_PubCompare.calls kj64 a0_0 _ _ l0_1 a0_2 a0_3 a2_0 _ _ l2_1 a2_2 a2_3 t284 t285 _ ?side1 ?side2 ?side3 ?side4 ?side5 A83.out).mono ?_); (case side1 => repeat (first | exact (Kd.V_reads' HO_257001.out).2.2 | (with_reducible refine Kd.C_alloc ?_ _) | (with_reducible refine Kd.C_drewN ?_ _) | (with_reducible refine Kd.C_drew ?_))); (case side2 => exact (Kd.V_reads' HO_257001.out).2.1); (case side3 => repeat (first | exact (Kd.V_reads' HO_259001.out).2.2 | (with_reducible refine Kd.C_alloc ?_ _) | (with_reducible refine Kd.C_drewN ?_ _) | (with_reducible refine Kd.C_drew ?_))); (case side4 => exact (Kd.V_reads' HO_259001.out).2.1); (case side5 => first | exact HG.out | exact GW.below HG.out (by repeat (first | (with_reducible first | exact HB.out | exact Below.refl _ _ | apply below_alloc | apply pw_below_drewN | apply below_drew1 | apply below_drew | refine below_set ?_ (Aside0.out (by assumption))) | exact HB.out))); rintro e w96 ⟨rfl, hb⟩; refine ⟨_, rfl, ?_⟩; have n0_ := Aside0.mk (Kd.V_below (by (with_reducible repeat (first | apply Kd.V_alloc | apply Kd.V_drewN | apply Kd.V_drew)); exact HO_257001.out) hb); have n1_ := Aside0.mk (Kd.V_below (by (with_reducible repeat (first | apply Kd.V_alloc | apply Kd.V_drewN | apply Kd.V_drew)); exact HO_258001.out) hb); have n2_ := Aside0.mk (Kd.V_below (by (with_reducible repeat (first | apply Kd.V_alloc | apply Kd.V_drewN | apply Kd.V_drew)); exact HO_259001.out) hb); have n3_ := Aside0.mk (blk_below (g := gb256) (o := .cells #[.bool a0_0, .slice A0_1 l0_1.length c0_1, .string a0_2, .string a0_3] 24 (0, 0)) (by (with_reducible repeat (first | refine blk_drewN ?_ _ | refine blk_drew ?_ | refine blk_alloc ?_ _)); exact BK256.out) hb); have n4_ := Aside0.mk (blk_below (g := gb257) (o := .cells #[.bool a1_0, .slice A1_1 l1_1.length c1_1, .string a1_2, .string a1_3] 24 (0, 0)) (by (with_reducible repeat (first | refine blk_drewN ?_ _ | refine blk_drew ?_ | refine blk_alloc ?_ _)); exact BK257.out) hb); have n5_ := Aside0.mk (blk_below (g := gb258) (o := .cells #[.bool a2_0, .slice A2_1 l2_1.length c2_1, .string a2_2, .string a2_3] 24 (0, 0)) (by (with_reducible repeat (first | refine blk_drewN ?_ _ | refine blk_drew ?_ | refine blk_alloc ?_ _)); exact BK258.out) hb); have n6_ := Aside0.mk (below_step (by repeat (first | (with_reducible first | exact HB.out | apply below_alloc | apply pw_below_drewN | apply below_drew1 | refine below_set ?_ GE256.out | refine below_set ?_ GE257.out | refine below_set ?_ GE258.out) | exact HB.out)) hb); clear HO_257001; clear HO_258001; clear HO_259001; clear BK256; clear BK257; clear BK258; clear HB; have HO_257001 := n0_; have HO_258001 := n1_; have HO_259001 := n2_; have BK256 := n3_; have BK257 := n4_; have BK258 := n5_; have HB := n6_; clear n0_ n1_ n2_ n3_ n4_ n5_ n6_; (try clear hb); (try clear hb2); (try clear hk); (try clear hi)))
                      (try simp only [Act.put, List.setIfInBounds_toArray, List.set_cons_zero, List.set_cons_succ])
                      go_cut [112] (fun v112 wc => ∃ (kq : Nat) (x112_83 : Bool), v112 = .bool x112_83 ∧ Aside0 (laws_FnSemverOrder.j3 kq x112_83 a0_0 l0_1 a0_2 a0_3 a1_0 l1_1 a1_2 a1_3 a2_0 l2_1 a2_2 a2_3 = some r) ∧ Aside0 (kq ≤ kj64) ∧ Aside0 (Kd.V k66 66 wc w.heap.size (fun k_ => ((P0_1_ k_ ∨ P1_1_ k_ ∨ P2_1_ k_) ∨ w.heap.size ≤ k_) ∧ k_ ≠ gb256 ∧ k_ ≠ gb257 ∧ k_ ≠ gb258) (.slice A0_1 l0_1.length c0_1) l0_1) ∧ Aside0 (Kd.V k66 66 wc w.heap.size (fun k_ => ((P0_1_ k_ ∨ P1_1_ k_ ∨ P2_1_ k_) ∨ w.heap.size ≤ k_) ∧ k_ ≠ gb256 ∧ k_ ≠ gb257 ∧ k_ ≠ gb258) (.slice A1_1 l1_1.length c1_1) l1_1) ∧ Aside0 (Kd.V k66 66 wc w.heap.size (fun k_ => ((P0_1_ k_ ∨ P1_1_ k_ ∨ P2_1_ k_) ∨ w.heap.size ≤ k_) ∧ k_ ≠ gb256 ∧ k_ ≠ gb257 ∧ k_ ≠ gb258) (.slice A2_1 l2_1.length c2_1) l2_1) ∧ Aside0 (wc.heap[gb256]? = some (.cells #[.bool a0_0, (.slice A0_1 l0_1.length c0_1), .string a0_2, .string a0_3] 24 (0, 0))) ∧ Aside0 (wc.heap[gb257]? = some (.cells #[.bool a1_0, (.slice A1_1 l1_1.length c1_1), .string a1_2, .string a1_3] 24 (0, 0))) ∧ Aside0 (wc.heap[gb258]? = some (.cells #[.bool a2_0, (.slice A2_1 l2_1.length c2_1), .string a2_2, .string a2_3] 24 (0, 0))) ∧ Aside0 (Below w.heap.size w wc))
                      case first =>
                        have H := HC84.out
                        clear HC84
                        by_cases c97 : t285 = true
                        · subst c97
                          have H1 : ((laws_chained.f kj64 t280 t282 t284).bind fun t286 => (laws_FnSemverOrder.j3 kj64 (!t286) a0_0 l0_1 a0_2 a0_3 a1_0 l1_1 a1_2 a1_3 a2_0 l2_1 a2_2 a2_3)) = some r := by rw [if_pos rfl] at H; exact H
                          clear H
                          have H := H1
                          clear H1
                          replace H := Option.bind_eq_some_iff.mp H
                          obtain ⟨t286, A980, H⟩ := H
                          replace H : (laws_FnSemverOrder.j3 kj64 (!t286) a0_0 l0_1 a0_2 a0_3 a1_0 l1_1 a1_2 a1_3 a2_0 l2_1 a2_2 a2_3) = some r := H
                          have A98 := Aside0.mk A980
                          clear A980
                          have H' := Aside0.mk H
                          clear H
                          go_wp2_with (first | (go_at_call 12; (with_reducible refine (laws_chained.calls kj64 t280 t282 t284 t286 _ A98.out).mono ?_); rintro e w' ⟨rfl, ⟨nd, rfl⟩⟩))
                          go_meet
                          case rel => exact ⟨_, (!t286), (by first | rfl | (simp; done) | (simp [*]; done)), H', ⟨by have := HJ3.out; have := HJ38.out; have := HJ64.out; first | omega | exact Nat.le_refl _⟩, ⟨by (with_reducible repeat (first | apply Kd.V_alloc | apply Kd.V_drewN | apply Kd.V_drew)); exact HO_257001.out⟩, ⟨by (with_reducible repeat (first | apply Kd.V_alloc | apply Kd.V_drewN | apply Kd.V_drew)); exact HO_258001.out⟩, ⟨by (with_reducible repeat (first | apply Kd.V_alloc | apply Kd.V_drewN | apply Kd.V_drew)); exact HO_259001.out⟩, ⟨by (with_reducible repeat (first | refine blk_drewN ?_ _ | refine blk_drew ?_ | refine blk_alloc ?_ _)); exact BK256.out⟩, ⟨by (with_reducible repeat (first | refine blk_drewN ?_ _ | refine blk_drew ?_ | refine blk_alloc ?_ _)); exact BK257.out⟩, ⟨by (with_reducible repeat (first | refine blk_drewN ?_ _ | refine blk_drew ?_ | refine blk_alloc ?_ _)); exact BK258.out⟩, ⟨by repeat (first | (with_reducible first | exact HB.out | apply below_alloc | apply pw_below_drewN | apply below_drew1 | refine below_set ?_ GE256.out | refine below_set ?_ GE257.out | refine below_set ?_ GE258.out) | exact HB.out)⟩⟩
                        · replace c97 := Bool.eq_false_iff.mpr c97
                          subst c97
                          have H1 : (laws_FnSemverOrder.j3 kj64 true a0_0 l0_1 a0_2 a0_3 a1_0 l1_1 a1_2 a1_3 a2_0 l2_1 a2_2 a2_3) = some r := by rw [if_neg (show ¬ (false = true) by decide)] at H; exact H
                          clear H
                          have H := H1
                          clear H1
                          have H' := Aside0.mk H
                          clear H
                          go_wp2
                          go_meet
                          case rel => exact ⟨_, (true), (by first | rfl | (simp; done) | (simp [*]; done)), H', ⟨by have := HJ3.out; have := HJ38.out; have := HJ64.out; first | omega | exact Nat.le_refl _⟩, ⟨by (with_reducible repeat (first | apply Kd.V_alloc | apply Kd.V_drewN | apply Kd.V_drew)); exact HO_257001.out⟩, ⟨by (with_reducible repeat (first | apply Kd.V_alloc | apply Kd.V_drewN | apply Kd.V_drew)); exact HO_258001.out⟩, ⟨by (with_reducible repeat (first | apply Kd.V_alloc | apply Kd.V_drewN | apply Kd.V_drew)); exact HO_259001.out⟩, ⟨by (with_reducible repeat (first | refine blk_drewN ?_ _ | refine blk_drew ?_ | refine blk_alloc ?_ _)); exact BK256.out⟩, ⟨by (with_reducible repeat (first | refine blk_drewN ?_ _ | refine blk_drew ?_ | refine blk_alloc ?_ _)); exact BK257.out⟩, ⟨by (with_reducible repeat (first | refine blk_drewN ?_ _ | refine blk_drew ?_ | refine blk_alloc ?_ _)); exact BK258.out⟩, ⟨by repeat (first | (with_reducible first | exact HB.out | apply below_alloc | apply pw_below_drewN | apply below_drew1 | refine below_set ?_ GE256.out | refine below_set ?_ GE257.out | refine below_set ?_ GE258.out) | exact HB.out)⟩⟩
                      case rest =>
                        clear HC84
                        try clear c1
                        try clear c2
                        try clear p2
                        try clear c3
                        try clear c4
                        try clear c5
                        try clear c6
                        try clear c7
                        try clear c8
                        try clear c9
                        try clear c11
                        try clear c13
                        try clear c14
                        try clear c17
                        try clear c22
                        try clear c23
                        try clear c26
                        try clear c29
                        try clear c30
                        try clear c33
                        try clear c35
                        try clear c40
                        try clear c41
                        try clear c43
                        try clear c59
                        try clear c61
                        try clear c66
                        try clear c67
                        try clear c69
                        try clear c78
                        try clear c80
                        try clear c85
                        try clear c86
                        try clear c88
                        try clear c97
                        try clear hcz15_0
                        try clear hcz15_1
                        try clear hcz15_2
                        try clear hcz15_3
                        try clear hcz18_0
                        try clear hcz18_1
                        try clear hcz18_2
                        try clear hcz18_3
                        try clear hcz20_0
                        try clear hcz20_1
                        try clear hcz20_2
                        try clear hcz20_3
                        try clear hcz24_0
                        try clear hcz24_1
                        try clear hcz24_2
                        try clear hcz24_3
                        try clear hcz27_0
                        try clear hcz27_1
                        try clear hcz27_2
                        try clear hcz27_3
                        try clear hcz31_0
                        try clear hcz31_1
                        try clear hcz31_2
                        try clear hcz31_3
                        try clear hcz42_0
                        try clear hcz42_1
                        try clear hcz42_2
                        try clear hcz42_3
                        try clear hcz44_0
                        try clear hcz44_1
                        try clear hcz44_2
                        try clear hcz44_3
                        try clear hcz45_0
                        try clear hcz45_1
                        try clear hcz45_2
                        try clear hcz45_3
                        try clear hcz50_0
                        try clear hcz50_1
                        try clear hcz50_2
                        try clear hcz50_3
                        try clear hcz51_0
                        try clear hcz51_1
                        try clear hcz51_2
                        try clear hcz51_3
                        try clear hcz53_0
                        try clear hcz53_1
                        try clear hcz53_2
                        try clear hcz53_3
                        try clear hcz54_0
                        try clear hcz54_1
                        try clear hcz54_2
                        try clear hcz54_3
                        try clear hcz56_0
                        try clear hcz56_1
                        try clear hcz56_2
                        try clear hcz56_3
                        try clear hcz57_0
                        try clear hcz57_1
                        try clear hcz57_2
                        try clear hcz57_3
                        try clear hcz68_0
                        try clear hcz68_1
                        try clear hcz68_2
                        try clear hcz68_3
                        try clear hcz70_0
                        try clear hcz70_1
                        try clear hcz70_2
                        try clear hcz70_3
                        try clear hcz72_0
                        try clear hcz72_1
                        try clear hcz72_2
                        try clear hcz72_3
                        try clear hcz73_0
                        try clear hcz73_1
                        try clear hcz73_2
                        try clear hcz73_3
                        try clear hcz75_0
                        try clear hcz75_1
                        try clear hcz75_2
                        try clear hcz75_3
                        try clear hcz76_0
                        try clear hcz76_1
                        try clear hcz76_2
                        try clear hcz76_3
                        try clear hcz87_0
                        try clear hcz87_1
                        try clear hcz87_2
                        try clear hcz87_3
                        try clear hcz89_0
                        try clear hcz89_1
                        try clear hcz89_2
                        try clear hcz89_3
                        try clear hcz91_0
                        try clear hcz91_1
                        try clear hcz91_2
                        try clear hcz91_3
                        try clear hcz92_0
                        try clear hcz92_1
                        try clear hcz92_2
                        try clear hcz92_3
                        try clear hcz94_0
                        try clear hcz94_1
                        try clear hcz94_2
                        try clear hcz94_3
                        try clear hcz95_0
                        try clear hcz95_1
                        try clear hcz95_2
                        try clear hcz95_3
                        try clear hfz15_0
                        try clear hfz15_1
                        try clear hfz15_2
                        try clear hfz15_3
                        try clear hfz18_0
                        try clear hfz18_1
                        try clear hfz18_2
                        try clear hfz18_3
                        try clear hfz20_0
                        try clear hfz20_1
                        try clear hfz20_2
                        try clear hfz20_3
                        try clear hfz24_0
                        try clear hfz24_1
                        try clear hfz24_2
                        try clear hfz24_3
                        try clear hfz27_0
                        try clear hfz27_1
                        try clear hfz27_2
                        try clear hfz27_3
                        try clear hfz31_0
                        try clear hfz31_1
                        try clear hfz31_2
                        try clear hfz31_3
                        try clear hfz42_0
                        try clear hfz42_1
                        try clear hfz42_2
                        try clear hfz42_3
                        try clear hfz44_0
                        try clear hfz44_1
                        try clear hfz44_2
                        try clear hfz44_3
                        try clear hfz45_0
                        try clear hfz45_1
                        try clear hfz45_2
                        try clear hfz45_3
                        try clear hfz50_0
                        try clear hfz50_1
                        try clear hfz50_2
                        try clear hfz50_3
                        try clear hfz51_0
                        try clear hfz51_1
                        try clear hfz51_2
                        try clear hfz51_3
                        try clear hfz53_0
                        try clear hfz53_1
                        try clear hfz53_2
                        try clear hfz53_3
                        try clear hfz54_0
                        try clear hfz54_1
                        try clear hfz54_2
                        try clear hfz54_3
                        try clear hfz56_0
                        try clear hfz56_1
                        try clear hfz56_2
                        try clear hfz56_3
                        try clear hfz57_0
                        try clear hfz57_1
                        try clear hfz57_2
                        try clear hfz57_3
                        try clear hfz68_0
                        try clear hfz68_1
                        try clear hfz68_2
                        try clear hfz68_3
                        try clear hfz70_0
                        try clear hfz70_1
                        try clear hfz70_2
                        try clear hfz70_3
                        try clear hfz72_0
                        try clear hfz72_1
                        try clear hfz72_2
                        try clear hfz72_3
                        try clear hfz73_0
                        try clear hfz73_1
                        try clear hfz73_2
                        try clear hfz73_3
                        try clear hfz75_0
                        try clear hfz75_1
                        try clear hfz75_2
                        try clear hfz75_3
                        try clear hfz76_0
                        try clear hfz76_1
                        try clear hfz76_2
                        try clear hfz76_3
                        try clear hfz87_0
                        try clear hfz87_1
                        try clear hfz87_2
                        try clear hfz87_3
                        try clear hfz89_0
                        try clear hfz89_1
                        try clear hfz89_2
                        try clear hfz89_3
                        try clear hfz91_0
                        try clear hfz91_1
                        try clear hfz91_2
                        try clear hfz91_3
                        try clear hfz92_0
                        try clear hfz92_1
                        try clear hfz92_2
                        try clear hfz92_3
                        try clear hfz94_0
                        try clear hfz94_1
                        try clear hfz94_2
                        try clear hfz94_3
                        try clear hfz95_0
                        try clear hfz95_1
                        try clear hfz95_2
                        try clear hfz95_3
                        try clear p2
                        obtain ⟨kq, x112_83, rfl, HA, HJ83, HO_257001, HO_258001, HO_259001, BK256, BK257, BK258, HB⟩ := hcut
                        cases kq with
                        | zero => exact absurd HA.out (by simp [laws_FnSemverOrder.j3])
                        | succ kj83 =>
                          have H := HA.out
                          clear HA
                          simp only [laws_FnSemverOrder.j3] at H
                          by_cases c99 : x112_83 = true
                          · subst c99
                            have H1 : (some false) = some r := by rw [if_pos rfl] at H; exact H
                            clear H
                            have H := H1
                            clear H1
                            obtain rfl := Option.some.inj H
                            go_wp2
                            go_ret
                            exact ⟨by first | rfl | (simp [errW_none, errW_some] <;> rfl) | (simp [*, errW_none, errW_some] <;> rfl), by repeat (first | (with_reducible first | exact HB.out | apply below_alloc | apply pw_below_drewN | apply below_drew1 | refine below_set ?_ GE256.out | refine below_set ?_ GE257.out | refine below_set ?_ GE258.out) | exact HB.out)⟩
                          · replace c99 := Bool.eq_false_iff.mpr c99
                            subst c99
                            have H1 : ((impl_HackageCompare.f kj83 a0_0 l0_1 a0_2 a0_3 a1_0 l1_1 a1_2 a1_3).bind fun bt287 => ((impl_HackageCompare.f kj83 a1_0 l1_1 a1_2 a1_3 a2_0 l2_1 a2_2 a2_3).bind fun bt289 => ((impl_HackageCompare.f kj83 a0_0 l0_1 a0_2 a0_3 a2_0 l2_1 a2_2 a2_3).bind fun bt291 => (if bt291.2 = true then ((laws_chained.f kj83 bt287.1 bt289.1 bt291.1).bind fun t293 => (some t293)) else (some false))))) = some r := by rw [if_neg (show ¬ (false = true) by decide)] at H; exact H
                            clear H
                            have H := H1
                            clear H1
                            replace H := Option.bind_eq_some_iff.mp H
                            obtain ⟨⟨t287, t288⟩, A1000, H⟩ := H
                            replace H : ((impl_HackageCompare.f kj83 a1_0 l1_1 a1_2 a1_3 a2_0 l2_1 a2_2 a2_3).bind fun bt289 => ((impl_HackageCompare.f kj83 a0_0 l0_1 a0_2 a0_3 a2_0 l2_1 a2_2 a2_3).bind fun bt291 => (if bt291.2 = true then ((laws_chained.f kj83 t287 bt289.1 bt291.1).bind fun t293 => (some t293)) else (some false)))) = some r := H
                            have A100 := Aside0.mk A1000
                            clear A1000
                            replace H := Option.bind_eq_some_iff.mp H
                            obtain ⟨⟨t289, t290⟩, A1010, H⟩ := H
                            replace H : ((impl_HackageCompare.f kj83 a0_0 l0_1 a0_2 a0_3 a2_0 l2_1 a2_2 a2_3).bind fun bt291 => (if bt291.2 = true then ((laws_chained.f kj83 t287 t289 bt291.1).bind fun t293 => (some t293)) else (some false))) = some r := H
                            have A101 := Aside0.mk A1010
                            clear A1010
                            replace H := Option.bind_eq_some_iff.mp H
                            obtain ⟨⟨t291, t292⟩, A1020, H⟩ := H
                            replace H : (if t292 = true then ((laws_chained.f kj83 t287 t289 t291).bind fun t293 => (some t293)) else (some false)) = some r := H
                            have A102 := Aside0.mk A1020
                            clear A1020
                            by_cases c103 : t292 = true
                            · subst c103
                              have H1 : ((laws_chained.f kj83 t287 t289 t291).bind fun t293 => (some t293)) = some r := by rw [if_pos rfl] at H; exact H
                              clear H
                              have H := H1
                              clear H1
                              replace H := Option.bind_eq_some_iff.mp H
                              obtain ⟨t293, A1040, H⟩ := H
                              replace H : (some t293) = some r := H
                              have A104 := Aside0.mk A1040
                              clear A1040
                              obtain rfl := Option.some.inj H
                              have hnb105 := NB256_257.out
                              have hnc105 := NB257_256.out
                              have hnb106 := NB256_258.out
                              have hnc106 := NB258_256.out
                              have hcz107_0 : wc.cell? ⟨gb256, 0, none⟩ = some (.bool a0_0) := (blk_cell BK256.out 0).trans rfl
                              have hcz107_1 : wc.cell? ⟨gb256, 1, none⟩ = some (.slice A0_1 l0_1.length c0_1) := (blk_cell BK256.out 1).trans rfl
                              have hcz107_2 : wc.cell? ⟨gb256, 2, none⟩ = some (.string a0_2) := (blk_cell BK256.out 2).trans rfl
                              have hcz107_3 : wc.cell? ⟨gb256, 3, none⟩ = some (.string a0_3) := (blk_cell BK256.out 3).trans rfl
                              have hfz107_0 := blk_frozen BK256.out 0
                              have hfz107_1 := blk_frozen BK256.out 1
                              have hfz107_2 := blk_frozen BK256.out 2
                              have hfz107_3 := blk_frozen BK256.out 3
                              have hnb108 := NB257_258.out
                              have hnc108 := NB258_257.out
                              have hcz109_0 : wc.cell? ⟨gb257, 0, none⟩ = some (.bool a1_0) := (blk_cell BK257.out 0).trans rfl
                              have hcz109_1 : wc.cell? ⟨gb257, 1, none⟩ = some (.slice A1_1 l1_1.length c1_1) := (blk_cell BK257.out 1).trans rfl
                              have hcz109_2 : wc.cell? ⟨gb257, 2, none⟩ = some (.string a1_2) := (blk_cell BK257.out 2).trans rfl
                              have hcz109_3 : wc.cell? ⟨gb257, 3, none⟩ = some (.string a1_3) := (blk_cell BK257.out 3).trans rfl
                              have hfz109_0 := blk_frozen BK257.out 0
                              have hfz109_1 := blk_frozen BK257.out 1
                              have hfz109_2 := blk_frozen BK257.out 2
                              have hfz109_3 := blk_frozen BK257.out 3
                              go_wp2_with (first | ((with_reducible refine gate_callee (f := 14) rfl ?_); refine goesL_ (some 116) rfl rfl Tryz.func14 (by kernel_rfl) rfl #[.agg #[.bool a0_0, .slice A0_1 l0_1.length c0_1, .string a0_2, .string a0_3], .agg #[.bool a1_0, .slice A1_1 l1_1.length c1_1, .string a1_2, .string a1_3]] rfl (by (try simp only [List.map_toArray, List.map_cons, List.map_nil]); first | done | rfl | (simp only [List.length_drop, List.length_take]; rfl)) ?_; (with_reducible refine (impl_HackageCompare.calls kj83 a0_0 _ _ l0_1 a0_2 a0_3 a1_0 _ _ l1_1 a1_2 a1_3 t287 t288 _ ?side1 ?side2 ?side3 ?side4 ?side5 A100.out).mono ?_); (case side1 => repeat (first | exact (Kd.V_reads' HO_257001.out).2.2 | (with_reducible refine Kd.C_alloc ?_ _) | (with_reducible refine Kd.C_drewN ?_ _) | (with_reducible refine Kd.C_drew ?_))); (case side2 => exact (Kd.V_reads' HO_257001.out).2.1); (case side3 => repeat (first | exact (Kd.V_reads' HO_258001.out).2.2 | (with_reducible refine Kd.C_alloc ?_ _) | (with_reducible refine Kd.C_drewN ?_ _) | (with_reducible refine Kd.C_drew ?_))); (case side4 => exact (Kd.V_reads' HO_258001.out).2.1); (case side5 => first | exact HG.out | exact GW.below HG.out (by repeat (first | (with_reducible first | exact HB.out | exact Below.refl _ _ | apply below_alloc | apply pw_below_drewN | apply below_drew1 | apply below_drew | refine below_set ?_ (Aside0.out (by assumption))) | exact HB.out))); rintro e w110 ⟨rfl, hb⟩; refine ⟨_, rfl, ?_⟩; have n0_ := Aside0.mk (Kd.V_below (by (with_reducible repeat (first | apply Kd.V_alloc | apply Kd.V_drewN | apply Kd.V_drew)); exact HO_257001.out) hb); have n1_ := Aside0.mk (Kd.V_below (by (with_reducible repeat (first | apply Kd.V_alloc | apply Kd.V_drewN | apply Kd.V_drew)); exact HO_258001.out) hb); have n2_ := Aside0.mk (Kd.V_below (by (with_reducible repeat (first | apply Kd.V_alloc | apply Kd.V_drewN | apply Kd.V_drew)); exact HO_259001.out) hb); have n3_ := Aside0.mk (blk_below (g := gb256) (o := .cells #[.bool a0_0, .slice A0_1 l0_1.length c0_1, .string a0_2, .string a0_3] 24 (0, 0)) (by (with_reducible repeat (first | refine blk_drewN ?_ _ | refine blk_drew ?_ | refine blk_alloc ?_ _)); exact BK256.out) hb); have n4_ := Aside0.mk (blk_below (g := gb257) (o := .cells #[.bool a1_0, .slice A1_1 l1_1.length c1_1, .string a1_2, .string a1_3] 24 (0, 0)) (by (with_reducible repeat (first | refine blk_drewN ?_ _ | refine blk_drew ?_ | refine blk_alloc ?_ _)); exact BK257.out) hb); have n5_ := Aside0.mk (blk_below (g := gb258) (o := .cells #[.bool a2_0, .slice A2_1 l2_1.length c2_1, .string a2_2, .string a2_3] 24 (0, 0)) (by (with_reducible repeat (first | refine blk_drewN ?_ _ | refine blk_drew ?_ | refine blk_alloc ?_ _)); exact BK258.out) hb); have n6_ := Aside0.mk (below_step (by repeat (first | (with_reducible first | exact HB.out | apply below_alloc | apply pw_below_drewN | apply below_drew1 | refine below_set ?_ GE256.out | refine below_set ?_ GE257.out | refine below_set ?_ GE258.out) | exact HB.out)) hb); clear HO_257001; clear HO_258001; clear HO_259001; clear BK256; clear BK257; clear BK258; clear HB; have HO_257001 := n0_; have HO_258001 := n1_; have HO_259001 := n2_; have BK256 := n3_; have BK257 := n4_; have BK258 := n5_; have HB := n6_; clear n0_ n1_ n2_ n3_ n4_ n5_ n6_; (try clear hb); (try clear hb2); (try clear hk); (try clear hi); have hcz111_0 : w110.cell? ⟨gb257, 0, none⟩ = some (.bool a1_0) := (blk_cell BK257.out 0).trans rfl; have hcz111_1 : w110.cell? ⟨gb257, 1, none⟩ = some (.slice A1_1 l1_1.length c1_1) := (blk_cell BK257.out 1).trans rfl; have hcz111_2 : w110.cell? ⟨gb257, 2, none⟩ = some (.string a1_2) := (blk_cell BK257.out 2).trans rfl; have hcz111_3 : w110.cell? ⟨gb257, 3, none⟩ = some (.string a1_3) := (blk_cell BK257.out 3).trans rfl; have hfz111_0 := blk_frozen BK257.out 0; have hfz111_1 := blk_frozen BK257.out 1; have hfz111_2 := blk_frozen BK257.out 2; have hfz111_3 := blk_frozen BK257.out 3; have hcz112_0 : w110.cell? ⟨gb258, 0, none⟩ = some (.bool a2_0) := (blk_cell BK258.out 0).trans rfl; have hcz112_1 : w110.cell? ⟨gb258, 1, none⟩ = some (.slice A2_1 l2_1.length c2_1) := (blk_cell BK258.out 1).trans rfl; have hcz112_2 : w110.cell? ⟨gb258, 2, none⟩ = some (.string a2_2) := (blk_cell BK258.out 2).trans rfl; have hcz112_3 : w110.cell? ⟨gb258, 3, none⟩ = some (.string a2_3) := (blk_cell BK258.out 3).trans rfl; have hfz112_0 := blk_frozen BK258.out 0; have hfz112_1 := blk_frozen BK258.out 1; have hfz112_2 := blk_frozen BK258.out 2; have hfz112_3 := blk_frozen BK258.out 3) | ((with_reducible refine gate_callee (f := 14) rfl ?_); refine goesL_ (some 122) rfl rfl Tryz.func14 (by kernel_rfl) rfl #[.agg #[.bool a1_0, .slice A1_1 l1_1.length c1_1, .string a1_2, .string a1_3], .agg #[.bool a2_0, .slice A2_1 l2_1.length c2_1, .string a2_2, .string a2_3]] rfl (by (try simp only [List.map_toArray, List.map_cons, List.map_nil]); first | done | rfl | (simp only [List.length_drop, List.length_take]; rfl)) ?_; (with_reducible refine (impl_HackageCompare.calls kj83 a1_0 _ _ l1_1 a1_2 a1_3 a2_0 _ _ l2_1 a2_2 a2_3 t289 t290 _ ?side1 ?side2 ?side3 ?side4 ?side5 A101.out).mono ?_); (case side1 => repeat (first | exact (Kd.V_reads' HO_258001.out).2.2 | (with_reducible refine Kd.C_alloc ?_ _) | (with_reducible refine Kd.C_drewN ?_ _) | (with_reducible refine Kd.C_drew ?_))); (case side2 => exact (Kd.V_reads' HO_258001.out).2.1); (case side3 => repeat (first | exact (Kd.V_reads' HO_259001.out).2.2 | (with_reducible refine Kd.C_alloc ?_ _) | (with_reducible refine Kd.C_drewN ?_ _) | (with_reducible refine Kd.C_drew ?_))); (case side4 => exact (Kd.V_reads' HO_259001.out).2.1); (case side5 => first | exact HG.out | exact GW.below HG.out (by repeat (first | (with_reducible first | exact HB.out | exact Below.refl _ _ | apply below_alloc | apply pw_below_drewN | apply below_drew1 | apply below_drew | refine below_set ?_ (Aside0.out (by assumption))) | exact HB.out))); rintro e w113 ⟨rfl, hb⟩; refine ⟨_, rfl, ?_⟩; have n0_ := Aside0.mk (Kd.V_below (by (with_reducible repeat (first | apply Kd.V_alloc | apply Kd.V_drewN | apply Kd.V_drew)); exact HO_257001.out) hb); have n1_ := Aside0.mk (Kd.V_below (by (with_reducible repeat (first | apply Kd.V_alloc | apply Kd.V_drewN | apply Kd.V_drew)); exact HO_258001.out) hb); have n2_ := Aside0.mk (Kd.V_below (by (with_reducible repeat (first | apply Kd.V_alloc | apply Kd.V_drewN | apply Kd.V_drew)); exact HO_259001.out) hb); have n3_ := Aside0.mk (blk_below (g := gb256) (o := .cells #[.bool a0_0, .slice A0_1 l0_1.length c0_1, .string a0_2, .string a0_3] 24 (0, 0)) (by (with_reducible repeat (first | refine blk_drewN ?_ _ | refine blk_drew ?_ | refine blk_alloc ?_ _)); exact BK256.out) hb); have n4_ := Aside0.mk (blk_below (g := gb257) (o := .cells #[.bool a1_0, .slice A1_1 l1_1.length c1_1, .string a1_2, .string a1_3] 24 (0, 0)) (by (with_reducible repeat (first | refine blk_drewN ?_ _ | refine blk_drew ?_ | refine blk_alloc ?_ _)); exact BK257.out) hb); have n5_ := Aside0.mk (blk_below (g := gb258) (o := .cells #[.bool a2_0, .slice A2_1 l2_1.length c2_1, .string a2_2, .string a2_3] 24 (0, 0)) (by (with_reducible repeat (first | refine blk_drewN ?_ _ | refine blk_drew ?_ | refine blk_alloc ?_ _)); exact BK258.out) hb); have n6_ := Aside0.mk (below_step (by repeat (first | (with_reducible first | exact HB.out | apply below_alloc | apply pw_below_drewN | apply below_drew1 | refine below_set ?_ GE256.out | refine below_set ?_ GE257.out | refine below_set ?_ GE258.out) | exact HB.out)) hb); clear HO_257001; clear HO_258001; clear HO_259001; clear BK256; clear BK257; clear BK258; clear HB; have HO_257001 := n0_; have HO_258001 := n1_; have HO_259001 := n2_; have BK256 := n3_; have BK257 := n4_; have BK258 := n5_; have HB := n6_; clear n0_ n1_ n2_ n3_ n4_ n5_ n6_; (try clear hb); (try clear hb2); (try clear hk); (try clear hi); have hcz114_0 : w113.cell? ⟨gb256, 0, none⟩ = some (.bool a0_0) := (blk_cell BK256.out 0).trans rfl; have hcz114_1 : w113.cell? ⟨gb256, 1, none⟩ = some (.slice A0_1 l0_1.length c0_1) := (blk_cell BK256.out 1).trans rfl; have hcz114_2 : w113.cell? ⟨gb256, 2, none⟩ = some (.string a0_2) := (blk_cell BK256.out 2).trans rfl; have hcz114_3 : w113.cell? ⟨gb256, 3, none⟩ = some (.string a0_3) := (blk_cell BK256.out 3).trans rfl; have hfz114_0 := blk_frozen BK256.out 0; have hfz114_1 := blk_frozen BK256.out 1; have hfz114_2 := blk_frozen BK256.out 2; have hfz114_3 := blk_frozen BK256.out 3; have hcz115_0 : w113.cell? ⟨gb258, 0, none⟩ = some (.bool a2_0) := (blk_cell BK258.out 0).trans rfl; have hcz115_1 : w113.cell? ⟨gb258, 1, none⟩ = some (.slice A2_1 l2_1.length c2_1) := (blk_cell BK258.out 1).trans rfl; have hcz115_2 : w113.cell? ⟨gb258, 2, none⟩ = some (.string a2_2) := (blk_cell BK258.out 2).trans rfl; have hcz115_3 : w113.cell? ⟨gb258, 3, none⟩ = some (.string a2_3) := (blk_cell BK258.out 3).trans rfl; have hfz115_0 := blk_frozen BK258.out 0; have hfz115_1 := blk_frozen BK258.out 1; have hfz115_2 := blk_frozen BK258.out 2; have hfz115_3 := blk_frozen BK258.out 3) | ((with_reducible refine gate_callee (f := 14) rfl ?_); refine goesL_ (some 128) rfl rfl Tryz.func14 (by kernel_rfl) rfl #[.agg #[.bool a0_0, .slice A0_1 l0_1.length c0_1, .string a0_2, .string a0_3], .agg #[.bool a2_0, .slice A2_1 l2_1.length c2_1, .string a2_2, .string a2_3]] rfl (by (try simp only [List.map_toArray, List.map_cons, List.map_nil]); first | done | rfl | (simp only [List.length_drop, List.length_take]; rfl)) ?_; (with_reducible refine (impl_HackageCompare.calls kj83 a0_0 _ _ l0_1 a0_2 a0_3 a2_0 _ _ l2_1 a2_2 a2_3 t291 true _ ?side1 ?side2 ?side3 ?side4 ?side5 A102.out).mono ?_); (case side1 => repeat (first | exact (Kd.V_reads' HO_257001.out).2.2 | (with_reducible refine Kd.C_alloc ?_ _) | (with_reducible refine Kd.C_drewN ?_ _) | (with_reducible refine Kd.C_drew ?_))); (case side2 => exact (Kd.V_reads' HO_257001.out).2.1); (case side3 => repeat (first | exact (Kd.V_reads' HO_259001.out).2.2 | (with_reducible refine Kd.C_alloc ?_ _) | (with_reducible refine Kd.C_drewN ?_ _) | (with_reducible refine Kd.C_drew ?_))); (case side4 => exact (Kd.V_reads' HO_259001.out).2.1); (case side5 => first | exact HG.out | exact GW.below HG.out (by repeat (first | (with_reducible first | exact HB.out | exact Below.refl _ _ | apply below_alloc | apply pw_below_drewN | apply below_drew1 | apply below_drew | refine below_set ?_ (Aside0.out (by assumption))) | exact HB.out))); rintro e w116 ⟨rfl, hb⟩; refine ⟨_, rfl, ?_⟩; have n0_ := Aside0.mk (Kd.V_below (by (with_reducible repeat (first | apply Kd.V_alloc | apply Kd.V_drewN | apply Kd.V_drew)); exact HO_257001.out) hb); have n1_ := Aside0.mk (Kd.V_below (by (with_reducible repeat (first | apply Kd.V_alloc | apply Kd.V_drewN | apply Kd.V_drew)); exact HO_258001.out) hb); have n2_ := Aside0.mk (Kd.V_below (by (with_reducible repeat (first | apply Kd.V_alloc | apply Kd.V_drewN | apply Kd.V_drew)); exact HO_259001.out) hb); have n3_ := Aside0.mk (blk_below (g := gb256) (o := .cells #[.bool a0_0, .slice A0_1 l0_1.length c0_1, .string a0_2, .string a0_3] 24 (0, 0)) (by (with_reducible repeat (first | refine blk_drewN ?_ _ | refine blk_drew ?_ | refine blk_alloc ?_ _)); exact BK256.out) hb); have n4_ := Aside0.mk (blk_below (g := gb257) (o := .cells #[.bool a1_0, .slice A1_1 l1_1.length c1_1, .string a1_2, .string a1_3] 24 (0, 0)) (by (with_reducible repeat (first | refine blk_drewN ?_ _ | refine blk_drew ?_ | refine blk_alloc ?_ _)); exact BK257.out) hb); have n5_ := Aside0.mk (blk_below (g := gb258) (o := .cells #[.bool a2_0, .slice A2_1 l2_1.length c2_1, .string a2_2, .string a2_3] 24 (0, 0)) (by (with_reducible repeat (first | refine blk_drewN ?_ _ | refine blk_drew ?_ | refine blk_alloc ?_ _)); exact BK258.out) hb); have n6_ := Aside0.mk (below_step (by repeat (first | (with_reducible first | exact HB.out | apply below_alloc | apply pw_below_drewN | apply below_drew1 | refine below_set ?_ GE256.out | refine below_set ?_ GE257.out | refine below_set ?_ GE258.out) | exact HB.out)) hb); clear HO_257001; clear HO_258001; clear HO_259001; clear BK256; clear BK257; clear BK258; clear HB; have HO_257001 := n0_; have HO_258001 := n1_; have HO_259001 := n2_; have BK256 := n3_; have BK257 := n4_; have BK258 := n5_; have HB := n6_; clear n0_ n1_ n2_ n3_ n4_ n5_ n6_; (try clear hb); (try clear hb2); (try clear hk); (try clear hi)) | (go_at_call 12; (with_reducible refine (laws_chained.calls kj83 t287 t289 t291 t293 _ A104.out).mono ?_); rintro e w' ⟨rfl, ⟨nd, rfl⟩⟩))
                              go_ret
                              exact ⟨by first | rfl | (simp [errW_none, errW_some] <;> rfl) | (simp [*, errW_none, errW_some] <;> rfl), by repeat (first | (with_reducible first | exact HB.out | apply below_alloc | apply pw_below_drewN | apply below_drew1 | refine below_set ?_ GE256.out | refine below_set ?_ GE257.out | refine below_set ?_ GE258.out) | exact HB.out)⟩
                            · replace c103 := Bool.eq_false_iff.mpr c103
                              subst c103
                              have H1 : (some false) = some r := by rw [if_neg (show ¬ (false = true) by decide)] at H; exact H
                              clear H
                              have H := H1
                              clear H1
                              obtain rfl := Option.some.inj H
                              have hnb117 := NB256_257.out
                              have hnc117 := NB257_256.out
                              have hnb118 := NB256_258.out
                              have hnc118 := NB258_256.out
                              have hcz119_0 : wc.cell? ⟨gb256, 0, none⟩ = some (.bool a0_0) := (blk_cell BK256.out 0).trans rfl
                              have hcz119_1 : wc.cell? ⟨gb256, 1, none⟩ = some (.slice A0_1 l0_1.length c0_1) := (blk_cell BK256.out 1).trans rfl
                              have hcz119_2 : wc.cell? ⟨gb256, 2, none⟩ = some (.string a0_2) := (blk_cell BK256.out 2).trans rfl
                              have hcz119_3 : wc.cell? ⟨gb256, 3, none⟩ = some (.string a0_3) := (blk_cell BK256.out 3).trans rfl
                              have hfz119_0 := blk_frozen BK256.out 0
                              have hfz119_1 := blk_frozen BK256.out 1
                              have hfz119_2 := blk_frozen BK256.out 2
                              have hfz119_3 := blk_frozen BK256.out 3
                              have hnb120 := NB257_258.out
                              have hnc120 := NB258_257.out
                              have hcz121_0 : wc.cell? ⟨gb257, 0, none⟩ = some (.bool a1_0) := (blk_cell BK257.out 0).trans rfl
                              have hcz121_1 : wc.cell? ⟨gb257, 1, none⟩ = some (.slice A1_1 l1_1.length c1_1) := (blk_cell BK257.out 1).trans rfl
                              have hcz121_2 : wc.cell? ⟨gb257, 2, none⟩ = some (.string a1_2) := (blk_cell BK257.out 2).trans rfl
                              have hcz121_3 : wc.cell? ⟨gb257, 3, none⟩ = some (.string a1_3) := (blk_cell BK257.out 3).trans rfl
                              have hfz121_0 := blk_frozen BK257.out 0
                              have hfz121_1 := blk_frozen BK257.out 1
                              have hfz121_2 := blk_frozen BK257.out 2
                              have hfz121_3 := blk_frozen BK257.out 3
                              go_wp2_with (first | ((with_reducible refine gate_callee (f := 14) rfl ?_); refine goesL_ (some 116) rfl rfl Tryz.func14 (by kernel_rfl) rfl #[.agg #[.bool a0_0, .slice A0_1 l0_1.length c0_1, .string a0_2, .string a0_3], .agg #[.bool a1_0, .slice A1_1 l1_1.length c1_1, .string a1_2, .string a1_3]] rfl (by (try simp only [List.map_toArray, List.map_cons, List.map_nil]); first | done | rfl | (simp only [List.length_drop, List.length_take]; rfl)) ?_; (with_reducible refine (impl_HackageCompare.calls kj83 a0_0 _ _ l0_1 a0_2 a0_3 a1_0 _ _ l1_1 a1_2 a1_3 t287 t288 _ ?side1 ?side2 ?side3 ?side4 ?side5 A100.out).mono ?_); (case side1 => repeat (first | exact (Kd.V_reads' HO_257001.out).2.2 | (with_reducible refine Kd.C_alloc ?_ _) | (with_reducible refine Kd.C_drewN ?_ _) | (with_reducible refine Kd.C_drew ?_))); (case side2 => exact (Kd.V_reads' HO_257001.out).2.1); (case side3 => repeat (first | exact (Kd.V_reads' HO_258001.out).2.2 | (with_reducible refine Kd.C_alloc ?_ _) | (with_reducible refine Kd.C_drewN ?_ _) | (with_reducible refine Kd.C_drew ?_))); (case side4 => exact (Kd.V_reads' HO_258001.out).2.1); (case side5 => first | exact HG.out | exact GW.below HG.out (by repeat (first | (with_reducible first | exact HB.out | exact Below.refl _ _ | apply below_alloc | apply pw_below_drewN | apply below_drew1 | apply below_drew | refine below_set ?_ (Aside0.out (by assumption))) | exact HB.out))); rintro e w122 ⟨rfl, hb⟩; refine ⟨_, rfl, ?_⟩; have n0_ := Aside0.mk (Kd.V_below (by (with_reducible repeat (first | apply Kd.V_alloc | apply Kd.V_drewN | apply Kd.V_drew)); exact HO_257001.out) hb); have n1_ := Aside0.mk (Kd.V_below (by (with_reducible repeat (first | apply Kd.V_alloc | apply Kd.V_drewN | apply Kd.V_drew)); exact HO_258001.out) hb); have n2_ := Aside0.mk (Kd.V_below (by (with_reducible repeat (first | apply Kd.V_alloc | apply Kd.V_drewN | apply Kd.V_drew)); exact HO_259001.out) hb); have n3_ := Aside0.mk (blk_below (g := gb256) (o := .cells #[.bool a0_0, .slice A0_1 l0_1.length c0_1, .string a0_2, .string a0_3] 24 (0, 0)) (by (with_reducible repeat (first | refine blk_drewN ?_ _ | refine blk_drew ?_ | refine blk_alloc ?_ _)); exact BK256.out) hb); have n4_ := Aside0.mk (blk_below (g := gb257) (o := .cells #[.bool a1_0, .slice A1_1 l1_1.length c1_1, .string a1_2, .string a1_3] 24 (0, 0)) (by (with_reducible repeat (first | refine blk_drewN ?_ _ | refine blk_drew ?_ | refine blk_alloc ?_ _)); exact BK257.out) hb); have n5_ := Aside0.mk (blk_below (g := gb258) (o := .cells #[.bool a2_0, .slice A2_1 l2_1.length c2_1, .string a2_2, .string a2_3] 24 (0, 0)) (by (with_reducible repeat (first | refine blk_drewN ?_ _ | refine blk_drew ?_ | refine blk_alloc ?_ _)); exact BK258.out) hb); have n6_ := Aside0.mk (below_step (by repeat (first | (with_reducible first | exact HB.out | apply below_alloc | apply pw_below_drewN | apply below_drew1 | refine below_set ?_ GE256.out | refine below_set ?_ GE257.out | refine below_set ?_ GE258.out) | exact HB.out)) hb); clear HO_257001; clear HO_258001; clear HO_259001; clear BK256; clear BK257; clear BK258; clear HB; have HO_257001 := n0_; have HO_258001 := n1_; have HO_259001 := n2_; have BK256 := n3_; have BK257 := n4_; have BK258 := n5_; have HB := n6_; clear n0_ n1_ n2_ n3_ n4_ n5_ n6_; (try clear hb); (try clear hb2); (try clear hk); (try clear hi); have hcz123_0 : w122.cell? ⟨gb257, 0, none⟩ = some (.bool a1_0) := (blk_cell BK257.out 0).trans rfl; have hcz123_1 : w122.cell? ⟨gb257, 1, none⟩ = some (.slice A1_1 l1_1.length c1_1) := (blk_cell BK257.out 1).trans rfl; have hcz123_2 : w122.cell? ⟨gb257, 2, none⟩ = some (.string a1_2) := (blk_cell BK257.out 2).trans rfl; have hcz123_3 : w122.cell? ⟨gb257, 3, none⟩ = some (.string a1_3) := (blk_cell BK257.out 3).trans rfl; have hfz123_0 := blk_frozen BK257.out 0; have hfz123_1 := blk_frozen BK257.out 1; have hfz123_2 := blk_frozen BK257.out 2; have hfz123_3 := blk_frozen BK257.out 3; have hcz124_0 : w122.cell? ⟨gb258, 0, none⟩ = some (.bool a2_0) := (blk_cell BK258.out 0).trans rfl; have hcz124_1 : w122.cell? ⟨gb258, 1, none⟩ = some (.slice A2_1 l2_1.length c2_1) := (blk_cell BK258.out 1).trans rfl; have hcz124_2 : w122.cell? ⟨gb258, 2, none⟩ = some (.string a2_2) := (blk_cell BK258.out 2).trans rfl; have hcz124_3 : w122.cell? ⟨gb258, 3, none⟩ = some (.string a2_3) := (blk_cell BK258.out 3).trans rfl; have hfz124_0 := blk_frozen BK258.out 0; have hfz124_1 := blk_frozen BK258.out 1; have hfz124_2 := blk_frozen BK258.out 2; have hfz124_3 := blk_frozen BK258.out 3) | ((with_reducible refine gate_callee (f := 14) rfl ?_); refine goesL_ (some 122) rfl rfl Tryz.func14 (by kernel_rfl) rfl #[.agg #[.bool a1_0, .slice A1_1 l1_1.length c1_1, .string a1_2, .string a1_3], .agg #[.bool a2_0, .slice A2_1 l2_1.length c2_1, .string a2_2, .string a2_3]] rfl (by (try simp only [List.map_toArray, List.map_cons, List.map_nil]); first | done | rfl | (simp only [List.length_drop, List.length_take]; rfl)) ?_; (with_reducible refine (impl_HackageCompare.calls kj83 a1_0 _ _ l1_1 a1_2 a1_3 a2_0 _ _ l2_1 a2_2 a2_3 t289 t290 _ ?side1 ?side2 ?side3 ?side4 ?side5 A101.out).mono ?_); (case side1 => repeat (first | exact (Kd.V_reads' HO_258001.out).2.2 | (with_reducible refine Kd.C_alloc ?_ _) | (with_reducible refine Kd.C_drewN ?_ _) | (with_reducible refine Kd.C_drew ?_))); (case side2 => exact (Kd.V_reads' HO_258001.out).2.1); (case side3 => repeat (first | exact (Kd.V_reads' HO_259001.out).2.2 | (with_reducible refine Kd.C_alloc ?_ _) | (with_reducible refine Kd.C_drewN ?_ _) | (with_reducible refine Kd.C_drew ?_))); (case side4 => exact (Kd.V_reads' HO_259001.out).2.1); (case side5 => first | exact HG.out | exact GW.below HG.out (by repeat (first | (with_reducible first | exact HB.out | exact Below.refl _ _ | apply below_alloc | apply pw_below_drewN | apply below_drew1 | apply below_drew | refine below_set ?_ (Aside0.out (by assumption))) | exact HB.out))); rintro e w125 ⟨rfl, hb⟩; refine ⟨_, rfl, ?_⟩; have n0_ := Aside0.mk (Kd.V_below (by (with_reducible repeat (first | apply Kd.V_alloc | apply Kd.V_drewN | apply Kd.V_drew)); exact HO_257001.out) hb); have n1_ := Aside0.mk (Kd.V_below (by (with_reducible repeat (first | apply Kd.V_alloc | apply Kd.V_drewN | apply Kd.V_drew)); exact HO_258001.out) hb); have n2_ := Aside0.mk (Kd.V_below (by (with_reducible repeat (first | apply Kd.V_alloc | apply Kd.V_drewN | apply Kd.V_drew)); exact HO_259001.out) hb); have n3_ := Aside0.mk (blk_below (g := gb256) (o := .cells #[.bool a0_0, .slice A0_1 l0_1.length c0_1, .string a0_2, .string a0_3] 24 (0, 0)) (by (with_reducible repeat (first | refine blk_drewN ?_ _ | refine blk_drew ?_ | refine blk_alloc ?_ _)); exact BK256.out) hb); have n4_ := Aside0.mk (blk_below (g := gb257) (o := .cells #[.bool a1_0, .slice A1_1 l1_1.length c1_1, .string a1_2, .string a1_3] 24 (0, 0)) (by (with_reducible repeat (first | refine blk_drewN ?_ _ | refine blk_drew ?_ | refine blk_alloc ?_ _)); exact BK257.out) hb); have n5_ := Aside0.mk (blk_below (g := gb258) (o := .cells #[.bool a2_0, .slice A2_1 l2_1.length c2_1, .string a2_2, .string a2_3] 24 (0, 0)) (by (with_reducible repeat (first | refine blk_drewN ?_ _ | refine blk_drew ?_ | refine blk_alloc ?_ _)); exact BK258.out) hb); have n6_ := Aside0.mk (below_step (by repeat (first | (with_reducible first | exact HB.out | apply below_alloc | apply pw_below_drewN | apply below_drew1 | refine below_set ?_ GE256.out | refine below_set ?_ GE257.out | refine below_set ?_ GE258.out) | exact HB.out)) hb); clear HO_257001; clear HO_258001; clear HO_259001; clear BK256; clear BK257; clear BK258; clear HB; have HO_257001 := n0_; have HO_258001 := n1_; have HO_259001 := n2_; have BK256 := n3_; have BK257 := n4_; have BK258 := n5_; have HB := n6_; clear n0_ n1_ n2_ n3_ n4_ n5_ n6_; (try clear hb); (try clear hb2); (try clear hk); (try clear hi); have hcz126_0 : w125.cell? ⟨gb256, 0, none⟩ = some (.bool a0_0) := (blk_cell BK256.out 0).trans rfl; have hcz126_1 : w125.cell? ⟨gb256, 1, none⟩ = some (.slice A0_1 l0_1.length c0_1) := (blk_cell BK256.out 1).trans rfl; have hcz126_2 : w125.cell? ⟨gb256, 2, none⟩ = some (.string a0_2) := (blk_cell BK256.out 2).trans rfl; have hcz126_3 : w125.cell? ⟨gb256, 3, none⟩ = some (.string a0_3) := (blk_cell BK256.out 3).trans rfl; have hfz126_0 := blk_frozen BK256.out 0; have hfz126_1 := blk_frozen BK256.out 1; have hfz126_2 := blk_frozen BK256.out 2; have hfz126_3 := blk_frozen BK256.out 3; have hcz127_0 : w125.cell? ⟨gb258, 0, none⟩ = some (.bool a2_0) := (blk_cell BK258.out 0).trans rfl; have hcz127_1 : w125.cell? ⟨gb258, 1, none⟩ = some (.slice A2_1 l2_1.length c2_1) := (blk_cell BK258.out 1).trans rfl; have hcz127_2 : w125.cell? ⟨gb258, 2, none⟩ = some (.string a2_2) := (blk_cell BK258.out 2).trans rfl; have hcz127_3 : w125.cell? ⟨gb258, 3, none⟩ = some (.string a2_3) := (blk_cell BK258.out 3).trans rfl; have hfz127_0 := blk_frozen BK258.out 0; have hfz127_1 := blk_frozen BK258.out 1; have hfz127_2 := blk_frozen BK258.out 2; have hfz127_3 := blk_frozen BK258.out 3) | ((with_reducible refine gate_callee (f := 14) rfl ?_); refine goesL_ (some 128) rfl rfl Tryz.func14 (by kernel_rfl) rfl #[.agg #[.bool a0_0, .slice A0_1 l0_1.length c0_1, .string a0_2, .string a0_3], .agg #[.bool a2_0, .slice A2_1 l2_1.length c2_1, .string a2_2, .string a2_3]] rfl (by (try simp only [List.map_toArray, List.map_cons, List.map_nil]); first | done | rfl | (simp only [List.length_drop, List.length_take]; rfl)) ?_; (with_reducible refine (impl_HackageCompare.calls kj83 a0_0 _ _ l0_1 a0_2 a0_3 a2_0 _ _ l2_1 a2_2 a2_3 t291 false _ ?side1 ?side2 ?side3 ?side4 ?side5 A102.out).mono ?_); (case side1 => repeat (first | exact (Kd.V_reads' HO_257001.out).2.2 | (with_reducible refine Kd.C_alloc ?_ _) | (with_reducible refine Kd.C_drewN ?_ _) | (with_reducible refine Kd.C_drew ?_))); (case side2 => exact (Kd.V_reads' HO_257001.out).2.1); (case side3 => repeat (first | exact (Kd.V_reads' HO_259001.out).2.2 | (with_reducible refine Kd.C_alloc ?_ _) | (with_reducible refine Kd.C_drewN ?_ _) | (with_reducible refine Kd.C_drew ?_))); (case side4 => exact (Kd.V_reads' HO_259001.out).2.1); (case side5 => first | exact HG.out | exact GW.below HG.out (by repeat (first | (with_reducible first | exact HB.out | exact Below.refl _ _ | apply below_alloc | apply pw_below_drewN | apply below_drew1 | apply below_drew | refine below_set ?_ (Aside0.out (by assumption))) | exact HB.out))); rintro e w128 ⟨rfl, hb⟩; refine ⟨_, rfl, ?_⟩; have n0_ := Aside0.mk (Kd.V_below (by (with_reducible repeat (first | apply Kd.V_alloc | apply Kd.V_drewN | apply Kd.V_drew)); exact HO_257001.out) hb); have n1_ := Aside0.mk (Kd.V_below (by (with_reducible repeat (first | apply Kd.V_alloc | apply Kd.V_drewN | apply Kd.V_drew)); exact HO_258001.out) hb); have n2_ := Aside0.mk (Kd.V_below (by (with_reducible repeat (first | apply Kd.V_alloc | apply Kd.V_drewN | apply Kd.V_drew)); exact HO_259001.out) hb); have n3_ := Aside0.mk (blk_below (g := gb256) (o := .cells #[.bool a0_0, .slice A0_1 l0_1.length c0_1, .string a0_2, .string a0_3] 24 (0, 0)) (by (with_reducible repeat (first | refine blk_drewN ?_ _ | refine blk_drew ?_ | refine blk_alloc ?_ _)); exact BK256.out) hb); have n4_ := Aside0.mk (blk_below (g := gb257) (o := .cells #[.bool a1_0, .slice A1_1 l1_1.length c1_1, .string a1_2, .string a1_3] 24 (0, 0)) (by (with_reducible repeat (first | refine blk_drewN ?_ _ | refine blk_drew ?_ | refine blk_alloc ?_ _)); exact BK257.out) hb); have n5_ := Aside0.mk (blk_below (g := gb258) (o := .cells #[.bool a2_0, .slice A2_1 l2_1.length c2_1, .string a2_2, .string a2_3] 24 (0, 0)) (by (with_reducible repeat (first | refine blk_drewN ?_ _ | refine blk_drew ?_ | refine blk_alloc ?_ _)); exact BK258.out) hb); have n6_ := Aside0.mk (below_step (by repeat (first | (with_reducible first | exact HB.out | apply below_alloc | apply pw_below_drewN | apply below_drew1 | refine below_set ?_ GE256.out | refine below_set ?_ GE257.out | refine below_set ?_ GE258.out) | exact HB.out)) hb); clear HO_257001; clear HO_258001; clear HO_259001; clear BK256; clear BK257; clear BK258; clear HB; have HO_257001 := n0_; have HO_258001 := n1_; have HO_259001 := n2_; have BK256 := n3_; have BK257 := n4_; have BK258 := n5_; have HB := n6_; clear n0_ n1_ n2_ n3_ n4_ n5_ n6_; (try clear hb); (try clear hb2); (try clear hk); (try clear hi)))
                              go_ret
                              exact ⟨by first | rfl | (simp [errW_none, errW_some] <;> rfl) | (simp [*, errW_none, errW_some] <;> rfl), by repeat (first | (with_reducible first | exact HB.out | apply below_alloc | apply pw_below_drewN | apply below_drew1 | refine below_set ?_ GE256.out | refine below_set ?_ GE257.out | refine below_set ?_ GE258.out) | exact HB.out)⟩
        · replace c35 := Bool.eq_false_iff.mpr c35
          subst c35
          have H1 : (some true) = some r := by rw [if_neg (show ¬ (false = true) by decide)] at H; exact H
          clear H
          have H := H1
          clear H1
          obtain rfl := Option.some.inj H
          have hnb129 := NB256_257.out
          have hnc129 := NB257_256.out
          have hnb130 := NB256_258.out
          have hnc130 := NB258_256.out
          have hcz131_0 : wc.cell? ⟨gb256, 0, none⟩ = some (.bool a0_0) := (blk_cell BK256.out 0).trans rfl
          have hcz131_1 : wc.cell? ⟨gb256, 1, none⟩ = some (.slice A0_1 l0_1.length c0_1) := (blk_cell BK256.out 1).trans rfl
          have hcz131_2 : wc.cell? ⟨gb256, 2, none⟩ = some (.string a0_2) := (blk_cell BK256.out 2).trans rfl
          have hcz131_3 : wc.cell? ⟨gb256, 3, none⟩ = some (.string a0_3) := (blk_cell BK256.out 3).trans rfl
          have hfz131_0 := blk_frozen BK256.out 0
          have hfz131_1 := blk_frozen BK256.out 1
          have hfz131_2 := blk_frozen BK256.out 2
          have hfz131_3 := blk_frozen BK256.out 3
          have hnb132 := NB257_258.out
          have hnc132 := NB258_257.out
          have hcz133_0 : wc.cell? ⟨gb257, 0, none⟩ = some (.bool a1_0) := (blk_cell BK257.out 0).trans rfl
          have hcz133_1 : wc.cell? ⟨gb257, 1, none⟩ = some (.slice A1_1 l1_1.length c1_1) := (blk_cell BK257.out 1).trans rfl
          have hcz133_2 : wc.cell? ⟨gb257, 2, none⟩ = some (.string a1_2) := (blk_cell BK257.out 2).trans rfl
          have hcz133_3 : wc.cell? ⟨gb257, 3, none⟩ = some (.string a1_3) := (blk_cell BK257.out 3).trans rfl
          have hfz133_0 := blk_frozen BK257.out 0
          have hfz133_1 := blk_frozen BK257.out 1
          have hfz133_2 := blk_frozen BK257.out 2
          have hfz133_3 := blk_frozen BK257.out 3
          have hcz134_0 : wc.cell? ⟨gb258, 0, none⟩ = some (.bool a2_0) := (blk_cell BK258.out 0).trans rfl
          have hcz134_1 : wc.cell? ⟨gb258, 1, none⟩ = some (.slice A2_1 l2_1.length c2_1) := (blk_cell BK258.out 1).trans rfl
          have hcz134_2 : wc.cell? ⟨gb258, 2, none⟩ = some (.string a2_2) := (blk_cell BK258.out 2).trans rfl
          have hcz134_3 : wc.cell? ⟨gb258, 3, none⟩ = some (.string a2_3) := (blk_cell BK258.out 3).trans rfl
          have hfz134_0 := blk_frozen BK258.out 0
          have hfz134_1 := blk_frozen BK258.out 1
          have hfz134_2 := blk_frozen BK258.out 2
          have hfz134_3 := blk_frozen BK258.out 3
          go_wp2_with (first | ((with_reducible refine gate_dst (N := 29) rfl ?_); refine Kd.N_lit k24 _ 24 ?hg (N' := 29) ?hd (xs := ([(⟨a0_0, l0_1, a0_2, a0_3⟩ : S24), (⟨a1_0, l1_1, a1_2, a1_3⟩ : S24), (⟨a2_0, l2_1, a2_2, a2_3⟩ : S24)] : List (S24))) (inner := [.bool a0_0, .slice A0_1 l0_1.length c0_1, .string a0_2, .string a0_3, .bool a1_0, .slice A1_1 l1_1.length c1_1, .string a1_2, .string a1_3, .bool a2_0, .slice A2_1 l2_1.length c2_1, .string a2_2, .string a2_3]) (ok := (fun k_ => ((P0_1_ k_ ∨ P1_1_ k_ ∨ P2_1_ k_) ∨ w.heap.size ≤ k_) ∧ k_ ≠ gb256 ∧ k_ ≠ gb257 ∧ k_ ≠ gb258)) (okp := (fun k_ => ((P0_1_ k_ ∨ P1_1_ k_ ∨ P2_1_ k_) ∨ w.heap.size ≤ k_) ∧ k_ ≠ gb256 ∧ k_ ≠ gb257 ∧ k_ ≠ gb258)) ?hr ?hp (fun _ hk => hk) ((show ∀ k_, wc.heap.size ≤ k_ → (fun k_ => ((P0_1_ k_ ∨ P1_1_ k_ ∨ P2_1_ k_) ∨ w.heap.size ≤ k_) ∧ k_ ≠ gb256 ∧ k_ ≠ gb257 ∧ k_ ≠ gb258) k_ from fun k_ hk => ⟨(.inr (Nat.le_trans (below_size (by repeat (first | (with_reducible first | exact HB.out | apply below_alloc | apply pw_below_drewN | apply below_drew1 | refine below_set ?_ GE256.out | refine below_set ?_ GE257.out | refine below_set ?_ GE258.out) | exact HB.out))) hk)), Kd.freshB (g := gb256) (o := .cells #[.bool a0_0, .slice A0_1 l0_1.length c0_1, .string a0_2, .string a0_3] 24 (0, 0)) (by (with_reducible repeat (first | refine blk_drewN ?_ _ | refine blk_drew ?_ | refine blk_alloc ?_ _)); exact BK256.out) k_ hk, Kd.freshB (g := gb257) (o := .cells #[.bool a1_0, .slice A1_1 l1_1.length c1_1, .string a1_2, .string a1_3] 24 (0, 0)) (by (with_reducible repeat (first | refine blk_drewN ?_ _ | refine blk_drew ?_ | refine blk_alloc ?_ _)); exact BK257.out) k_ hk, Kd.freshB (g := gb258) (o := .cells #[.bool a2_0, .slice A2_1 l2_1.length c2_1, .string a2_2, .string a2_3] 24 (0, 0)) (by (with_reducible repeat (first | refine blk_drewN ?_ _ | refine blk_drew ?_ | refine blk_alloc ?_ _)); exact BK258.out) k_ hk⟩) _ (Nat.le_refl _)) (Below.refl _ _) (Nat.le_refl _) (by simp) ?_; (case hd => rfl); (case hg => rfl); (case hr => first | (go_simp; done) | (go_simp; rfl)); (case hp => exact (Reps.c4 (show Kd.FK k24 _ _ (⟨a0_0, l0_1, a0_2, a0_3⟩ : S24) [.bool a0_0, .slice A0_1 l0_1.length c0_1, .string a0_2, .string a0_3] from (k24_mkF _ _ (⟨a0_0, l0_1, a0_2, a0_3⟩ : S24) (Kd.V_reads' (Kd.V_mono (ok' := (fun k_ => ((P0_1_ k_ ∨ P1_1_ k_ ∨ P2_1_ k_) ∨ w.heap.size ≤ k_) ∧ k_ ≠ gb256 ∧ k_ ≠ gb257 ∧ k_ ≠ gb258)) (HO_257001.out) (fun k_ hk => ⟨hk.1, ⟨hk.2.1, ⟨hk.2.2.1, hk.2.2.2⟩⟩⟩))).2.1 (Kd.V_F (Kd.V_mono (ok' := (fun k_ => ((P0_1_ k_ ∨ P1_1_ k_ ∨ P2_1_ k_) ∨ w.heap.size ≤ k_) ∧ k_ ≠ gb256 ∧ k_ ≠ gb257 ∧ k_ ≠ gb258)) (HO_257001.out) (fun k_ hk => ⟨hk.1, ⟨hk.2.1, ⟨hk.2.2.1, hk.2.2.2⟩⟩⟩))))) (Reps.c4 (show Kd.FK k24 _ _ (⟨a1_0, l1_1, a1_2, a1_3⟩ : S24) [.bool a1_0, .slice A1_1 l1_1.length c1_1, .string a1_2, .string a1_3] from (k24_mkF _ _ (⟨a1_0, l1_1, a1_2, a1_3⟩ : S24) (Kd.V_reads' (Kd.V_mono (ok' := (fun k_ => ((P0_1_ k_ ∨ P1_1_ k_ ∨ P2_1_ k_) ∨ w.heap.size ≤ k_) ∧ k_ ≠ gb256 ∧ k_ ≠ gb257 ∧ k_ ≠ gb258)) (HO_258001.out) (fun k_ hk => ⟨hk.1, ⟨hk.2.1, ⟨hk.2.2.1, hk.2.2.2⟩⟩⟩))).2.1 (Kd.V_F (Kd.V_mono (ok' := (fun k_ => ((P0_1_ k_ ∨ P1_1_ k_ ∨ P2_1_ k_) ∨ w.heap.size ≤ k_) ∧ k_ ≠ gb256 ∧ k_ ≠ gb257 ∧ k_ ≠ gb258)) (HO_258001.out) (fun k_ hk => ⟨hk.1, ⟨hk.2.1, ⟨hk.2.2.1, hk.2.2.2⟩⟩⟩))))) (Reps.c4 (show Kd.FK k24 _ _ (⟨a2_0, l2_1, a2_2, a2_3⟩ : S24) [.bool a2_0, .slice A2_1 l2_1.length c2_1, .string a2_2, .string a2_3] from (k24_mkF _ _ (⟨a2_0, l2_1, a2_2, a2_3⟩ : S24) (Kd.V_reads' (Kd.V_mono (ok' := (fun k_ => ((P0_1_ k_ ∨ P1_1_ k_ ∨ P2_1_ k_) ∨ w.heap.size ≤ k_) ∧ k_ ≠ gb256 ∧ k_ ≠ gb257 ∧ k_ ≠ gb258)) (HO_259001.out) (fun k_ hk => ⟨hk.1, ⟨hk.2.1, ⟨hk.2.2.1, hk.2.2.2⟩⟩⟩))).2.1 (Kd.V_F (Kd.V_mono (ok' := (fun k_ => ((P0_1_ k_ ∨ P1_1_ k_ ∨ P2_1_ k_) ∨ w.heap.size ≤ k_) ∧ k_ ≠ gb256 ∧ k_ ≠ gb257 ∧ k_ ≠ gb258)) (HO_259001.out) (fun k_ hk => ⟨hk.1, ⟨hk.2.1, ⟨hk.2.2.1, hk.2.2.2⟩⟩⟩))))) (Reps.none _ _))))); intro v263 w135 ho136 hb hg_ hnew_; clear hg_ hnew_; (first | rw [← Ny262.out] at ho136 | (simp only [Int.reduceToNat] at ho136; rw [← Ny262.out] at ho136)); have n0_ := Aside0.mk (Kd.V_elder' (by (with_reducible repeat (first | apply Kd.V_alloc | apply Kd.V_drewN | apply Kd.V_drew)); exact HO_257001.out) (Kd.N_base ho136) hb); have n1_ := Aside0.mk (Kd.V_elder' (by (with_reducible repeat (first | apply Kd.V_alloc | apply Kd.V_drewN | apply Kd.V_drew)); exact HO_258001.out) (Kd.N_base ho136) hb); have n2_ := Aside0.mk (Kd.V_elder' (by (with_reducible repeat (first | apply Kd.V_alloc | apply Kd.V_drewN | apply Kd.V_drew)); exact HO_259001.out) (Kd.N_base ho136) hb); have n3_ := Aside0.mk (Kd.N_lower ho136 (below_size (by repeat (first | (with_reducible first | exact HB.out | apply below_alloc | apply pw_below_drewN | apply below_drew1 | refine below_set ?_ GE256.out | refine below_set ?_ GE257.out | refine below_set ?_ GE258.out) | exact HB.out)))); have n4_ := Aside0.mk (blk_below (g := gb256) (o := .cells #[.bool a0_0, .slice A0_1 l0_1.length c0_1, .string a0_2, .string a0_3] 24 (0, 0)) (by (with_reducible repeat (first | refine blk_drewN ?_ _ | refine blk_drew ?_ | refine blk_alloc ?_ _)); exact BK256.out) hb); have n5_ := Aside0.mk (blk_below (g := gb257) (o := .cells #[.bool a1_0, .slice A1_1 l1_1.length c1_1, .string a1_2, .string a1_3] 24 (0, 0)) (by (with_reducible repeat (first | refine blk_drewN ?_ _ | refine blk_drew ?_ | refine blk_alloc ?_ _)); exact BK257.out) hb); have n6_ := Aside0.mk (blk_below (g := gb258) (o := .cells #[.bool a2_0, .slice A2_1 l2_1.length c2_1, .string a2_2, .string a2_3] 24 (0, 0)) (by (with_reducible repeat (first | refine blk_drewN ?_ _ | refine blk_drew ?_ | refine blk_alloc ?_ _)); exact BK258.out) hb); have n7_ := Aside0.mk (below_step (by repeat (first | (with_reducible first | exact HB.out | apply below_alloc | apply pw_below_drewN | apply below_drew1 | refine below_set ?_ GE256.out | refine below_set ?_ GE257.out | refine below_set ?_ GE258.out) | exact HB.out)) hb); clear HO_257001; clear HO_258001; clear HO_259001; clear BK256; clear BK257; clear BK258; clear HB; have HO_257001 := n0_; have HO_258001 := n1_; have HO_259001 := n2_; have HO264 := n3_; have BK256 := n4_; have BK257 := n5_; have BK258 := n6_; have HB := n7_; clear n0_ n1_ n2_ n3_ n4_ n5_ n6_ n7_; clear hb ho136; obtain ⟨Ao137, co137, eo137⟩ := Kd.N_slice HO264.out; subst eo137) | ((with_reducible refine gate_callee (f := 7) rfl ?_); refine goesL_ (some 30) rfl rfl Tryz.func7 (by kernel_rfl) rfl #[.slice Ao137 y262.length co137] rfl (by (try simp only [List.map_toArray, List.map_cons, List.map_nil]); first | done | rfl | (simp only [List.length_drop, List.length_take]; rfl)) ?_; (with_reducible refine (laws_likes.calls kj3 _ _ y262 false _ ?side1 ?side2 A34.out).mono ?_); (case side1 => repeat (first | exact (Kd.N_reads' HO264.out).2.2 | (with_reducible refine Kd.C_alloc ?_ _) | (with_reducible refine Kd.C_drewN ?_ _) | (with_reducible refine Kd.C_drew ?_))); (case side2 => exact (Kd.N_reads' HO264.out).2.1); rintro e w138 ⟨rfl, hb⟩; refine ⟨_, rfl, ?_⟩; have n0_ := Aside0.mk (Kd.V_below (by (with_reducible repeat (first | apply Kd.V_alloc | apply Kd.V_drewN | apply Kd.V_drew)); exact HO_257001.out) hb); have n1_ := Aside0.mk (Kd.V_below (by (with_reducible repeat (first | apply Kd.V_alloc | apply Kd.V_drewN | apply Kd.V_drew)); exact HO_258001.out) hb); have n2_ := Aside0.mk (Kd.V_below (by (with_reducible repeat (first | apply Kd.V_alloc | apply Kd.V_drewN | apply Kd.V_drew)); exact HO_259001.out) hb); have n3_ := Aside0.mk (Kd.N_below (by (with_reducible repeat (first | apply Kd.N_alloc | apply Kd.N_drewN | apply Kd.N_drew)); exact HO264.out) hb); have n4_ := Aside0.mk (blk_below (g := gb256) (o := .cells #[.bool a0_0, .slice A0_1 l0_1.length c0_1, .string a0_2, .string a0_3] 24 (0, 0)) (by (with_reducible repeat (first | refine blk_drewN ?_ _ | refine blk_drew ?_ | refine blk_alloc ?_ _)); exact BK256.out) hb); have n5_ := Aside0.mk (blk_below (g := gb257) (o := .cells #[.bool a1_0, .slice A1_1 l1_1.length c1_1, .string a1_2, .string a1_3] 24 (0, 0)) (by (with_reducible repeat (first | refine blk_drewN ?_ _ | refine blk_drew ?_ | refine blk_alloc ?_ _)); exact BK257.out) hb); have n6_ := Aside0.mk (blk_below (g := gb258) (o := .cells #[.bool a2_0, .slice A2_1 l2_1.length c2_1, .string a2_2, .string a2_3] 24 (0, 0)) (by (with_reducible repeat (first | refine blk_drewN ?_ _ | refine blk_drew ?_ | refine blk_alloc ?_ _)); exact BK258.out) hb); have n7_ := Aside0.mk (below_step (by repeat (first | (with_reducible first | exact HB.out | apply below_alloc | apply pw_below_drewN | apply below_drew1 | refine below_set ?_ GE256.out | refine below_set ?_ GE257.out | refine below_set ?_ GE258.out) | exact HB.out)) hb); clear HO_257001; clear HO_258001; clear HO_259001; clear HO264; clear BK256; clear BK257; clear BK258; clear HB; have HO_257001 := n0_; have HO_258001 := n1_; have HO_259001 := n2_; have HO264 := n3_; have BK256 := n4_; have BK257 := n5_; have BK258 := n6_; have HB := n7_; clear n0_ n1_ n2_ n3_ n4_ n5_ n6_ n7_; (try clear hb); (try clear hb2); (try clear hk); (try clear hi)))
          go_ret
          exact ⟨by first | rfl | (simp [errW_none, errW_some] <;> rfl) | (simp [*, errW_none, errW_some] <;> rfl), by repeat (first | (with_reducible first | exact HB.out | apply below_alloc | apply pw_below_drewN | apply below_drew1 | refine below_set ?_ GE256.out | refine below_set ?_ GE257.out | refine below_set ?_ GE258.out) | exact HB.out)⟩

/-- THE ONE PURE STATEMENT of laws_FnSemverOrder. -/
def laws_FnSemverOrder.Pure : Prop := ∀ (a0_0 : Bool) (l0_1 : List (S66)) (a0_2 : ByteArray) (a0_3 : ByteArray) (a1_0 : Bool) (l1_1 : List (S66)) (a1_2 : ByteArray) (a1_3 : ByteArray) (a2_0 : Bool) (l2_1 : List (S66)) (a2_2 : ByteArray) (a2_3 : ByteArray), l0_1.length ≤ 9223372036854775807 → l1_1.length ≤ 9223372036854775807 → l2_1.length ≤ 9223372036854775807 → ∃ k, laws_FnSemverOrder.f k a0_0 l0_1 a0_2 a0_3 a1_0 l1_1 a1_2 a1_3 a2_0 l2_1 a2_2 a2_3 = some true
theorem laws_FnSemverOrder.walk (P : laws_FnSemverOrder.Pure) (a0_0 : Bool) (A0_1 : Option Addr) (c0_1 : Nat) (l0_1 : List (S66)) (a0_2 : ByteArray) (a0_3 : ByteArray) (a1_0 : Bool) (A1_1 : Option Addr) (c1_1 : Nat) (l1_1 : List (S66)) (a1_2 : ByteArray) (a1_3 : ByteArray) (a2_0 : Bool) (A2_1 : Option Addr) (c2_1 : Nat) (l2_1 : List (S66)) (a2_2 : ByteArray) (a2_3 : ByteArray) (w : World) (hm0_1 : l0_1.length ≤ 9223372036854775807) (hm1_1 : l1_1.length ≤ 9223372036854775807) (hm2_1 : l2_1.length ≤ 9223372036854775807) (hr0_1 : Kd.C k66 w A0_1 l0_1.length l0_1) (hc0_1 : l0_1.length ≤ c0_1) (hr1_1 : Kd.C k66 w A1_1 l1_1.length l1_1) (hc1_1 : l1_1.length ≤ c1_1) (hr2_1 : Kd.C k66 w A2_1 l2_1.length l2_1) (hc2_1 : l2_1.length ≤ c2_1) (hG : GW w) :
    Calls Tryz.prog 4 #[.agg #[.bool a0_0, .slice A0_1 l0_1.length c0_1, .string a0_2, .string a0_3], .agg #[.bool a1_0, .slice A1_1 l1_1.length c1_1, .string a1_2, .string a1_3], .agg #[.bool a2_0, .slice A2_1 l2_1.length c2_1, .string a2_2, .string a2_3]] w fun e w' => e = .returned (.bool true) ∧ Below w.heap.size w w' := by
  obtain ⟨k, h⟩ := P a0_0 l0_1 a0_2 a0_3 a1_0 l1_1 a1_2 a1_3 a2_0 l2_1 a2_2 a2_3 hm0_1 hm1_1 hm2_1
  refine (laws_FnSemverOrder.calls k a0_0 (fun k_ => k_ < w.heap.size) _ _ l0_1 a0_2 a0_3 a1_0 (fun k_ => k_ < w.heap.size) _ _ l1_1 a1_2 a1_3 a2_0 (fun k_ => k_ < w.heap.size) _ _ l2_1 a2_2 a2_3 true w (Kd.V_mk hc0_1 (Kd.C_F (by repeat (first | exact Kd.heap_bool | exact Kd.heap_string | exact Kd.heap_int _ | (with_reducible apply Kd.heap_iso) | (with_reducible apply Kd.heap_pair) | (with_reducible apply Kd.heap_slice) | apply Kd.heap_iso | apply Kd.heap_pair | apply Kd.heap_slice)) hr0_1)) (Kd.V_mk hc1_1 (Kd.C_F (by repeat (first | exact Kd.heap_bool | exact Kd.heap_string | exact Kd.heap_int _ | (with_reducible apply Kd.heap_iso) | (with_reducible apply Kd.heap_pair) | (with_reducible apply Kd.heap_slice) | apply Kd.heap_iso | apply Kd.heap_pair | apply Kd.heap_slice)) hr1_1)) (Kd.V_mk hc2_1 (Kd.C_F (by repeat (first | exact Kd.heap_bool | exact Kd.heap_string | exact Kd.heap_int _ | (with_reducible apply Kd.heap_iso) | (with_reducible apply Kd.heap_pair) | (with_reducible apply Kd.heap_slice) | apply Kd.heap_iso | apply Kd.heap_pair | apply Kd.heap_slice)) hr2_1)) hG h).mono ?_
  rintro e w' ⟨rfl, hd⟩
  exact ⟨rfl, hd⟩

end Go.Proofs.YtajglnedoeboaaaGreatDoor.Z
