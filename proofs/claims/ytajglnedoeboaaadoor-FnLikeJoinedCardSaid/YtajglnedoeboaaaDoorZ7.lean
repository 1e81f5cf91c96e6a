-- Written by a program of this session (myprint.py).
import Derived.Test.YtajglnedoeboaaaDoorZ0
import Derived.Test.YtajglnedoeboaaaDoorZ2
import Derived.Test.YtajglnedoeboaaaDoorZ6
import Derived.Test.YtajglnedoeboaaaDoorGe
namespace Go.Proofs.YtajglnedoeboaaaDoor.Z
open Go.Proofs.YtajglnedoeboaaaDoor.Gw
open Go.RowKit Go.Proofs.YtajglnedoeboaaaDoorW.PrintWords Go.Proofs.YtajglnedoeboaaaDoorW.PrintLast Go.Proofs.YtajglnedoeboaaaDoorW.PrintMore
attribute [local go_sem high] Go.Proofs.YtajglnedoeboaaaDoor.Ge.gtr_str
attribute [local go_sem] max2_int min2_int max_two min_two max_three min_three max_four min_four   -- for this text's walks alone
set_option linter.unusedVariables false
set_option linter.unusedSimpArgs false

/-! ### laws_FnLikeJoined: function 3 -/
mutual
def laws_FnLikeJoined.j0 : Nat → List ByteArray → ByteArray → Bool → Bool → Option (Bool)
  | 0, _, _, _, _ => none
  | k + 1, x0, x1, x2, x21 => if x21 = true then (some true) else ((laws_short.f k x0).bind fun t145 => (if t145 = true then ((laws_short.f k (([x1] : List ByteArray))).bind fun t149 => (if t149 = true then (if (x0.length : Int) = 0 then (laws_FnLikeJoined.j1 k x0 x1 x2 true) else ((laws_dotted.f k x1).bind fun t150 => (laws_FnLikeJoined.j1 k x0 x1 x2 (!t150)))) else (laws_FnLikeJoined.j1 k x0 x1 x2 true))) else (laws_FnLikeJoined.j1 k x0 x1 x2 true)))
def laws_FnLikeJoined.j1 : Nat → List ByteArray → ByteArray → Bool → Bool → Option (Bool)
  | 0, _, _, _, _ => none
  | k + 1, x0, x1, x2, x40 => if x40 = true then (some true) else (laws_FnLikeJoined.l0 k x1 x2 (⟨#[]⟩ : ByteArray) ([] : List (S28)) x0 (x0.length : Int) 0)
def laws_FnLikeJoined.l0 : Nat → ByteArray → Bool → ByteArray → List (S28) → List ByteArray → Int → Int → Option (Bool)
  | 0, _, _, _, _, _, _, _ => none
  | k + 1, x1, x2, x7, x8, x41, x42, x43 => if x43 < x42 then (if 0 ≤ x43 then (if x43 < (x41.length : Int) then ((laws_digits.f k (rdOf ByteArray.empty x41 x43)).bind fun t152 => (if t152 = true then (if x43 > 0 then (if x7.size + 1 ≤ 9223372036854775807 then (if (x7 ++ (⟨#[46]⟩ : ByteArray)).size + (rdOf ByteArray.empty x41 x43).size ≤ 9223372036854775807 then ((spec_Number.f k (rdOf ByteArray.empty x41 x43)).bind fun bt153 => (if x8.length < 5864062014805 then (laws_FnLikeJoined.l0 k x1 x2 ((x7 ++ (⟨#[46]⟩ : ByteArray)) ++ (rdOf ByteArray.empty x41 x43)) (x8 ++ [(⟨bt153.1, bt153.2.1⟩ : S28)]) x41 x42 (wrap64 (x43 + 1))) else (none))) else (none)) else (none)) else (if x7.size + (rdOf ByteArray.empty x41 x43).size ≤ 9223372036854775807 then ((spec_Number.f k (rdOf ByteArray.empty x41 x43)).bind fun bt160 => (if x8.length < 5864062014805 then (laws_FnLikeJoined.l0 k x1 x2 (x7 ++ (rdOf ByteArray.empty x41 x43)) (x8 ++ [(⟨bt160.1, bt160.2.1⟩ : S28)]) x41 x42 (wrap64 (x43 + 1))) else (none))) else (none))) else (some true))) else (none)) else (none)) else (if x2 = true then (if 1 + x7.size ≤ 9223372036854775807 then (if ((⟨#[118]⟩ : ByteArray) ++ x7).size + 1 ≤ 9223372036854775807 then (if (((⟨#[118]⟩ : ByteArray) ++ x7) ++ (⟨#[45]⟩ : ByteArray)).size + x1.size ≤ 9223372036854775807 then ((impl_LikeParse.f k ((((⟨#[118]⟩ : ByteArray) ++ x7) ++ (⟨#[45]⟩ : ByteArray)) ++ x1)).bind fun bt167 => (if (bt167.1 == x2) = true then ((laws_ints.f k bt167.2.1 x8).bind fun t174 => (if t174 = true then (if 1 + x1.size ≤ 9223372036854775807 then (if bt167.2.2.1.toList = ((⟨#[45]⟩ : ByteArray) ++ x1).toList then (some (bt167.2.2.2.toList == ((((⟨#[118]⟩ : ByteArray) ++ x7) ++ (⟨#[45]⟩ : ByteArray)) ++ x1).toList)) else (some false)) else (none)) else (some false))) else (some false))) else (none)) else (none)) else (none)) else (if x7.size + 1 ≤ 9223372036854775807 then (if (x7 ++ (⟨#[45]⟩ : ByteArray)).size + x1.size ≤ 9223372036854775807 then ((impl_LikeParse.f k ((x7 ++ (⟨#[45]⟩ : ByteArray)) ++ x1)).bind fun bt175 => (if (bt175.1 == x2) = true then ((laws_ints.f k bt175.2.1 x8).bind fun t182 => (if t182 = true then (if 1 + x1.size ≤ 9223372036854775807 then (if bt175.2.2.1.toList = ((⟨#[45]⟩ : ByteArray) ++ x1).toList then (some (bt175.2.2.2.toList == ((x7 ++ (⟨#[45]⟩ : ByteArray)) ++ x1).toList)) else (some false)) else (none)) else (some false))) else (some false))) else (none)) else (none)))
end
def laws_FnLikeJoined.f (k : Nat) (l0 : List ByteArray) (a1 : ByteArray) (a2 : Bool) : Option (Bool) := (laws_zzFits1.f k l0).bind fun t144 => (if t144 = true then (laws_FnLikeJoined.j0 k l0 a1 a2 (decide ((a1.size : Int) > 2147483647))) else (laws_FnLikeJoined.j0 k l0 a1 a2 true))
theorem laws_FnLikeJoined.mono_l : ∀ k, (∀ y0 y1 y2 y3, LeO (laws_FnLikeJoined.j0 k y0 y1 y2 y3) (laws_FnLikeJoined.j0 (k + 1) y0 y1 y2 y3)) ∧ (∀ y0 y1 y2 y3, LeO (laws_FnLikeJoined.j1 k y0 y1 y2 y3) (laws_FnLikeJoined.j1 (k + 1) y0 y1 y2 y3)) ∧ (∀ y0 y1 y2 y3 y4 y5 y6, LeO (laws_FnLikeJoined.l0 k y0 y1 y2 y3 y4 y5 y6) (laws_FnLikeJoined.l0 (k + 1) y0 y1 y2 y3 y4 y5 y6))
  | 0 => ⟨fun _ _ _ _ r h => by simp [laws_FnLikeJoined.j0] at h, fun _ _ _ _ r h => by simp [laws_FnLikeJoined.j1] at h, fun _ _ _ _ _ _ _ r h => by simp [laws_FnLikeJoined.l0] at h⟩
  | k + 1 => by
    obtain ⟨ih0, ih1, ih2⟩ := laws_FnLikeJoined.mono_l k
    refine ⟨?_, ?_, ?_⟩
    · intro y0 y1 y2 y3
      unfold laws_FnLikeJoined.j0
      repeat' first
      | (with_reducible exact ih0 _ _ _ _)
      | (with_reducible exact ih1 _ _ _ _)
      | (with_reducible exact ih2 _ _ _ _ _ _ _)
      | (with_reducible exact impl_LikeParse.mono _ _)
      | (with_reducible exact laws_digits.mono _ _)
      | (with_reducible exact laws_dotted.mono _ _)
      | (with_reducible exact laws_ints.mono _ _ _)
      | (with_reducible exact laws_short.mono _ _)
      | (with_reducible exact laws_zzFits1.mono _ _)
      | (with_reducible exact spec_Number.mono _ _)
      | (with_reducible exact LeO.refl _)
      | (with_reducible exact LeO.none _)
      | (with_reducible refine LeO.ite ?_ ?_)
      | (with_reducible refine LeO.bind ?_ (fun _ => ?_))
      | exact ih0 _ _ _ _
      | exact ih1 _ _ _ _
      | exact ih2 _ _ _ _ _ _ _
      | exact impl_LikeParse.mono _ _
      | exact laws_digits.mono _ _
      | exact laws_dotted.mono _ _
      | exact laws_ints.mono _ _ _
      | exact laws_short.mono _ _
      | exact laws_zzFits1.mono _ _
      | exact spec_Number.mono _ _
      | exact LeO.none _
      | refine LeO.ite ?_ ?_
      | refine LeO.bind ?_ (fun _ => ?_)
    · intro y0 y1 y2 y3
      unfold laws_FnLikeJoined.j1
      repeat' first
      | (with_reducible exact ih0 _ _ _ _)
      | (with_reducible exact ih1 _ _ _ _)
      | (with_reducible exact ih2 _ _ _ _ _ _ _)
      | (with_reducible exact impl_LikeParse.mono _ _)
      | (with_reducible exact laws_digits.mono _ _)
      | (with_reducible exact laws_dotted.mono _ _)
      | (with_reducible exact laws_ints.mono _ _ _)
      | (with_reducible exact laws_short.mono _ _)
      | (with_reducible exact laws_zzFits1.mono _ _)
      | (with_reducible exact spec_Number.mono _ _)
      | (with_reducible exact LeO.refl _)
      | (with_reducible exact LeO.none _)
      | (with_reducible refine LeO.ite ?_ ?_)
      | (with_reducible refine LeO.bind ?_ (fun _ => ?_))
      | exact ih0 _ _ _ _
      | exact ih1 _ _ _ _
      | exact ih2 _ _ _ _ _ _ _
      | exact impl_LikeParse.mono _ _
      | exact laws_digits.mono _ _
      | exact laws_dotted.mono _ _
      | exact laws_ints.mono _ _ _
      | exact laws_short.mono _ _
      | exact laws_zzFits1.mono _ _
      | exact spec_Number.mono _ _
      | exact LeO.none _
      | refine LeO.ite ?_ ?_
      | refine LeO.bind ?_ (fun _ => ?_)
    · intro y0 y1 y2 y3 y4 y5 y6
      unfold laws_FnLikeJoined.l0
      repeat' first
      | (with_reducible exact ih0 _ _ _ _)
      | (with_reducible exact ih1 _ _ _ _)
      | (with_reducible exact ih2 _ _ _ _ _ _ _)
      | (with_reducible exact impl_LikeParse.mono _ _)
      | (with_reducible exact laws_digits.mono _ _)
      | (with_reducible exact laws_dotted.mono _ _)
      | (with_reducible exact laws_ints.mono _ _ _)
      | (with_reducible exact laws_short.mono _ _)
      | (with_reducible exact laws_zzFits1.mono _ _)
      | (with_reducible exact spec_Number.mono _ _)
      | (with_reducible exact LeO.refl _)
      | (with_reducible exact LeO.none _)
      | (with_reducible refine LeO.ite ?_ ?_)
      | (with_reducible refine LeO.bind ?_ (fun _ => ?_))
      | exact ih0 _ _ _ _
      | exact ih1 _ _ _ _
      | exact ih2 _ _ _ _ _ _ _
      | exact impl_LikeParse.mono _ _
      | exact laws_digits.mono _ _
      | exact laws_dotted.mono _ _
      | exact laws_ints.mono _ _ _
      | exact laws_short.mono _ _
      | exact laws_zzFits1.mono _ _
      | exact spec_Number.mono _ _
      | exact LeO.none _
      | refine LeO.ite ?_ ?_
      | refine LeO.bind ?_ (fun _ => ?_)
theorem laws_FnLikeJoined.mono : ∀ a0 a1 a2 k, LeO (laws_FnLikeJoined.f k a0 a1 a2) (laws_FnLikeJoined.f (k + 1) a0 a1 a2) := by
  intro a0 a1 a2 k
  obtain ⟨ih0, ih1, ih2⟩ := laws_FnLikeJoined.mono_l k
  unfold laws_FnLikeJoined.f
  repeat' first
      | (with_reducible exact ih0 _ _ _ _)
      | (with_reducible exact ih1 _ _ _ _)
      | (with_reducible exact ih2 _ _ _ _ _ _ _)
      | (with_reducible exact impl_LikeParse.mono _ _)
      | (with_reducible exact laws_digits.mono _ _)
      | (with_reducible exact laws_dotted.mono _ _)
      | (with_reducible exact laws_ints.mono _ _ _)
      | (with_reducible exact laws_short.mono _ _)
      | (with_reducible exact laws_zzFits1.mono _ _)
      | (with_reducible exact spec_Number.mono _ _)
      | (with_reducible exact LeO.refl _)
      | (with_reducible exact LeO.none _)
      | (with_reducible refine LeO.ite ?_ ?_)
      | (with_reducible refine LeO.bind ?_ (fun _ => ?_))
      | exact ih0 _ _ _ _
      | exact ih1 _ _ _ _
      | exact ih2 _ _ _ _ _ _ _
      | exact impl_LikeParse.mono _ _
      | exact laws_digits.mono _ _
      | exact laws_dotted.mono _ _
      | exact laws_ints.mono _ _ _
      | exact laws_short.mono _ _
      | exact laws_zzFits1.mono _ _
      | exact spec_Number.mono _ _
      | exact LeO.none _
      | refine LeO.ite ?_ ?_
      | refine LeO.bind ?_ (fun _ => ?_)
set_option maxHeartbeats 8000000 in
set_option maxRecDepth 100000 in
theorem laws_FnLikeJoined.calls (k : Nat) (A0 : Option Addr) (c0 : Nat) (l0 : List ByteArray) (a1 : ByteArray) (a2 : Bool) (r : Bool) (w : World) (hr0 : Kd.C Kd.string w A0 l0.length l0) (hc0 : l0.length ≤ c0) (hG : GW w) (h : laws_FnLikeJoined.f k l0 a1 a2 = some r) :
    Calls Tryd.prog 3 #[.slice A0 l0.length c0, .string a1, .bool a2] w fun e w' => e = .returned (.bool r) ∧ Below w.heap.size w w' := by
  have HG := Aside0.mk hG
  clear hG
  have hu28 := Tryd.underlying28
  have hu32 := Tryd.underlying32
  have HR0 := Aside0.mk hr0
  have HC0 := Aside0.mk hc0
  clear hr0 hc0
  have HB := Aside0.mk (Below.refl w.heap.size w)
  have H : ((laws_zzFits1.f k l0).bind fun t144 => (if t144 = true then (laws_FnLikeJoined.j0 k l0 a1 a2 (decide ((a1.size : Int) > 2147483647))) else (laws_FnLikeJoined.j0 k l0 a1 a2 true))) = some r := h
  clear h
  have HC4 := Aside0.mk H
  clear H
  go_enter Tryd.func3, Tryd.ntmps3
  go_upto_region 1 with (fail)
  go_cut [21] (fun v21 wc => ∃ (kq : Nat) (x21_3 : Bool), v21 = .bool x21_3 ∧ Aside0 (laws_FnLikeJoined.j0 kq l0 a1 a2 x21_3 = some r) ∧ Aside0 (kq ≤ k) ∧ Aside0 (Below w.heap.size w wc))
  case first =>
    have H := HC4.out
    clear HC4
    replace H := Option.bind_eq_some_iff.mp H
    obtain ⟨t144, A50, H⟩ := H
    replace H : (if t144 = true then (laws_FnLikeJoined.j0 k l0 a1 a2 (decide ((a1.size : Int) > 2147483647))) else (laws_FnLikeJoined.j0 k l0 a1 a2 true)) = some r := H
    have A5 := Aside0.mk A50
    clear A50
    by_cases c6 : t144 = true
    · subst c6
      have H1 : (laws_FnLikeJoined.j0 k l0 a1 a2 (decide ((a1.size : Int) > 2147483647))) = some r := by rw [if_pos rfl] at H; exact H
      clear H
      have H := H1
      clear H1
      have H' := Aside0.mk H
      clear H
      go_wp2_with (first | ((with_reducible refine gate_callee (f := 5) rfl ?_); refine goesL_ (some 15) rfl rfl Tryd.func5 (by kernel_rfl) rfl #[.slice A0 l0.length c0] rfl (by (try simp only [List.map_toArray, List.map_cons, List.map_nil]); first | done | rfl | (simp only [List.length_drop, List.length_take]; rfl)) ?_; (with_reducible refine (laws_zzFits1.calls k _ _ l0 true _ ?side1 ?side2 A5.out).mono ?_); (case side1 => repeat (first | exact (Kd.C_below HR0.out HB.out) | (with_reducible refine Kd.C_alloc ?_ _) | (with_reducible refine Kd.C_drewN ?_ _) | (with_reducible refine Kd.C_drew ?_))); (case side2 => exact HC0.out); rintro e w' ⟨rfl, ⟨nd, rfl⟩⟩; refine ⟨_, rfl, ?_⟩))
      go_meet
      case rel => exact ⟨_, (decide ((a1.size : Int) > 2147483647)), (by first | rfl | (simp; done) | (simp [*]; done)), H', ⟨by first | omega | exact Nat.le_refl _⟩, ⟨by repeat (first | (with_reducible first | exact HB.out | apply below_alloc | apply pw_below_drewN | apply below_drew1) | exact HB.out)⟩⟩
    · replace c6 := Bool.eq_false_iff.mpr c6
      subst c6
      have H1 : (laws_FnLikeJoined.j0 k l0 a1 a2 true) = some r := by rw [if_neg (show ¬ (false = true) by decide)] at H; exact H
      clear H
      have H := H1
      clear H1
      have H' := Aside0.mk H
      clear H
      go_wp2_with (first | ((with_reducible refine gate_callee (f := 5) rfl ?_); refine goesL_ (some 15) rfl rfl Tryd.func5 (by kernel_rfl) rfl #[.slice A0 l0.length c0] rfl (by (try simp only [List.map_toArray, List.map_cons, List.map_nil]); first | done | rfl | (simp only [List.length_drop, List.length_take]; rfl)) ?_; (with_reducible refine (laws_zzFits1.calls k _ _ l0 false _ ?side1 ?side2 A5.out).mono ?_); (case side1 => repeat (first | exact (Kd.C_below HR0.out HB.out) | (with_reducible refine Kd.C_alloc ?_ _) | (with_reducible refine Kd.C_drewN ?_ _) | (with_reducible refine Kd.C_drew ?_))); (case side2 => exact HC0.out); rintro e w' ⟨rfl, ⟨nd, rfl⟩⟩; refine ⟨_, rfl, ?_⟩))
      go_meet
      case rel => exact ⟨_, (true), (by first | rfl | (simp; done) | (simp [*]; done)), H', ⟨by first | omega | exact Nat.le_refl _⟩, ⟨by repeat (first | (with_reducible first | exact HB.out | apply below_alloc | apply pw_below_drewN | apply below_drew1) | exact HB.out)⟩⟩
  case rest =>
    clear HC4
    try clear p2
    try clear c3
    try clear c5
    try clear c6
    obtain ⟨kq, x21_3, rfl, HA, HJ3, HB⟩ := hcut
    cases kq with
    | zero => exact absurd HA.out (by simp [laws_FnLikeJoined.j0])
    | succ kj3 =>
      have H := HA.out
      clear HA
      simp only [laws_FnLikeJoined.j0] at H
      by_cases c7 : x21_3 = true
      · subst c7
        have H1 : (some true) = some r := by rw [if_pos rfl] at H; exact H
        clear H
        have H := H1
        clear H1
        obtain rfl := Option.some.inj H
        go_wp2
        go_ret
        exact ⟨by first | rfl | (simp [errW_none, errW_some] <;> rfl) | (simp [*, errW_none, errW_some] <;> rfl), by repeat (first | (with_reducible first | exact HB.out | apply below_alloc | apply pw_below_drewN | apply below_drew1) | exact HB.out)⟩
      · replace c7 := Bool.eq_false_iff.mpr c7
        subst c7
        have H1 : ((laws_short.f kj3 l0).bind fun t145 => (if t145 = true then ((laws_short.f kj3 (([a1] : List ByteArray))).bind fun t149 => (if t149 = true then (if (l0.length : Int) = 0 then (laws_FnLikeJoined.j1 kj3 l0 a1 a2 true) else ((laws_dotted.f kj3 a1).bind fun t150 => (laws_FnLikeJoined.j1 kj3 l0 a1 a2 (!t150)))) else (laws_FnLikeJoined.j1 kj3 l0 a1 a2 true))) else (laws_FnLikeJoined.j1 kj3 l0 a1 a2 true))) = some r := by rw [if_neg (show ¬ (false = true) by decide)] at H; exact H
        clear H
        have H := H1
        clear H1
        have HC8 := Aside0.mk H
        clear H
        go_upto_region 3 with (fail)
        go_cut [40] (fun v40 wc => ∃ (kq : Nat) (x40_7 : Bool), v40 = .bool x40_7 ∧ Aside0 (laws_FnLikeJoined.j1 kq l0 a1 a2 x40_7 = some r) ∧ Aside0 (kq ≤ kj3) ∧ Aside0 (Below w.heap.size w wc))
        case first =>
          have H := HC8.out
          clear HC8
          replace H := Option.bind_eq_some_iff.mp H
          obtain ⟨t145, A90, H⟩ := H
          replace H : (if t145 = true then ((laws_short.f kj3 (([a1] : List ByteArray))).bind fun t149 => (if t149 = true then (if (l0.length : Int) = 0 then (laws_FnLikeJoined.j1 kj3 l0 a1 a2 true) else ((laws_dotted.f kj3 a1).bind fun t150 => (laws_FnLikeJoined.j1 kj3 l0 a1 a2 (!t150)))) else (laws_FnLikeJoined.j1 kj3 l0 a1 a2 true))) else (laws_FnLikeJoined.j1 kj3 l0 a1 a2 true)) = some r := H
          have A9 := Aside0.mk A90
          clear A90
          by_cases c10 : t145 = true
          · subst c10
            have H1 : ((laws_short.f kj3 (([a1] : List ByteArray))).bind fun t149 => (if t149 = true then (if (l0.length : Int) = 0 then (laws_FnLikeJoined.j1 kj3 l0 a1 a2 true) else ((laws_dotted.f kj3 a1).bind fun t150 => (laws_FnLikeJoined.j1 kj3 l0 a1 a2 (!t150)))) else (laws_FnLikeJoined.j1 kj3 l0 a1 a2 true))) = some r := by rw [if_pos rfl] at H; exact H
            clear H
            have H := H1
            clear H1
            obtain ⟨y146, hy146⟩ : ∃ y_ : List ByteArray, y_ = (([a1] : List ByteArray)) := ⟨_, rfl⟩
            replace H : ((laws_short.f kj3 y146).bind fun t149 => (if t149 = true then (if (l0.length : Int) = 0 then (laws_FnLikeJoined.j1 kj3 l0 a1 a2 true) else ((laws_dotted.f kj3 a1).bind fun t150 => (laws_FnLikeJoined.j1 kj3 l0 a1 a2 (!t150)))) else (laws_FnLikeJoined.j1 kj3 l0 a1 a2 true))) = some r := by first | (rw [hy146]; with_reducible exact H) | (have H2_ := (Option.bind_some _ _).symm.trans H; rw [hy146]; with_reducible exact H2_) | (have H2_ := (Option.bind_some _ _).symm.trans H; with_reducible exact H2_) | with_reducible exact H | (rw [hy146]; exact H) | exact H
            have Ny146 := Aside0.mk hy146
            clear hy146
            replace H := Option.bind_eq_some_iff.mp H
            obtain ⟨t149, A110, H⟩ := H
            replace H : (if t149 = true then (if (l0.length : Int) = 0 then (laws_FnLikeJoined.j1 kj3 l0 a1 a2 true) else ((laws_dotted.f kj3 a1).bind fun t150 => (laws_FnLikeJoined.j1 kj3 l0 a1 a2 (!t150)))) else (laws_FnLikeJoined.j1 kj3 l0 a1 a2 true)) = some r := H
            have A11 := Aside0.mk A110
            clear A110
            by_cases c12 : t149 = true
            · subst c12
              have H1 : (if (l0.length : Int) = 0 then (laws_FnLikeJoined.j1 kj3 l0 a1 a2 true) else ((laws_dotted.f kj3 a1).bind fun t150 => (laws_FnLikeJoined.j1 kj3 l0 a1 a2 (!t150)))) = some r := by rw [if_pos rfl] at H; exact H
              clear H
              have H := H1
              clear H1
              by_cases c13 : (l0.length : Int) = 0
              · rw [if_pos c13] at H
                have c13b0 : ((l0.length : Int) == 0) = true := beq_iff_eq.mpr c13
                have c13b1 : ((l0.length : Int) != 0) = false := bne_eq_false_iff_eq.mpr c13
                clear c13
                (first | rw [c13b0] | (simp only [i64_w, i32_w]; rw [c13b0]) | skip)
                have H' := Aside0.mk H
                clear H
                go_wp2_with (first | ((with_reducible refine gate_callee (f := 6) rfl ?_); refine goesL_ (some 23) rfl rfl Tryd.func6 (by kernel_rfl) rfl #[.slice A0 l0.length c0] rfl (by (try simp only [List.map_toArray, List.map_cons, List.map_nil]); first | done | rfl | (simp only [List.length_drop, List.length_take]; rfl)) ?_; (with_reducible refine (laws_short.calls kj3 _ _ l0 true _ ?side1 ?side2 A9.out).mono ?_); (case side1 => repeat (first | exact (Kd.C_below HR0.out HB.out) | (with_reducible refine Kd.C_alloc ?_ _) | (with_reducible refine Kd.C_drewN ?_ _) | (with_reducible refine Kd.C_drew ?_))); (case side2 => exact HC0.out); rintro e w' ⟨rfl, ⟨nd, rfl⟩⟩; refine ⟨_, rfl, ?_⟩) | ((with_reducible refine gate_dst (N := 27) rfl ?_); (try (refine gate_guard (by rfl) ?_; dsimp only)); refine Kd.R_lit Kd.string _ 9 ?hg (N := 27) ?hd (xs := ([a1] : List ByteArray)) (inner := [.string a1]) (ok := fun _ => True) (okp := fun _ => True) ?hr ?hp (fun _ hk => hk) trivial (Below.refl _ _) (Nat.le_refl _) (by simp) ?_; (case hd => rfl); (case hg => rfl); (case hr => first | (go_simp; done) | (go_simp; rfl)); (case hp => exact (Reps.one (show Kd.M Kd.string _ _ _ a1 [.string a1] from rfl) (Reps.none _ _))); intro v147 w14 ho15 hb hg_ hnew_; clear hg_ hnew_; (first | rw [← Ny146.out] at ho15 | (simp only [Int.reduceToNat] at ho15; rw [← Ny146.out] at ho15)); have n0_ := Aside0.mk (Kd.R_lower ho15 (below_size (by repeat (first | (with_reducible first | exact HB.out | apply below_alloc | apply pw_below_drewN | apply below_drew1) | exact HB.out)))); have n1_ := Aside0.mk (below_step (by repeat (first | (with_reducible first | exact HB.out | apply below_alloc | apply pw_below_drewN | apply below_drew1) | exact HB.out)) hb); clear HB; have HO148 := n0_; have HB := n1_; clear n0_ n1_; clear hb ho15; obtain ⟨Ao16, co16, eo16⟩ := Kd.R_slice HO148.out; subst eo16) | (go_at_call 6; (with_reducible refine (laws_short.calls kj3 _ _ y146 true _ ?side1 ?side2 A11.out).mono ?_); (case side1 => repeat (first | exact (Kd.R_reads' HO148.out).2.2 | (with_reducible refine Kd.C_alloc ?_ _) | (with_reducible refine Kd.C_drewN ?_ _) | (with_reducible refine Kd.C_drew ?_))); (case side2 => exact (Kd.R_reads' HO148.out).2.1); rintro e w' ⟨rfl, ⟨nd, rfl⟩⟩))
                go_meet
                case rel => exact ⟨_, (true), (by first | rfl | (simp; done) | (simp [*]; done)), H', ⟨by have := HJ3.out; first | omega | exact Nat.le_refl _⟩, ⟨by repeat (first | (with_reducible first | exact HB.out | apply below_alloc | apply pw_below_drewN | apply below_drew1) | exact HB.out)⟩⟩
              · rw [if_neg c13] at H
                have c13b0 : ((l0.length : Int) == 0) = false := beq_eq_false_iff_ne.mpr c13
                have c13b1 : ((l0.length : Int) != 0) = true := bne_iff_ne.mpr c13
                have c13b2 : ¬ (l0 = []) := fun h_ => c13 (by rw [h_]; rfl)
                (first | rw [c13b0] | (simp only [i64_w, i32_w]; rw [c13b0]) | skip)
                replace H := Option.bind_eq_some_iff.mp H
                obtain ⟨t150, A170, H⟩ := H
                replace H : (laws_FnLikeJoined.j1 kj3 l0 a1 a2 (!t150)) = some r := H
                have A17 := Aside0.mk A170
                clear A170
                have H' := Aside0.mk H
                clear H
                go_wp2_with (first | ((with_reducible refine gate_callee (f := 6) rfl ?_); refine goesL_ (some 23) rfl rfl Tryd.func6 (by kernel_rfl) rfl #[.slice A0 l0.length c0] rfl (by (try simp only [List.map_toArray, List.map_cons, List.map_nil]); first | done | rfl | (simp only [List.length_drop, List.length_take]; rfl)) ?_; (with_reducible refine (laws_short.calls kj3 _ _ l0 true _ ?side1 ?side2 A9.out).mono ?_); (case side1 => repeat (first | exact (Kd.C_below HR0.out HB.out) | (with_reducible refine Kd.C_alloc ?_ _) | (with_reducible refine Kd.C_drewN ?_ _) | (with_reducible refine Kd.C_drew ?_))); (case side2 => exact HC0.out); rintro e w' ⟨rfl, ⟨nd, rfl⟩⟩; refine ⟨_, rfl, ?_⟩) | ((with_reducible refine gate_dst (N := 27) rfl ?_); (try (refine gate_guard (by rfl) ?_; dsimp only)); refine Kd.R_lit Kd.string _ 9 ?hg (N := 27) ?hd (xs := ([a1] : List ByteArray)) (inner := [.string a1]) (ok := fun _ => True) (okp := fun _ => True) ?hr ?hp (fun _ hk => hk) trivial (Below.refl _ _) (Nat.le_refl _) (by simp) ?_; (case hd => rfl); (case hg => rfl); (case hr => first | (go_simp; done) | (go_simp; rfl)); (case hp => exact (Reps.one (show Kd.M Kd.string _ _ _ a1 [.string a1] from rfl) (Reps.none _ _))); intro v147 w18 ho19 hb hg_ hnew_; clear hg_ hnew_; (first | rw [← Ny146.out] at ho19 | (simp only [Int.reduceToNat] at ho19; rw [← Ny146.out] at ho19)); have n0_ := Aside0.mk (Kd.R_lower ho19 (below_size (by repeat (first | (with_reducible first | exact HB.out | apply below_alloc | apply pw_below_drewN | apply below_drew1) | exact HB.out)))); have n1_ := Aside0.mk (below_step (by repeat (first | (with_reducible first | exact HB.out | apply below_alloc | apply pw_below_drewN | apply below_drew1) | exact HB.out)) hb); clear HB; have HO148 := n0_; have HB := n1_; clear n0_ n1_; clear hb ho19; obtain ⟨Ao20, co20, eo20⟩ := Kd.R_slice HO148.out; subst eo20) | (go_at_call 6; (with_reducible refine (laws_short.calls kj3 _ _ y146 true _ ?side1 ?side2 A11.out).mono ?_); (case side1 => repeat (first | exact (Kd.R_reads' HO148.out).2.2 | (with_reducible refine Kd.C_alloc ?_ _) | (with_reducible refine Kd.C_drewN ?_ _) | (with_reducible refine Kd.C_drew ?_))); (case side2 => exact (Kd.R_reads' HO148.out).2.1); rintro e w' ⟨rfl, ⟨nd, rfl⟩⟩) | (go_at_call 7; (with_reducible refine (laws_dotted.calls kj3 a1 t150 _ A17.out).mono ?_); rintro e w' ⟨rfl, ⟨nd, rfl⟩⟩))
                go_meet
                case rel => exact ⟨_, (!t150), (by first | rfl | (simp; done) | (simp [*]; done)), H', ⟨by have := HJ3.out; first | omega | exact Nat.le_refl _⟩, ⟨by repeat (first | (with_reducible first | exact HB.out | apply below_alloc | apply pw_below_drewN | apply below_drew1) | exact HB.out)⟩⟩
            · replace c12 := Bool.eq_false_iff.mpr c12
              subst c12
              have H1 : (laws_FnLikeJoined.j1 kj3 l0 a1 a2 true) = some r := by rw [if_neg (show ¬ (false = true) by decide)] at H; exact H
              clear H
              have H := H1
              clear H1
              have H' := Aside0.mk H
              clear H
              go_wp2_with (first | ((with_reducible refine gate_callee (f := 6) rfl ?_); refine goesL_ (some 23) rfl rfl Tryd.func6 (by kernel_rfl) rfl #[.slice A0 l0.length c0] rfl (by (try simp only [List.map_toArray, List.map_cons, List.map_nil]); first | done | rfl | (simp only [List.length_drop, List.length_take]; rfl)) ?_; (with_reducible refine (laws_short.calls kj3 _ _ l0 true _ ?side1 ?side2 A9.out).mono ?_); (case side1 => repeat (first | exact (Kd.C_below HR0.out HB.out) | (with_reducible refine Kd.C_alloc ?_ _) | (with_reducible refine Kd.C_drewN ?_ _) | (with_reducible refine Kd.C_drew ?_))); (case side2 => exact HC0.out); rintro e w' ⟨rfl, ⟨nd, rfl⟩⟩; refine ⟨_, rfl, ?_⟩) | ((with_reducible refine gate_dst (N := 27) rfl ?_); (try (refine gate_guard (by rfl) ?_; dsimp only)); refine Kd.R_lit Kd.string _ 9 ?hg (N := 27) ?hd (xs := ([a1] : List ByteArray)) (inner := [.string a1]) (ok := fun _ => True) (okp := fun _ => True) ?hr ?hp (fun _ hk => hk) trivial (Below.refl _ _) (Nat.le_refl _) (by simp) ?_; (case hd => rfl); (case hg => rfl); (case hr => first | (go_simp; done) | (go_simp; rfl)); (case hp => exact (Reps.one (show Kd.M Kd.string _ _ _ a1 [.string a1] from rfl) (Reps.none _ _))); intro v147 w21 ho22 hb hg_ hnew_; clear hg_ hnew_; (first | rw [← Ny146.out] at ho22 | (simp only [Int.reduceToNat] at ho22; rw [← Ny146.out] at ho22)); have n0_ := Aside0.mk (Kd.R_lower ho22 (below_size (by repeat (first | (with_reducible first | exact HB.out | apply below_alloc | apply pw_below_drewN | apply below_drew1) | exact HB.out)))); have n1_ := Aside0.mk (below_step (by repeat (first | (with_reducible first | exact HB.out | apply below_alloc | apply pw_below_drewN | apply below_drew1) | exact HB.out)) hb); clear HB; have HO148 := n0_; have HB := n1_; clear n0_ n1_; clear hb ho22; obtain ⟨Ao23, co23, eo23⟩ := Kd.R_slice HO148.out; subst eo23) | (go_at_call 6; (with_reducible refine (laws_short.calls kj3 _ _ y146 false _ ?side1 ?side2 A11.out).mono ?_); (case side1 => repeat (first | exact (Kd.R_reads' HO148.out).2.2 | (with_reducible refine Kd.C_alloc ?_ _) | (with_reducible refine Kd.C_drewN ?_ _) | (with_reducible refine Kd.C_drew ?_))); (case side2 => exact (Kd.R_reads' HO148.out).2.1); rintro e w' ⟨rfl, ⟨nd, rfl⟩⟩))
              go_meet
              case rel => exact ⟨_, (true), (by first | rfl | (simp; done) | (simp [*]; done)), H', ⟨by have := HJ3.out; first | omega | exact Nat.le_refl _⟩, ⟨by repeat (first | (with_reducible first | exact HB.out | apply below_alloc | apply pw_below_drewN | apply below_drew1) | exact HB.out)⟩⟩
          · replace c10 := Bool.eq_false_iff.mpr c10
            subst c10
            have H1 : (laws_FnLikeJoined.j1 kj3 l0 a1 a2 true) = some r := by rw [if_neg (show ¬ (false = true) by decide)] at H; exact H
            clear H
            have H := H1
            clear H1
            have H' := Aside0.mk H
            clear H
            go_wp2_with (first | ((with_reducible refine gate_callee (f := 6) rfl ?_); refine goesL_ (some 23) rfl rfl Tryd.func6 (by kernel_rfl) rfl #[.slice A0 l0.length c0] rfl (by (try simp only [List.map_toArray, List.map_cons, List.map_nil]); first | done | rfl | (simp only [List.length_drop, List.length_take]; rfl)) ?_; (with_reducible refine (laws_short.calls kj3 _ _ l0 false _ ?side1 ?side2 A9.out).mono ?_); (case side1 => repeat (first | exact (Kd.C_below HR0.out HB.out) | (with_reducible refine Kd.C_alloc ?_ _) | (with_reducible refine Kd.C_drewN ?_ _) | (with_reducible refine Kd.C_drew ?_))); (case side2 => exact HC0.out); rintro e w' ⟨rfl, ⟨nd, rfl⟩⟩; refine ⟨_, rfl, ?_⟩))
            go_meet
            case rel => exact ⟨_, (true), (by first | rfl | (simp; done) | (simp [*]; done)), H', ⟨by have := HJ3.out; first | omega | exact Nat.le_refl _⟩, ⟨by repeat (first | (with_reducible first | exact HB.out | apply below_alloc | apply pw_below_drewN | apply below_drew1) | exact HB.out)⟩⟩
        case rest =>
          clear HC8
          try clear c1
          try clear p2
          try clear c3
          try clear c5
          try clear c6
          try clear c7
          try clear c10
          try clear c12
          try clear c13
          try clear c13b0
          try clear c13b1
          try clear c13b2
          try clear p2
          obtain ⟨kq, x40_7, rfl, HA, HJ7, HB⟩ := hcut
          cases kq with
          | zero => exact absurd HA.out (by simp [laws_FnLikeJoined.j1])
          | succ kj7 =>
            have H := HA.out
            clear HA
            simp only [laws_FnLikeJoined.j1] at H
            by_cases c24 : x40_7 = true
            · subst c24
              have H1 : (some true) = some r := by rw [if_pos rfl] at H; exact H
              clear H
              have H := H1
              clear H1
              obtain rfl := Option.some.inj H
              go_wp2
              go_ret
              exact ⟨by first | rfl | (simp [errW_none, errW_some] <;> rfl) | (simp [*, errW_none, errW_some] <;> rfl), by repeat (first | (with_reducible first | exact HB.out | apply below_alloc | apply pw_below_drewN | apply below_drew1) | exact HB.out)⟩
            · replace c24 := Bool.eq_false_iff.mpr c24
              subst c24
              have H1 : (laws_FnLikeJoined.l0 kj7 a1 a2 (⟨#[]⟩ : ByteArray) ([] : List (S28)) l0 (l0.length : Int) 0) = some r := by rw [if_neg (show ¬ (false = true) by decide)] at H; exact H
              clear H
              have H := H1
              clear H1
              have H' := Aside0.mk H
              clear H
              go_wp2
              go_loopg [7, 8, 43] kj7 (fun kq v7 v8 v43 w' => ∃ (x7_3 : ByteArray) (x8_3 : List (S28)) (x43_3 : Int), v7 = .string x7_3 ∧ v43 = .int .i64 x43_3 ∧ Aside0 (laws_FnLikeJoined.l0 kq a1 a2 x7_3 x8_3 l0 (l0.length : Int) x43_3 = some r) ∧ Aside0 (kq ≤ kj7) ∧ Aside0 (Kd.R k28 28 w' w.heap.size (fun _ => True) v8 x8_3) ∧ Aside0 (Below w.heap.size w w'))
              case atStart => exact ⟨((⟨#[]⟩ : ByteArray)), (([] : List (S28))), (0), (by first | rfl | (simp; done) | (simp [*]; done)), (by first | rfl | (simp; done) | (simp [*]; done)), H', ⟨Nat.le_refl _⟩, ⟨by first | exact Kd.R_nil _ _ _ _ _ | exact Kd.N_nil _ _ _ _ _ | exact Kd.V_nil _ _ _ _ _ | exact Kd.Q_nil _ _ _ _ _ | exact Kd.S_nil _ _ _ _ _⟩, ⟨by repeat (first | (with_reducible first | exact HB.out | apply below_alloc | apply pw_below_drewN | apply below_drew1) | exact HB.out)⟩⟩
              case round =>
                clear H'
                try clear c1
                try clear c2
                try clear p2
                try clear c3
                try clear c5
                try clear c6
                try clear c7
                try clear c10
                try clear c12
                try clear c13
                try clear c13b0
                try clear c13b1
                try clear c13b2
                try clear c24
                try clear p2
                obtain ⟨x7_3, x8_3, x43_3, rfl, rfl, HA, HK3, HO_8, HB⟩ := hrel
                cases gk with
                | zero => exact absurd HA.out (by simp [laws_FnLikeJoined.l0])
                | succ k3 =>
                  have H := HA.out
                  clear HA
                  simp only [laws_FnLikeJoined.l0] at H
                  by_cases c25 : x43_3 < (l0.length : Int)
                  · rw [if_pos c25] at H
                    have c25b0 : decide (x43_3 < (l0.length : Int)) = true := decide_eq_true c25
                    clear c25
                    by_cases c26 : 0 ≤ x43_3
                    · rw [if_pos c26] at H
                      have c26b0 : decide (0 ≤ x43_3) = true := decide_eq_true c26
                      clear c26
                      by_cases c27 : x43_3 < (l0.length : Int)
                      · rw [if_pos c27] at H
                        have c27b0 : decide (x43_3 < (l0.length : Int)) = true := decide_eq_true c27
                        clear c27
                        replace H := Option.bind_eq_some_iff.mp H
                        obtain ⟨t152, A280, H⟩ := H
                        replace H : (if t152 = true then (if x43_3 > 0 then (if x7_3.size + 1 ≤ 9223372036854775807 then (if (x7_3 ++ (⟨#[46]⟩ : ByteArray)).size + (rdOf ByteArray.empty l0 x43_3).size ≤ 9223372036854775807 then ((spec_Number.f k3 (rdOf ByteArray.empty l0 x43_3)).bind fun bt153 => (if x8_3.length < 5864062014805 then (laws_FnLikeJoined.l0 k3 a1 a2 ((x7_3 ++ (⟨#[46]⟩ : ByteArray)) ++ (rdOf ByteArray.empty l0 x43_3)) (x8_3 ++ [(⟨bt153.1, bt153.2.1⟩ : S28)]) l0 (l0.length : Int) (wrap64 (x43_3 + 1))) else (none))) else (none)) else (none)) else (if x7_3.size + (rdOf ByteArray.empty l0 x43_3).size ≤ 9223372036854775807 then ((spec_Number.f k3 (rdOf ByteArray.empty l0 x43_3)).bind fun bt160 => (if x8_3.length < 5864062014805 then (laws_FnLikeJoined.l0 k3 a1 a2 (x7_3 ++ (rdOf ByteArray.empty l0 x43_3)) (x8_3 ++ [(⟨bt160.1, bt160.2.1⟩ : S28)]) l0 (l0.length : Int) (wrap64 (x43_3 + 1))) else (none))) else (none))) else (some true)) = some r := H
                        have A28 := Aside0.mk A280
                        clear A280
                        by_cases c29 : t152 = true
                        · subst c29
                          have H1 : (if x43_3 > 0 then (if x7_3.size + 1 ≤ 9223372036854775807 then (if (x7_3 ++ (⟨#[46]⟩ : ByteArray)).size + (rdOf ByteArray.empty l0 x43_3).size ≤ 9223372036854775807 then ((spec_Number.f k3 (rdOf ByteArray.empty l0 x43_3)).bind fun bt153 => (if x8_3.length < 5864062014805 then (laws_FnLikeJoined.l0 k3 a1 a2 ((x7_3 ++ (⟨#[46]⟩ : ByteArray)) ++ (rdOf ByteArray.empty l0 x43_3)) (x8_3 ++ [(⟨bt153.1, bt153.2.1⟩ : S28)]) l0 (l0.length : Int) (wrap64 (x43_3 + 1))) else (none))) else (none)) else (none)) else (if x7_3.size + (rdOf ByteArray.empty l0 x43_3).size ≤ 9223372036854775807 then ((spec_Number.f k3 (rdOf ByteArray.empty l0 x43_3)).bind fun bt160 => (if x8_3.length < 5864062014805 then (laws_FnLikeJoined.l0 k3 a1 a2 (x7_3 ++ (rdOf ByteArray.empty l0 x43_3)) (x8_3 ++ [(⟨bt160.1, bt160.2.1⟩ : S28)]) l0 (l0.length : Int) (wrap64 (x43_3 + 1))) else (none))) else (none))) = some r := by rw [if_pos rfl] at H; exact H
                          clear H
                          have H := H1
                          clear H1
                          by_cases c30 : x43_3 > 0
                          · rw [if_pos c30] at H
                            have c30b0 : decide (0 < x43_3) = true := decide_eq_true c30
                            clear c30
                            by_cases c31 : x7_3.size + 1 ≤ 9223372036854775807
                            · rw [if_pos c31] at H
                              have c31b0 := eq_true c31
                              have c31b1 : decide (x7_3.size + 1 ≤ 9223372036854775807) = true := decide_eq_true c31
                              try have c31b2 : (9223372036854775807 < x7_3.size + 1) = False := eq_false (Nat.not_lt.2 c31)
                              by_cases c32 : (x7_3 ++ (⟨#[46]⟩ : ByteArray)).size + (rdOf ByteArray.empty l0 x43_3).size ≤ 9223372036854775807
                              · rw [if_pos c32] at H
                                have c32b0 := eq_true c32
                                have c32b1 : decide ((x7_3 ++ (⟨#[46]⟩ : ByteArray)).size + (rdOf ByteArray.empty l0 x43_3).size ≤ 9223372036854775807) = true := decide_eq_true c32
                                try have c32b2 : (9223372036854775807 < (x7_3 ++ (⟨#[46]⟩ : ByteArray)).size + (rdOf ByteArray.empty l0 x43_3).size) = False := eq_false (Nat.not_lt.2 c32)
                                try (have c32b3 := c32b2; simp [ByteArray.size_append, show (⟨#[46]⟩ : ByteArray).size = 1 from rfl] at c32b3; replace c32b3 := eq_false (Nat.not_lt.2 c32b3))
                                try have c32b4 : (9223372036854775807 < x7_3.size + 1 + ((rdOf ByteArray.empty l0 x43_3).size)) = False := eq_false (Nat.not_lt.2 (by have h_ := c32; simp only [ByteArray.size_append] at h_; exact h_))
                                replace H := Option.bind_eq_some_iff.mp H
                                obtain ⟨⟨t153, t154, t155⟩, A330, H⟩ := H
                                replace H : (if x8_3.length < 5864062014805 then (laws_FnLikeJoined.l0 k3 a1 a2 ((x7_3 ++ (⟨#[46]⟩ : ByteArray)) ++ (rdOf ByteArray.empty l0 x43_3)) (x8_3 ++ [(⟨t153, t154⟩ : S28)]) l0 (l0.length : Int) (wrap64 (x43_3 + 1))) else (none)) = some r := H
                                have A33 := Aside0.mk A330
                                clear A330
                                by_cases c34 : x8_3.length < 5864062014805
                                · rw [if_pos c34] at H
                                  have LMc34 := Aside0.mk c34
                                  clear c34
                                  obtain ⟨y157, hy157⟩ : ∃ y_ : List (S28), y_ = (x8_3 ++ [(⟨t153, t154⟩ : S28)]) := ⟨_, rfl⟩
                                  replace H : (laws_FnLikeJoined.l0 k3 a1 a2 ((x7_3 ++ (⟨#[46]⟩ : ByteArray)) ++ (rdOf ByteArray.empty l0 x43_3)) y157 l0 (l0.length : Int) (wrap64 (x43_3 + 1))) = some r := by first | (rw [hy157]; with_reducible exact H) | (have H2_ := (Option.bind_some _ _).symm.trans H; rw [hy157]; with_reducible exact H2_) | (have H2_ := (Option.bind_some _ _).symm.trans H; with_reducible exact H2_) | with_reducible exact H | (rw [hy157]; exact H) | exact H
                                  have Ny157 := Aside0.mk hy157
                                  clear hy157
                                  have H' := Aside0.mk H
                                  clear H
                                  have p151 : 0 ≤ (x43_3 : Int) := of_decide_eq_true (by first | (with_reducible assumption) | assumption)
                                  have q151 : x43_3 < (l0.length : Int) := of_decide_eq_true (by first | (with_reducible assumption) | assumption)
                                  obtain ⟨ad151, e151, hx151_0⟩ := Kd.at_string HR0.out x43_3 p151 q151
                                  cases e151
                                  replace hx151_0 := (HB.out.cell (World.block_lt_of_cell? w _ hx151_0)).trans hx151_0
                                  replace p151 := eq_true p151
                                  replace q151 := eq_true q151
                                  go_wp2_with (first | ((with_reducible refine gate_callee (f := 8) rfl ?_); refine goesL_ (some 49) rfl rfl Tryd.func8 (by kernel_rfl) rfl #[.string (rdOf ByteArray.empty l0 x43_3)] rfl (by (try simp only [List.map_toArray, List.map_cons, List.map_nil]); first | done | rfl | (simp only [List.length_drop, List.length_take]; rfl)) ?_; (with_reducible refine (laws_digits.calls k3 (rdOf ByteArray.empty l0 x43_3) true _ A28.out).mono ?_); rintro e w' ⟨rfl, ⟨nd, rfl⟩⟩; refine ⟨_, rfl, ?_⟩; (try (rw [drewN_self wr]; generalize hq_ : World.drewN wr _ = wr; have n0_ : Aside0 (Kd.R k28 28 wr w.heap.size (fun _ => True) u8 x8_3) := ⟨by rw [← hq_]; exact (by (with_reducible repeat (first | apply Kd.R_alloc | apply Kd.R_drewN | apply Kd.R_drew)); exact HO_8.out)⟩; have n1_ : Aside0 (Below w.heap.size w wr) := ⟨by rw [← hq_]; exact (by repeat (first | (with_reducible first | exact HB.out | apply below_alloc | apply pw_below_drewN | apply below_drew1) | exact HB.out))⟩; clear HO_8 HB hq_; have HO_8 := n0_; have HB := n1_; clear n0_ n1_))) | ((with_reducible refine gate_callee (f := 9) rfl ?_); refine goesL_ (some 60) rfl rfl Tryd.func9 (by kernel_rfl) rfl #[.string (rdOf ByteArray.empty l0 x43_3)] rfl (by (try simp only [List.map_toArray, List.map_cons, List.map_nil]); first | done | rfl | (simp only [List.length_drop, List.length_take]; rfl)) ?_; (with_reducible refine (spec_Number.calls k3 (rdOf ByteArray.empty l0 x43_3) t153 t154 t155 _ A33.out).mono ?_); rintro e w35 ⟨rfl, hb⟩; refine ⟨_, rfl, ?_⟩; have n0_ := Aside0.mk (Kd.R_below (by (with_reducible repeat (first | apply Kd.R_alloc | apply Kd.R_drewN | apply Kd.R_drew)); exact HO_8.out) hb); have n1_ := Aside0.mk (below_step (by repeat (first | (with_reducible first | exact HB.out | apply below_alloc | apply pw_below_drewN | apply below_drew1) | exact HB.out)) hb); clear HO_8; clear HB; have HO_8 := n0_; have HB := n1_; clear n0_ n1_; (try clear hb); (try clear hb2); (try clear hk); (try clear hi)) | ((with_reducible refine gate_dst (N := 11) rfl ?_); (try (refine gate_guard (by rfl) ?_; dsimp only)); refine box_event ?hg (N := 11) ?hd (cs := #[.bool false, .string (⟨#[]⟩ : ByteArray)]) (t := 28) ?hr ?_; (case hd => rfl); (case hg => rfl); (case hr => first | (go_simp; done) | (go_simp; rfl)); intro gb156 hg w36 hbox hb; have n0_ := Aside0.mk (Kd.R_below (Kd.R_elderB (by (with_reducible repeat (first | apply Kd.R_alloc | apply Kd.R_drewN | apply Kd.R_drew)); exact HO_8.out) gb156 (Nat.le_of_eq hg.symm)) hb); have n1_ := Aside0.mk (below_step (by repeat (first | (with_reducible first | exact HB.out | apply below_alloc | apply pw_below_drewN | apply below_drew1) | exact HB.out)) hb); have n2_ := Aside0.mk (hbox); have n3_ := Aside0.mk ((by rw [hg]; exact (below_size (by repeat (first | (with_reducible first | exact HB.out | apply below_alloc | apply pw_below_drewN | apply below_drew1) | exact HB.out))) : w.heap.size ≤ gb156)); have n4_ := Aside0.mk ((by rw [hg]; exact (below_size (by repeat (first | (with_reducible first | exact HB.out | apply below_alloc | apply pw_below_drewN | apply below_drew1) | exact HB.out))) : w.heap.size ≤ gb156)); clear HO_8; clear HB; have HO_8 := n0_; have HB := n1_; have BK156 := n2_; have GW156 := n3_; have GE156 := n4_; clear n0_ n1_ n2_ n3_ n4_; clear hb hbox hg; have hcz37_0 : w36.cell? ⟨gb156, 0, none⟩ = some (.bool false) := (blk_cell BK156.out 0).trans rfl; have hcz37_1 : w36.cell? ⟨gb156, 1, none⟩ = some (.string (⟨#[]⟩ : ByteArray)) := (blk_cell BK156.out 1).trans rfl; have hfz37_0 := blk_frozen BK156.out 0; have hfz37_1 := blk_frozen BK156.out 1) | ((with_reducible refine gate_builtin (b := .append) (xs := #[.tmp 63, .tmp 65]) rfl ?_); (try (refine gate_guard (by rfl) ?_; dsimp only)); at_builtin; refine Kd.R_append k28 (w0 := w) w.heap.size rfl (.tmp 63) (.tmp 65) 26 28 (.agg #[(.bool false), (.string ⟨#[]⟩)]) 24 rfl Tryd.underlying26 info28 rfl (by decide) (by omega) u8 x8_3 (⟨t153, t154⟩ : S28) [.bool t153, .string t154] (fun k_ => k_ ≠ gb156) (fun _ => False) rfl (by first | (go_simp; done) | (go_simp; rfl)) ?aP (fun _ hk => hk.elim) ?aF ?aO ?aB ?aS ?aL ?_; (case aP => exact k28_mkM _ _ _ (⟨t153, t154⟩ : S28)); (case aB => exact (by repeat (first | (with_reducible first | exact HB.out | apply below_alloc | apply pw_below_drewN | apply below_drew1 | refine below_set ?_ GE156.out) | exact HB.out))); (case aF => exact (fun k_ hk => Kd.freshB (g := gb156) (o := .cells #[.bool t153, .string t154] 28 (0, 0)) (by (with_reducible repeat (first | refine blk_drewN ?_ _ | refine blk_drew ?_ | refine blk_alloc ?_ _)); refine blk_put (cs := #[.bool t153, .string (⟨#[]⟩ : ByteArray)]) ?_ 1 _ rfl; (with_reducible repeat (first | refine blk_drewN ?_ _ | refine blk_drew ?_ | refine blk_alloc ?_ _)); refine blk_put (cs := #[.bool false, .string (⟨#[]⟩ : ByteArray)]) ?_ 0 _ rfl; (with_reducible repeat (first | refine blk_drewN ?_ _ | refine blk_drew ?_ | refine blk_alloc ?_ _)); exact BK156.out) k_ hk)); (case aO => exact (by (with_reducible repeat (first | apply Kd.R_alloc | apply Kd.R_drewN | apply Kd.R_drew)); exact Kd.R_mono (Kd.R_far (p := ⟨gb156, 1, none⟩) (Kd.R_far (p := ⟨gb156, 0, none⟩) (Kd.R_mono HO_8.out (fun k_ hk => (⟨hk, hk.2⟩ : _ ∧ k_ ≠ gb156))) (fun _ hk => hk.2) (.bool t153)) (fun _ hk => hk.2) (.string t154)) (fun _ hk => hk.1.2))); (case aS => exact (below_size (by repeat (first | (with_reducible first | exact HB.out | apply below_alloc | apply pw_below_drewN | apply below_drew1 | refine below_set ?_ GE156.out) | exact HB.out)))); (case aL => have := LMc34.out; omega); intro v158 w38 ho hb hg hat; rw [← Ny157.out] at ho; have n0_ := Aside0.mk (blk_grown (g := gb156) (o := .cells #[.bool t153, .string t154] 28 (0, 0)) (by (with_reducible repeat (first | refine blk_drewN ?_ _ | refine blk_drew ?_ | refine blk_alloc ?_ _)); refine blk_put (cs := #[.bool t153, .string (⟨#[]⟩ : ByteArray)]) ?_ 1 _ rfl; (with_reducible repeat (first | refine blk_drewN ?_ _ | refine blk_drew ?_ | refine blk_alloc ?_ _)); refine blk_put (cs := #[.bool false, .string (⟨#[]⟩ : ByteArray)]) ?_ 0 _ rfl; (with_reducible repeat (first | refine blk_drewN ?_ _ | refine blk_drew ?_ | refine blk_alloc ?_ _)); exact BK156.out) hg (Kd.R_away HO_8.out (fun _ hk => hk.2))); have n1_ := Aside0.mk (hb); have n2_ := Aside0.mk (ho); clear BK156; clear HB; clear HO_8; have BK156 := n0_; have HB := n1_; have HO159 := n2_; clear n0_ n1_ n2_; clear ho hb hg hat))
                                  go_roundg k3
                                  case measure => have := HJ3.out; have := HJ7.out; have := HK3.out; omega
                                  case rel => exact ⟨((x7_3 ++ (⟨#[46]⟩ : ByteArray)) ++ (rdOf ByteArray.empty l0 x43_3)), (y157), (wrap64 (x43_3 + 1)), (by first | rfl | (simp; done) | (simp [*]; done)), (by first | rfl | (simp; done) | (simp [*]; done)), H', ⟨by have := HJ3.out; have := HJ7.out; have := HK3.out; omega⟩, ⟨by (with_reducible repeat (first | apply Kd.R_alloc | apply Kd.R_drewN | apply Kd.R_drew)); exact Kd.R_mono HO159.out (fun _ hk => trivial)⟩, ⟨by repeat (first | (with_reducible first | exact HB.out | apply below_alloc | apply pw_below_drewN | apply below_drew1 | refine below_set ?_ GE156.out) | exact HB.out)⟩⟩
                                · rw [if_neg c34] at H
                                  exact absurd H (by simp)
                              · rw [if_neg c32] at H
                                exact absurd H (by simp)
                            · rw [if_neg c31] at H
                              exact absurd H (by simp)
                          · rw [if_neg c30] at H
                            have c30b0 : decide (0 < x43_3) = false := decide_eq_false c30
                            clear c30
                            by_cases c39 : x7_3.size + (rdOf ByteArray.empty l0 x43_3).size ≤ 9223372036854775807
                            · rw [if_pos c39] at H
                              have c39b0 := eq_true c39
                              have c39b1 : decide (x7_3.size + (rdOf ByteArray.empty l0 x43_3).size ≤ 9223372036854775807) = true := decide_eq_true c39
                              try have c39b2 : (9223372036854775807 < x7_3.size + (rdOf ByteArray.empty l0 x43_3).size) = False := eq_false (Nat.not_lt.2 c39)
                              replace H := Option.bind_eq_some_iff.mp H
                              obtain ⟨⟨t160, t161, t162⟩, A400, H⟩ := H
                              replace H : (if x8_3.length < 5864062014805 then (laws_FnLikeJoined.l0 k3 a1 a2 (x7_3 ++ (rdOf ByteArray.empty l0 x43_3)) (x8_3 ++ [(⟨t160, t161⟩ : S28)]) l0 (l0.length : Int) (wrap64 (x43_3 + 1))) else (none)) = some r := H
                              have A40 := Aside0.mk A400
                              clear A400
                              by_cases c41 : x8_3.length < 5864062014805
                              · rw [if_pos c41] at H
                                have LMc41 := Aside0.mk c41
                                clear c41
                                obtain ⟨y164, hy164⟩ : ∃ y_ : List (S28), y_ = (x8_3 ++ [(⟨t160, t161⟩ : S28)]) := ⟨_, rfl⟩
                                replace H : (laws_FnLikeJoined.l0 k3 a1 a2 (x7_3 ++ (rdOf ByteArray.empty l0 x43_3)) y164 l0 (l0.length : Int) (wrap64 (x43_3 + 1))) = some r := by first | (rw [hy164]; with_reducible exact H) | (have H2_ := (Option.bind_some _ _).symm.trans H; rw [hy164]; with_reducible exact H2_) | (have H2_ := (Option.bind_some _ _).symm.trans H; with_reducible exact H2_) | with_reducible exact H | (rw [hy164]; exact H) | exact H
                                have Ny164 := Aside0.mk hy164
                                clear hy164
                                have H' := Aside0.mk H
                                clear H
                                have p151 : 0 ≤ (x43_3 : Int) := of_decide_eq_true (by first | (with_reducible assumption) | assumption)
                                have q151 : x43_3 < (l0.length : Int) := of_decide_eq_true (by first | (with_reducible assumption) | assumption)
                                obtain ⟨ad151, e151, hx151_0⟩ := Kd.at_string HR0.out x43_3 p151 q151
                                cases e151
                                replace hx151_0 := (HB.out.cell (World.block_lt_of_cell? w _ hx151_0)).trans hx151_0
                                replace p151 := eq_true p151
                                replace q151 := eq_true q151
                                go_wp2_with (first | ((with_reducible refine gate_callee (f := 8) rfl ?_); refine goesL_ (some 49) rfl rfl Tryd.func8 (by kernel_rfl) rfl #[.string (rdOf ByteArray.empty l0 x43_3)] rfl (by (try simp only [List.map_toArray, List.map_cons, List.map_nil]); first | done | rfl | (simp only [List.length_drop, List.length_take]; rfl)) ?_; (with_reducible refine (laws_digits.calls k3 (rdOf ByteArray.empty l0 x43_3) true _ A28.out).mono ?_); rintro e w' ⟨rfl, ⟨nd, rfl⟩⟩; refine ⟨_, rfl, ?_⟩; (try (rw [drewN_self wr]; generalize hq_ : World.drewN wr _ = wr; have n0_ : Aside0 (Kd.R k28 28 wr w.heap.size (fun _ => True) u8 x8_3) := ⟨by rw [← hq_]; exact (by (with_reducible repeat (first | apply Kd.R_alloc | apply Kd.R_drewN | apply Kd.R_drew)); exact HO_8.out)⟩; have n1_ : Aside0 (Below w.heap.size w wr) := ⟨by rw [← hq_]; exact (by repeat (first | (with_reducible first | exact HB.out | apply below_alloc | apply pw_below_drewN | apply below_drew1) | exact HB.out))⟩; clear HO_8 HB hq_; have HO_8 := n0_; have HB := n1_; clear n0_ n1_))) | ((with_reducible refine gate_callee (f := 9) rfl ?_); refine goesL_ (some 60) rfl rfl Tryd.func9 (by kernel_rfl) rfl #[.string (rdOf ByteArray.empty l0 x43_3)] rfl (by (try simp only [List.map_toArray, List.map_cons, List.map_nil]); first | done | rfl | (simp only [List.length_drop, List.length_take]; rfl)) ?_; (with_reducible refine (spec_Number.calls k3 (rdOf ByteArray.empty l0 x43_3) t160 t161 t162 _ A40.out).mono ?_); rintro e w42 ⟨rfl, hb⟩; refine ⟨_, rfl, ?_⟩; have n0_ := Aside0.mk (Kd.R_below (by (with_reducible repeat (first | apply Kd.R_alloc | apply Kd.R_drewN | apply Kd.R_drew)); exact HO_8.out) hb); have n1_ := Aside0.mk (below_step (by repeat (first | (with_reducible first | exact HB.out | apply below_alloc | apply pw_below_drewN | apply below_drew1) | exact HB.out)) hb); clear HO_8; clear HB; have HO_8 := n0_; have HB := n1_; clear n0_ n1_; (try clear hb); (try clear hb2); (try clear hk); (try clear hi)) | ((with_reducible refine gate_dst (N := 11) rfl ?_); (try (refine gate_guard (by rfl) ?_; dsimp only)); refine box_event ?hg (N := 11) ?hd (cs := #[.bool false, .string (⟨#[]⟩ : ByteArray)]) (t := 28) ?hr ?_; (case hd => rfl); (case hg => rfl); (case hr => first | (go_simp; done) | (go_simp; rfl)); intro gb163 hg w43 hbox hb; have n0_ := Aside0.mk (Kd.R_below (Kd.R_elderB (by (with_reducible repeat (first | apply Kd.R_alloc | apply Kd.R_drewN | apply Kd.R_drew)); exact HO_8.out) gb163 (Nat.le_of_eq hg.symm)) hb); have n1_ := Aside0.mk (below_step (by repeat (first | (with_reducible first | exact HB.out | apply below_alloc | apply pw_below_drewN | apply below_drew1) | exact HB.out)) hb); have n2_ := Aside0.mk (hbox); have n3_ := Aside0.mk ((by rw [hg]; exact (below_size (by repeat (first | (with_reducible first | exact HB.out | apply below_alloc | apply pw_below_drewN | apply below_drew1) | exact HB.out))) : w.heap.size ≤ gb163)); have n4_ := Aside0.mk ((by rw [hg]; exact (below_size (by repeat (first | (with_reducible first | exact HB.out | apply below_alloc | apply pw_below_drewN | apply below_drew1) | exact HB.out))) : w.heap.size ≤ gb163)); clear HO_8; clear HB; have HO_8 := n0_; have HB := n1_; have BK163 := n2_; have GW163 := n3_; have GE163 := n4_; clear n0_ n1_ n2_ n3_ n4_; clear hb hbox hg; have hcz44_0 : w43.cell? ⟨gb163, 0, none⟩ = some (.bool false) := (blk_cell BK163.out 0).trans rfl; have hcz44_1 : w43.cell? ⟨gb163, 1, none⟩ = some (.string (⟨#[]⟩ : ByteArray)) := (blk_cell BK163.out 1).trans rfl; have hfz44_0 := blk_frozen BK163.out 0; have hfz44_1 := blk_frozen BK163.out 1) | ((with_reducible refine gate_builtin (b := .append) (xs := #[.tmp 63, .tmp 65]) rfl ?_); (try (refine gate_guard (by rfl) ?_; dsimp only)); at_builtin; refine Kd.R_append k28 (w0 := w) w.heap.size rfl (.tmp 63) (.tmp 65) 26 28 (.agg #[(.bool false), (.string ⟨#[]⟩)]) 24 rfl Tryd.underlying26 info28 rfl (by decide) (by omega) u8 x8_3 (⟨t160, t161⟩ : S28) [.bool t160, .string t161] (fun k_ => k_ ≠ gb163) (fun _ => False) rfl (by first | (go_simp; done) | (go_simp; rfl)) ?aP (fun _ hk => hk.elim) ?aF ?aO ?aB ?aS ?aL ?_; (case aP => exact k28_mkM _ _ _ (⟨t160, t161⟩ : S28)); (case aB => exact (by repeat (first | (with_reducible first | exact HB.out | apply below_alloc | apply pw_below_drewN | apply below_drew1 | refine below_set ?_ GE163.out) | exact HB.out))); (case aF => exact (fun k_ hk => Kd.freshB (g := gb163) (o := .cells #[.bool t160, .string t161] 28 (0, 0)) (by (with_reducible repeat (first | refine blk_drewN ?_ _ | refine blk_drew ?_ | refine blk_alloc ?_ _)); refine blk_put (cs := #[.bool t160, .string (⟨#[]⟩ : ByteArray)]) ?_ 1 _ rfl; (with_reducible repeat (first | refine blk_drewN ?_ _ | refine blk_drew ?_ | refine blk_alloc ?_ _)); refine blk_put (cs := #[.bool false, .string (⟨#[]⟩ : ByteArray)]) ?_ 0 _ rfl; (with_reducible repeat (first | refine blk_drewN ?_ _ | refine blk_drew ?_ | refine blk_alloc ?_ _)); exact BK163.out) k_ hk)); (case aO => exact (by (with_reducible repeat (first | apply Kd.R_alloc | apply Kd.R_drewN | apply Kd.R_drew)); exact Kd.R_mono (Kd.R_far (p := ⟨gb163, 1, none⟩) (Kd.R_far (p := ⟨gb163, 0, none⟩) (Kd.R_mono HO_8.out (fun k_ hk => (⟨hk, hk.2⟩ : _ ∧ k_ ≠ gb163))) (fun _ hk => hk.2) (.bool t160)) (fun _ hk => hk.2) (.string t161)) (fun _ hk => hk.1.2))); (case aS => exact (below_size (by repeat (first | (with_reducible first | exact HB.out | apply below_alloc | apply pw_below_drewN | apply below_drew1 | refine below_set ?_ GE163.out) | exact HB.out)))); (case aL => have := LMc41.out; omega); intro v165 w45 ho hb hg hat; rw [← Ny164.out] at ho; have n0_ := Aside0.mk (blk_grown (g := gb163) (o := .cells #[.bool t160, .string t161] 28 (0, 0)) (by (with_reducible repeat (first | refine blk_drewN ?_ _ | refine blk_drew ?_ | refine blk_alloc ?_ _)); refine blk_put (cs := #[.bool t160, .string (⟨#[]⟩ : ByteArray)]) ?_ 1 _ rfl; (with_reducible repeat (first | refine blk_drewN ?_ _ | refine blk_drew ?_ | refine blk_alloc ?_ _)); refine blk_put (cs := #[.bool false, .string (⟨#[]⟩ : ByteArray)]) ?_ 0 _ rfl; (with_reducible repeat (first | refine blk_drewN ?_ _ | refine blk_drew ?_ | refine blk_alloc ?_ _)); exact BK163.out) hg (Kd.R_away HO_8.out (fun _ hk => hk.2))); have n1_ := Aside0.mk (hb); have n2_ := Aside0.mk (ho); clear BK163; clear HB; clear HO_8; have BK163 := n0_; have HB := n1_; have HO166 := n2_; clear n0_ n1_ n2_; clear ho hb hg hat))
                                go_roundg k3
                                case measure => have := HJ3.out; have := HJ7.out; have := HK3.out; omega
                                case rel => exact ⟨(x7_3 ++ (rdOf ByteArray.empty l0 x43_3)), (y164), (wrap64 (x43_3 + 1)), (by first | rfl | (simp; done) | (simp [*]; done)), (by first | rfl | (simp; done) | (simp [*]; done)), H', ⟨by have := HJ3.out; have := HJ7.out; have := HK3.out; omega⟩, ⟨by (with_reducible repeat (first | apply Kd.R_alloc | apply Kd.R_drewN | apply Kd.R_drew)); exact Kd.R_mono HO166.out (fun _ hk => trivial)⟩, ⟨by repeat (first | (with_reducible first | exact HB.out | apply below_alloc | apply pw_below_drewN | apply below_drew1 | refine below_set ?_ GE163.out) | exact HB.out)⟩⟩
                              · rw [if_neg c41] at H
                                exact absurd H (by simp)
                            · rw [if_neg c39] at H
                              exact absurd H (by simp)
                        · replace c29 := Bool.eq_false_iff.mpr c29
                          subst c29
                          have H1 : (some true) = some r := by rw [if_neg (show ¬ (false = true) by decide)] at H; exact H
                          clear H
                          have H := H1
                          clear H1
                          obtain rfl := Option.some.inj H
                          have p151 : 0 ≤ (x43_3 : Int) := of_decide_eq_true (by first | (with_reducible assumption) | assumption)
                          have q151 : x43_3 < (l0.length : Int) := of_decide_eq_true (by first | (with_reducible assumption) | assumption)
                          obtain ⟨ad151, e151, hx151_0⟩ := Kd.at_string HR0.out x43_3 p151 q151
                          cases e151
                          replace hx151_0 := (HB.out.cell (World.block_lt_of_cell? w _ hx151_0)).trans hx151_0
                          replace p151 := eq_true p151
                          replace q151 := eq_true q151
                          go_wp2_with (first | ((with_reducible refine gate_callee (f := 8) rfl ?_); refine goesL_ (some 49) rfl rfl Tryd.func8 (by kernel_rfl) rfl #[.string (rdOf ByteArray.empty l0 x43_3)] rfl (by (try simp only [List.map_toArray, List.map_cons, List.map_nil]); first | done | rfl | (simp only [List.length_drop, List.length_take]; rfl)) ?_; (with_reducible refine (laws_digits.calls k3 (rdOf ByteArray.empty l0 x43_3) false _ A28.out).mono ?_); rintro e w' ⟨rfl, ⟨nd, rfl⟩⟩; refine ⟨_, rfl, ?_⟩))
                          go_ret
                          exact ⟨by first | rfl | (simp [errW_none, errW_some] <;> rfl) | (simp [*, errW_none, errW_some] <;> rfl), by repeat (first | (with_reducible first | exact HB.out | apply below_alloc | apply pw_below_drewN | apply below_drew1) | exact HB.out)⟩
                      · rw [if_neg c27] at H
                        exact absurd H (by simp)
                    · rw [if_neg c26] at H
                      exact absurd H (by simp)
                  · rw [if_neg c25] at H
                    have c25b0 : decide (x43_3 < (l0.length : Int)) = false := decide_eq_false c25
                    clear c25
                    by_cases c46 : a2 = true
                    · subst c46
                      have H1 : (if 1 + x7_3.size ≤ 9223372036854775807 then (if ((⟨#[118]⟩ : ByteArray) ++ x7_3).size + 1 ≤ 9223372036854775807 then (if (((⟨#[118]⟩ : ByteArray) ++ x7_3) ++ (⟨#[45]⟩ : ByteArray)).size + a1.size ≤ 9223372036854775807 then ((impl_LikeParse.f k3 ((((⟨#[118]⟩ : ByteArray) ++ x7_3) ++ (⟨#[45]⟩ : ByteArray)) ++ a1)).bind fun bt167 => (if (bt167.1 == true) = true then ((laws_ints.f k3 bt167.2.1 x8_3).bind fun t174 => (if t174 = true then (if 1 + a1.size ≤ 9223372036854775807 then (if bt167.2.2.1.toList = ((⟨#[45]⟩ : ByteArray) ++ a1).toList then (some (bt167.2.2.2.toList == ((((⟨#[118]⟩ : ByteArray) ++ x7_3) ++ (⟨#[45]⟩ : ByteArray)) ++ a1).toList)) else (some false)) else (none)) else (some false))) else (some false))) else (none)) else (none)) else (none)) = some r := by rw [if_pos rfl] at H; exact H
                      clear H
                      have H := H1
                      clear H1
                      by_cases c47 : 1 + x7_3.size ≤ 9223372036854775807
                      · rw [if_pos c47] at H
                        have c47b0 := eq_true c47
                        have c47b1 : decide (1 + x7_3.size ≤ 9223372036854775807) = true := decide_eq_true c47
                        try have c47b2 : (9223372036854775807 < 1 + x7_3.size) = False := eq_false (Nat.not_lt.2 c47)
                        by_cases c48 : ((⟨#[118]⟩ : ByteArray) ++ x7_3).size + 1 ≤ 9223372036854775807
                        · rw [if_pos c48] at H
                          have c48b0 := eq_true c48
                          have c48b1 : decide (((⟨#[118]⟩ : ByteArray) ++ x7_3).size + 1 ≤ 9223372036854775807) = true := decide_eq_true c48
                          try have c48b2 : (9223372036854775807 < ((⟨#[118]⟩ : ByteArray) ++ x7_3).size + 1) = False := eq_false (Nat.not_lt.2 c48)
                          try (have c48b3 := c48b2; simp [ByteArray.size_append, show (⟨#[118]⟩ : ByteArray).size = 1 from rfl] at c48b3; replace c48b3 := eq_false (Nat.not_lt.2 c48b3))
                          try have c48b4 : (9223372036854775807 < 1 + x7_3.size + 1) = False := eq_false (Nat.not_lt.2 (by have h_ := c48; simp only [ByteArray.size_append] at h_; exact h_))
                          by_cases c49 : (((⟨#[118]⟩ : ByteArray) ++ x7_3) ++ (⟨#[45]⟩ : ByteArray)).size + a1.size ≤ 9223372036854775807
                          · rw [if_pos c49] at H
                            have c49b0 := eq_true c49
                            have c49b1 : decide ((((⟨#[118]⟩ : ByteArray) ++ x7_3) ++ (⟨#[45]⟩ : ByteArray)).size + a1.size ≤ 9223372036854775807) = true := decide_eq_true c49
                            try have c49b2 : (9223372036854775807 < (((⟨#[118]⟩ : ByteArray) ++ x7_3) ++ (⟨#[45]⟩ : ByteArray)).size + a1.size) = False := eq_false (Nat.not_lt.2 c49)
                            try (have c49b3 := c49b2; simp [ByteArray.size_append, show (⟨#[118]⟩ : ByteArray).size = 1 from rfl, show (⟨#[45]⟩ : ByteArray).size = 1 from rfl] at c49b3; replace c49b3 := eq_false (Nat.not_lt.2 c49b3))
                            try have c49b4 : (9223372036854775807 < 1 + x7_3.size + 1 + a1.size) = False := eq_false (Nat.not_lt.2 (by have h_ := c49; simp only [ByteArray.size_append] at h_; exact h_))
                            replace H := Option.bind_eq_some_iff.mp H
                            obtain ⟨⟨t167, t168, t171, t172⟩, A500, H⟩ := H
                            replace H : (if (t167 == true) = true then ((laws_ints.f k3 t168 x8_3).bind fun t174 => (if t174 = true then (if 1 + a1.size ≤ 9223372036854775807 then (if t171.toList = ((⟨#[45]⟩ : ByteArray) ++ a1).toList then (some (t172.toList == ((((⟨#[118]⟩ : ByteArray) ++ x7_3) ++ (⟨#[45]⟩ : ByteArray)) ++ a1).toList)) else (some false)) else (none)) else (some false))) else (some false)) = some r := H
                            have A50 := Aside0.mk A500
                            clear A500
                            by_cases c51 : (t167 == true) = true
                            · rw [if_pos c51] at H
                              have c51b0 : (t167 == true) = true := c51
                              (try (have c51b1 : decide (t167 = true) = true := by simpa using c51))
                              (try (have c51b2 : (t167 == true) = true := by simpa using c51))
                              clear c51
                              replace H := Option.bind_eq_some_iff.mp H
                              obtain ⟨t174, A520, H⟩ := H
                              replace H : (if t174 = true then (if 1 + a1.size ≤ 9223372036854775807 then (if t171.toList = ((⟨#[45]⟩ : ByteArray) ++ a1).toList then (some (t172.toList == ((((⟨#[118]⟩ : ByteArray) ++ x7_3) ++ (⟨#[45]⟩ : ByteArray)) ++ a1).toList)) else (some false)) else (none)) else (some false)) = some r := H
                              have A52 := Aside0.mk A520
                              clear A520
                              by_cases c53 : t174 = true
                              · subst c53
                                have H1 : (if 1 + a1.size ≤ 9223372036854775807 then (if t171.toList = ((⟨#[45]⟩ : ByteArray) ++ a1).toList then (some (t172.toList == ((((⟨#[118]⟩ : ByteArray) ++ x7_3) ++ (⟨#[45]⟩ : ByteArray)) ++ a1).toList)) else (some false)) else (none)) = some r := by rw [if_pos rfl] at H; exact H
                                clear H
                                have H := H1
                                clear H1
                                by_cases c54 : 1 + a1.size ≤ 9223372036854775807
                                · rw [if_pos c54] at H
                                  have c54b0 := eq_true c54
                                  have c54b1 : decide (1 + a1.size ≤ 9223372036854775807) = true := decide_eq_true c54
                                  try have c54b2 : (9223372036854775807 < 1 + a1.size) = False := eq_false (Nat.not_lt.2 c54)
                                  by_cases c55 : t171.toList = ((⟨#[45]⟩ : ByteArray) ++ a1).toList
                                  · rw [if_pos c55] at H
                                    have c55b0 : (t171.toList == ((⟨#[45]⟩ : ByteArray) ++ a1).toList) = true := beq_iff_eq.mpr c55
                                    have c55b1 : (t171.toList != ((⟨#[45]⟩ : ByteArray) ++ a1).toList) = false := bne_eq_false_iff_eq.mpr c55
                                    clear c55
                                    obtain rfl := Option.some.inj H
                                    go_wp2_with (first | ((with_reducible refine gate_callee (f := 10) rfl ?_); refine goesL_ (some 75) rfl rfl Tryd.func10 (by kernel_rfl) rfl #[.string ((((⟨#[118]⟩ : ByteArray) ++ x7_3) ++ (⟨#[45]⟩ : ByteArray)) ++ a1)] rfl (by (try simp only [List.map_toArray, List.map_cons, List.map_nil]); first | done | rfl | (simp only [List.length_drop, List.length_take]; rfl)) ?_; (with_reducible refine (impl_LikeParse.calls k3 ((((⟨#[118]⟩ : ByteArray) ++ x7_3) ++ (⟨#[45]⟩ : ByteArray)) ++ a1) t167 t168 t171 t172 _ ?side1 A50.out).mono ?_); (case side1 => first | exact HG.out | exact GW.below HG.out (by repeat (first | (with_reducible first | exact HB.out | exact Below.refl _ _ | apply below_alloc | apply pw_below_drewN | apply below_drew1 | apply below_drew | refine below_set ?_ (Aside0.out (by assumption))) | exact HB.out))); rintro e w56 ⟨v169, rfl, ho0, hb⟩; refine ⟨_, rfl, ?_⟩; have n0_ := Aside0.mk (Kd.R_elder' (by (with_reducible repeat (first | apply Kd.R_alloc | apply Kd.R_drewN | apply Kd.R_drew)); exact HO_8.out) (Kd.R_base ho0) hb); have n1_ := Aside0.mk (Kd.R_lower (Kd.R_new' ho0 (Kd.R_lt (by (with_reducible repeat (first | apply Kd.R_alloc | apply Kd.R_drewN | apply Kd.R_drew)); exact HO_8.out))) (below_size (by repeat (first | (with_reducible first | exact HB.out | apply below_alloc | apply pw_below_drewN | apply below_drew1) | exact HB.out)))); have n2_ := Aside0.mk (below_step (by repeat (first | (with_reducible first | exact HB.out | apply below_alloc | apply pw_below_drewN | apply below_drew1) | exact HB.out)) hb); clear HO_8; clear HB; have HO_8 := n0_; have HO170 := n1_; have HB := n2_; clear n0_ n1_ n2_; (try clear hb); (try clear hb2); (try clear hk); (try clear hi); (try clear ho0)) | ((with_reducible refine gate_dst (N := 13) rfl ?_); (try (refine gate_guard (by rfl) ?_; dsimp only)); refine box_event ?hg (N := 13) ?hd (cs := #[.bool false, .slice none 0 0, .string (⟨#[]⟩ : ByteArray), .string (⟨#[]⟩ : ByteArray)]) (t := 32) ?hr ?_; (case hd => rfl); (case hg => rfl); (case hr => first | (go_simp; done) | (go_simp; rfl)); intro gb173 hg w57 hbox hb; have n0_ := Aside0.mk (Kd.R_below (by (with_reducible repeat (first | apply Kd.R_alloc | apply Kd.R_drewN | apply Kd.R_drew)); exact HO_8.out) hb); have n1_ := Aside0.mk (Kd.R_below (by (with_reducible repeat (first | apply Kd.R_alloc | apply Kd.R_drewN | apply Kd.R_drew)); exact HO170.out) hb); have n2_ := Aside0.mk (below_step (by repeat (first | (with_reducible first | exact HB.out | apply below_alloc | apply pw_below_drewN | apply below_drew1) | exact HB.out)) hb); have n3_ := Aside0.mk (hbox); have n4_ := Aside0.mk ((by rw [hg]; exact (below_size (by repeat (first | (with_reducible first | exact HB.out | apply below_alloc | apply pw_below_drewN | apply below_drew1) | exact HB.out))) : w.heap.size ≤ gb173)); have n5_ := Aside0.mk ((by rw [hg]; exact (below_size (by repeat (first | (with_reducible first | exact HB.out | apply below_alloc | apply pw_below_drewN | apply below_drew1) | exact HB.out))) : w.heap.size ≤ gb173)); clear HO_8; clear HO170; clear HB; have HO_8 := n0_; have HO170 := n1_; have HB := n2_; have BK173 := n3_; have GW173 := n4_; have GE173 := n5_; clear n0_ n1_ n2_ n3_ n4_ n5_; clear hb hbox hg; have hcz58_0 : w57.cell? ⟨gb173, 0, none⟩ = some (.bool false) := (blk_cell BK173.out 0).trans rfl; have hcz58_1 : w57.cell? ⟨gb173, 1, none⟩ = some (.slice none 0 0) := (blk_cell BK173.out 1).trans rfl; have hcz58_2 : w57.cell? ⟨gb173, 2, none⟩ = some (.string (⟨#[]⟩ : ByteArray)) := (blk_cell BK173.out 2).trans rfl; have hcz58_3 : w57.cell? ⟨gb173, 3, none⟩ = some (.string (⟨#[]⟩ : ByteArray)) := (blk_cell BK173.out 3).trans rfl; have hfz58_0 := blk_frozen BK173.out 0; have hfz58_1 := blk_frozen BK173.out 1; have hfz58_2 := blk_frozen BK173.out 2; have hfz58_3 := blk_frozen BK173.out 3; obtain ⟨Ao59, co59, eo59⟩ := Kd.R_slice HO170.out; subst eo59; obtain ⟨Ao60, co60, eo60⟩ := Kd.R_slice HO_8.out; subst eo60) | (go_at_call 11; (with_reducible refine (laws_ints.calls k3 _ _ t168 _ _ x8_3 true _ ?side1 ?side2 ?side3 ?side4 A52.out).mono ?_); (case side1 => refine (Kd.R_reads' (e := 28) (base := w.heap.size) (ok := fun k_ => (True ∧ some k_ ≠ (.slice Ao60 x8_3.length co60 : Value).ownBlock)) (n := t168.length) (c := co59) ?_).2.2; exact (by (with_reducible repeat (first | apply Kd.R_alloc | apply Kd.R_drewN | apply Kd.R_drew)); exact (Kd.R_mono (Kd.R_far (p := ⟨gb173, 3, none⟩) (Kd.R_far (p := ⟨gb173, 2, none⟩) (Kd.R_far (p := ⟨gb173, 1, none⟩) (Kd.R_far (p := ⟨gb173, 0, none⟩) (Kd.R_types HO170.out BK173.out (by decide)) (fun _ hk => hk.2) (.bool t167)) (fun _ hk => hk.2) (.slice Ao59 t168.length co59)) (fun _ hk => hk.2) (.string t171)) (fun _ hk => hk.2) (.string t172)) (fun _ h_ => h_.1)))); (case side2 => exact (Kd.R_reads' HO170.out).2.1); (case side3 => refine (Kd.R_reads' (e := 28) (base := w.heap.size) (ok := fun k_ => (True ∧ some k_ ≠ (.slice Ao59 t168.length co59 : Value).ownBlock)) (n := x8_3.length) (c := co60) ?_).2.2; exact (by (with_reducible repeat (first | apply Kd.R_alloc | apply Kd.R_drewN | apply Kd.R_drew)); exact (Kd.R_mono (Kd.R_far (p := ⟨gb173, 3, none⟩) (Kd.R_far (p := ⟨gb173, 2, none⟩) (Kd.R_far (p := ⟨gb173, 1, none⟩) (Kd.R_far (p := ⟨gb173, 0, none⟩) (Kd.R_types HO_8.out BK173.out (by decide)) (fun _ hk => hk.2) (.bool t167)) (fun _ hk => hk.2) (.slice Ao59 t168.length co59)) (fun _ hk => hk.2) (.string t171)) (fun _ hk => hk.2) (.string t172)) (fun _ h_ => h_.1)))); (case side4 => exact (Kd.R_reads' HO_8.out).2.1); rintro e w' ⟨rfl, ⟨nd, rfl⟩⟩))
                                    go_ret
                                    exact ⟨by first | rfl | (simp [errW_none, errW_some] <;> rfl) | (simp [*, errW_none, errW_some] <;> rfl), by repeat (first | (with_reducible first | exact HB.out | apply below_alloc | apply pw_below_drewN | apply below_drew1 | refine below_set ?_ GE173.out) | exact HB.out)⟩
                                  · rw [if_neg c55] at H
                                    have c55b0 : (t171.toList == ((⟨#[45]⟩ : ByteArray) ++ a1).toList) = false := beq_eq_false_iff_ne.mpr c55
                                    have c55b1 : (t171.toList != ((⟨#[45]⟩ : ByteArray) ++ a1).toList) = true := bne_iff_ne.mpr c55
                                    obtain rfl := Option.some.inj H
                                    go_wp2_with (first | ((with_reducible refine gate_callee (f := 10) rfl ?_); refine goesL_ (some 75) rfl rfl Tryd.func10 (by kernel_rfl) rfl #[.string ((((⟨#[118]⟩ : ByteArray) ++ x7_3) ++ (⟨#[45]⟩ : ByteArray)) ++ a1)] rfl (by (try simp only [List.map_toArray, List.map_cons, List.map_nil]); first | done | rfl | (simp only [List.length_drop, List.length_take]; rfl)) ?_; (with_reducible refine (impl_LikeParse.calls k3 ((((⟨#[118]⟩ : ByteArray) ++ x7_3) ++ (⟨#[45]⟩ : ByteArray)) ++ a1) t167 t168 t171 t172 _ ?side1 A50.out).mono ?_); (case side1 => first | exact HG.out | exact GW.below HG.out (by repeat (first | (with_reducible first | exact HB.out | exact Below.refl _ _ | apply below_alloc | apply pw_below_drewN | apply below_drew1 | apply below_drew | refine below_set ?_ (Aside0.out (by assumption))) | exact HB.out))); rintro e w61 ⟨v169, rfl, ho0, hb⟩; refine ⟨_, rfl, ?_⟩; have n0_ := Aside0.mk (Kd.R_elder' (by (with_reducible repeat (first | apply Kd.R_alloc | apply Kd.R_drewN | apply Kd.R_drew)); exact HO_8.out) (Kd.R_base ho0) hb); have n1_ := Aside0.mk (Kd.R_lower (Kd.R_new' ho0 (Kd.R_lt (by (with_reducible repeat (first | apply Kd.R_alloc | apply Kd.R_drewN | apply Kd.R_drew)); exact HO_8.out))) (below_size (by repeat (first | (with_reducible first | exact HB.out | apply below_alloc | apply pw_below_drewN | apply below_drew1) | exact HB.out)))); have n2_ := Aside0.mk (below_step (by repeat (first | (with_reducible first | exact HB.out | apply below_alloc | apply pw_below_drewN | apply below_drew1) | exact HB.out)) hb); clear HO_8; clear HB; have HO_8 := n0_; have HO170 := n1_; have HB := n2_; clear n0_ n1_ n2_; (try clear hb); (try clear hb2); (try clear hk); (try clear hi); (try clear ho0)) | ((with_reducible refine gate_dst (N := 13) rfl ?_); (try (refine gate_guard (by rfl) ?_; dsimp only)); refine box_event ?hg (N := 13) ?hd (cs := #[.bool false, .slice none 0 0, .string (⟨#[]⟩ : ByteArray), .string (⟨#[]⟩ : ByteArray)]) (t := 32) ?hr ?_; (case hd => rfl); (case hg => rfl); (case hr => first | (go_simp; done) | (go_simp; rfl)); intro gb173 hg w62 hbox hb; have n0_ := Aside0.mk (Kd.R_below (by (with_reducible repeat (first | apply Kd.R_alloc | apply Kd.R_drewN | apply Kd.R_drew)); exact HO_8.out) hb); have n1_ := Aside0.mk (Kd.R_below (by (with_reducible repeat (first | apply Kd.R_alloc | apply Kd.R_drewN | apply Kd.R_drew)); exact HO170.out) hb); have n2_ := Aside0.mk (below_step (by repeat (first | (with_reducible first | exact HB.out | apply below_alloc | apply pw_below_drewN | apply below_drew1) | exact HB.out)) hb); have n3_ := Aside0.mk (hbox); have n4_ := Aside0.mk ((by rw [hg]; exact (below_size (by repeat (first | (with_reducible first | exact HB.out | apply below_alloc | apply pw_below_drewN | apply below_drew1) | exact HB.out))) : w.heap.size ≤ gb173)); have n5_ := Aside0.mk ((by rw [hg]; exact (below_size (by repeat (first | (with_reducible first | exact HB.out | apply below_alloc | apply pw_below_drewN | apply below_drew1) | exact HB.out))) : w.heap.size ≤ gb173)); clear HO_8; clear HO170; clear HB; have HO_8 := n0_; have HO170 := n1_; have HB := n2_; have BK173 := n3_; have GW173 := n4_; have GE173 := n5_; clear n0_ n1_ n2_ n3_ n4_ n5_; clear hb hbox hg; have hcz63_0 : w62.cell? ⟨gb173, 0, none⟩ = some (.bool false) := (blk_cell BK173.out 0).trans rfl; have hcz63_1 : w62.cell? ⟨gb173, 1, none⟩ = some (.slice none 0 0) := (blk_cell BK173.out 1).trans rfl; have hcz63_2 : w62.cell? ⟨gb173, 2, none⟩ = some (.string (⟨#[]⟩ : ByteArray)) := (blk_cell BK173.out 2).trans rfl; have hcz63_3 : w62.cell? ⟨gb173, 3, none⟩ = some (.string (⟨#[]⟩ : ByteArray)) := (blk_cell BK173.out 3).trans rfl; have hfz63_0 := blk_frozen BK173.out 0; have hfz63_1 := blk_frozen BK173.out 1; have hfz63_2 := blk_frozen BK173.out 2; have hfz63_3 := blk_frozen BK173.out 3; obtain ⟨Ao64, co64, eo64⟩ := Kd.R_slice HO170.out; subst eo64; obtain ⟨Ao65, co65, eo65⟩ := Kd.R_slice HO_8.out; subst eo65) | (go_at_call 11; (with_reducible refine (laws_ints.calls k3 _ _ t168 _ _ x8_3 true _ ?side1 ?side2 ?side3 ?side4 A52.out).mono ?_); (case side1 => refine (Kd.R_reads' (e := 28) (base := w.heap.size) (ok := fun k_ => (True ∧ some k_ ≠ (.slice Ao65 x8_3.length co65 : Value).ownBlock)) (n := t168.length) (c := co64) ?_).2.2; exact (by (with_reducible repeat (first | apply Kd.R_alloc | apply Kd.R_drewN | apply Kd.R_drew)); exact (Kd.R_mono (Kd.R_far (p := ⟨gb173, 3, none⟩) (Kd.R_far (p := ⟨gb173, 2, none⟩) (Kd.R_far (p := ⟨gb173, 1, none⟩) (Kd.R_far (p := ⟨gb173, 0, none⟩) (Kd.R_types HO170.out BK173.out (by decide)) (fun _ hk => hk.2) (.bool t167)) (fun _ hk => hk.2) (.slice Ao64 t168.length co64)) (fun _ hk => hk.2) (.string t171)) (fun _ hk => hk.2) (.string t172)) (fun _ h_ => h_.1)))); (case side2 => exact (Kd.R_reads' HO170.out).2.1); (case side3 => refine (Kd.R_reads' (e := 28) (base := w.heap.size) (ok := fun k_ => (True ∧ some k_ ≠ (.slice Ao64 t168.length co64 : Value).ownBlock)) (n := x8_3.length) (c := co65) ?_).2.2; exact (by (with_reducible repeat (first | apply Kd.R_alloc | apply Kd.R_drewN | apply Kd.R_drew)); exact (Kd.R_mono (Kd.R_far (p := ⟨gb173, 3, none⟩) (Kd.R_far (p := ⟨gb173, 2, none⟩) (Kd.R_far (p := ⟨gb173, 1, none⟩) (Kd.R_far (p := ⟨gb173, 0, none⟩) (Kd.R_types HO_8.out BK173.out (by decide)) (fun _ hk => hk.2) (.bool t167)) (fun _ hk => hk.2) (.slice Ao64 t168.length co64)) (fun _ hk => hk.2) (.string t171)) (fun _ hk => hk.2) (.string t172)) (fun _ h_ => h_.1)))); (case side4 => exact (Kd.R_reads' HO_8.out).2.1); rintro e w' ⟨rfl, ⟨nd, rfl⟩⟩))
                                    go_ret
                                    exact ⟨by first | rfl | (simp [errW_none, errW_some] <;> rfl) | (simp [*, errW_none, errW_some] <;> rfl), by repeat (first | (with_reducible first | exact HB.out | apply below_alloc | apply pw_below_drewN | apply below_drew1 | refine below_set ?_ GE173.out) | exact HB.out)⟩
                                · rw [if_neg c54] at H
                                  exact absurd H (by simp)
                              · replace c53 := Bool.eq_false_iff.mpr c53
                                subst c53
                                have H1 : (some false) = some r := by rw [if_neg (show ¬ (false = true) by decide)] at H; exact H
                                clear H
                                have H := H1
                                clear H1
                                obtain rfl := Option.some.inj H
                                go_wp2_with (first | ((with_reducible refine gate_callee (f := 10) rfl ?_); refine goesL_ (some 75) rfl rfl Tryd.func10 (by kernel_rfl) rfl #[.string ((((⟨#[118]⟩ : ByteArray) ++ x7_3) ++ (⟨#[45]⟩ : ByteArray)) ++ a1)] rfl (by (try simp only [List.map_toArray, List.map_cons, List.map_nil]); first | done | rfl | (simp only [List.length_drop, List.length_take]; rfl)) ?_; (with_reducible refine (impl_LikeParse.calls k3 ((((⟨#[118]⟩ : ByteArray) ++ x7_3) ++ (⟨#[45]⟩ : ByteArray)) ++ a1) t167 t168 t171 t172 _ ?side1 A50.out).mono ?_); (case side1 => first | exact HG.out | exact GW.below HG.out (by repeat (first | (with_reducible first | exact HB.out | exact Below.refl _ _ | apply below_alloc | apply pw_below_drewN | apply below_drew1 | apply below_drew | refine below_set ?_ (Aside0.out (by assumption))) | exact HB.out))); rintro e w66 ⟨v169, rfl, ho0, hb⟩; refine ⟨_, rfl, ?_⟩; have n0_ := Aside0.mk (Kd.R_elder' (by (with_reducible repeat (first | apply Kd.R_alloc | apply Kd.R_drewN | apply Kd.R_drew)); exact HO_8.out) (Kd.R_base ho0) hb); have n1_ := Aside0.mk (Kd.R_lower (Kd.R_new' ho0 (Kd.R_lt (by (with_reducible repeat (first | apply Kd.R_alloc | apply Kd.R_drewN | apply Kd.R_drew)); exact HO_8.out))) (below_size (by repeat (first | (with_reducible first | exact HB.out | apply below_alloc | apply pw_below_drewN | apply below_drew1) | exact HB.out)))); have n2_ := Aside0.mk (below_step (by repeat (first | (with_reducible first | exact HB.out | apply below_alloc | apply pw_below_drewN | apply below_drew1) | exact HB.out)) hb); clear HO_8; clear HB; have HO_8 := n0_; have HO170 := n1_; have HB := n2_; clear n0_ n1_ n2_; (try clear hb); (try clear hb2); (try clear hk); (try clear hi); (try clear ho0)) | ((with_reducible refine gate_dst (N := 13) rfl ?_); (try (refine gate_guard (by rfl) ?_; dsimp only)); refine box_event ?hg (N := 13) ?hd (cs := #[.bool false, .slice none 0 0, .string (⟨#[]⟩ : ByteArray), .string (⟨#[]⟩ : ByteArray)]) (t := 32) ?hr ?_; (case hd => rfl); (case hg => rfl); (case hr => first | (go_simp; done) | (go_simp; rfl)); intro gb173 hg w67 hbox hb; have n0_ := Aside0.mk (Kd.R_below (by (with_reducible repeat (first | apply Kd.R_alloc | apply Kd.R_drewN | apply Kd.R_drew)); exact HO_8.out) hb); have n1_ := Aside0.mk (Kd.R_below (by (with_reducible repeat (first | apply Kd.R_alloc | apply Kd.R_drewN | apply Kd.R_drew)); exact HO170.out) hb); have n2_ := Aside0.mk (below_step (by repeat (first | (with_reducible first | exact HB.out | apply below_alloc | apply pw_below_drewN | apply below_drew1) | exact HB.out)) hb); have n3_ := Aside0.mk (hbox); have n4_ := Aside0.mk ((by rw [hg]; exact (below_size (by repeat (first | (with_reducible first | exact HB.out | apply below_alloc | apply pw_below_drewN | apply below_drew1) | exact HB.out))) : w.heap.size ≤ gb173)); have n5_ := Aside0.mk ((by rw [hg]; exact (below_size (by repeat (first | (with_reducible first | exact HB.out | apply below_alloc | apply pw_below_drewN | apply below_drew1) | exact HB.out))) : w.heap.size ≤ gb173)); clear HO_8; clear HO170; clear HB; have HO_8 := n0_; have HO170 := n1_; have HB := n2_; have BK173 := n3_; have GW173 := n4_; have GE173 := n5_; clear n0_ n1_ n2_ n3_ n4_ n5_; clear hb hbox hg; have hcz68_0 : w67.cell? ⟨gb173, 0, none⟩ = some (.bool false) := (blk_cell BK173.out 0).trans rfl; have hcz68_1 : w67.cell? ⟨gb173, 1, none⟩ = some (.slice none 0 0) := (blk_cell BK173.out 1).trans rfl; have hcz68_2 : w67.cell? ⟨gb173, 2, none⟩ = some (.string (⟨#[]⟩ : ByteArray)) := (blk_cell BK173.out 2).trans rfl; have hcz68_3 : w67.cell? ⟨gb173, 3, none⟩ = some (.string (⟨#[]⟩ : ByteArray)) := (blk_cell BK173.out 3).trans rfl; have hfz68_0 := blk_frozen BK173.out 0; have hfz68_1 := blk_frozen BK173.out 1; have hfz68_2 := blk_frozen BK173.out 2; have hfz68_3 := blk_frozen BK173.out 3; obtain ⟨Ao69, co69, eo69⟩ := Kd.R_slice HO170.out; subst eo69; obtain ⟨Ao70, co70, eo70⟩ := Kd.R_slice HO_8.out; subst eo70) | (go_at_call 11; (with_reducible refine (laws_ints.calls k3 _ _ t168 _ _ x8_3 false _ ?side1 ?side2 ?side3 ?side4 A52.out).mono ?_); (case side1 => refine (Kd.R_reads' (e := 28) (base := w.heap.size) (ok := fun k_ => (True ∧ some k_ ≠ (.slice Ao70 x8_3.length co70 : Value).ownBlock)) (n := t168.length) (c := co69) ?_).2.2; exact (by (with_reducible repeat (first | apply Kd.R_alloc | apply Kd.R_drewN | apply Kd.R_drew)); exact (Kd.R_mono (Kd.R_far (p := ⟨gb173, 3, none⟩) (Kd.R_far (p := ⟨gb173, 2, none⟩) (Kd.R_far (p := ⟨gb173, 1, none⟩) (Kd.R_far (p := ⟨gb173, 0, none⟩) (Kd.R_types HO170.out BK173.out (by decide)) (fun _ hk => hk.2) (.bool t167)) (fun _ hk => hk.2) (.slice Ao69 t168.length co69)) (fun _ hk => hk.2) (.string t171)) (fun _ hk => hk.2) (.string t172)) (fun _ h_ => h_.1)))); (case side2 => exact (Kd.R_reads' HO170.out).2.1); (case side3 => refine (Kd.R_reads' (e := 28) (base := w.heap.size) (ok := fun k_ => (True ∧ some k_ ≠ (.slice Ao69 t168.length co69 : Value).ownBlock)) (n := x8_3.length) (c := co70) ?_).2.2; exact (by (with_reducible repeat (first | apply Kd.R_alloc | apply Kd.R_drewN | apply Kd.R_drew)); exact (Kd.R_mono (Kd.R_far (p := ⟨gb173, 3, none⟩) (Kd.R_far (p := ⟨gb173, 2, none⟩) (Kd.R_far (p := ⟨gb173, 1, none⟩) (Kd.R_far (p := ⟨gb173, 0, none⟩) (Kd.R_types HO_8.out BK173.out (by decide)) (fun _ hk => hk.2) (.bool t167)) (fun _ hk => hk.2) (.slice Ao69 t168.length co69)) (fun _ hk => hk.2) (.string t171)) (fun _ hk => hk.2) (.string t172)) (fun _ h_ => h_.1)))); (case side4 => exact (Kd.R_reads' HO_8.out).2.1); rintro e w' ⟨rfl, ⟨nd, rfl⟩⟩))
                                go_ret
                                exact ⟨by first | rfl | (simp [errW_none, errW_some] <;> rfl) | (simp [*, errW_none, errW_some] <;> rfl), by repeat (first | (with_reducible first | exact HB.out | apply below_alloc | apply pw_below_drewN | apply below_drew1 | refine below_set ?_ GE173.out) | exact HB.out)⟩
                            · rw [if_neg c51] at H
                              have c51b0 : (t167 == true) = false := by simpa using c51
                              (try (have c51b1 : decide (t167 = true) = false := by simpa using c51))
                              (try (have c51b2 : (t167 == true) = false := by simpa using c51))
                              (try (have c51b3 : ¬ (t167 = true) := by simpa using c51))
                              clear c51
                              obtain rfl := Option.some.inj H
                              go_wp2_with (first | ((with_reducible refine gate_callee (f := 10) rfl ?_); refine goesL_ (some 75) rfl rfl Tryd.func10 (by kernel_rfl) rfl #[.string ((((⟨#[118]⟩ : ByteArray) ++ x7_3) ++ (⟨#[45]⟩ : ByteArray)) ++ a1)] rfl (by (try simp only [List.map_toArray, List.map_cons, List.map_nil]); first | done | rfl | (simp only [List.length_drop, List.length_take]; rfl)) ?_; (with_reducible refine (impl_LikeParse.calls k3 ((((⟨#[118]⟩ : ByteArray) ++ x7_3) ++ (⟨#[45]⟩ : ByteArray)) ++ a1) t167 t168 t171 t172 _ ?side1 A50.out).mono ?_); (case side1 => first | exact HG.out | exact GW.below HG.out (by repeat (first | (with_reducible first | exact HB.out | exact Below.refl _ _ | apply below_alloc | apply pw_below_drewN | apply below_drew1 | apply below_drew | refine below_set ?_ (Aside0.out (by assumption))) | exact HB.out))); rintro e w71 ⟨v169, rfl, ho0, hb⟩; refine ⟨_, rfl, ?_⟩; have n0_ := Aside0.mk (Kd.R_elder' (by (with_reducible repeat (first | apply Kd.R_alloc | apply Kd.R_drewN | apply Kd.R_drew)); exact HO_8.out) (Kd.R_base ho0) hb); have n1_ := Aside0.mk (Kd.R_lower (Kd.R_new' ho0 (Kd.R_lt (by (with_reducible repeat (first | apply Kd.R_alloc | apply Kd.R_drewN | apply Kd.R_drew)); exact HO_8.out))) (below_size (by repeat (first | (with_reducible first | exact HB.out | apply below_alloc | apply pw_below_drewN | apply below_drew1) | exact HB.out)))); have n2_ := Aside0.mk (below_step (by repeat (first | (with_reducible first | exact HB.out | apply below_alloc | apply pw_below_drewN | apply below_drew1) | exact HB.out)) hb); clear HO_8; clear HB; have HO_8 := n0_; have HO170 := n1_; have HB := n2_; clear n0_ n1_ n2_; (try clear hb); (try clear hb2); (try clear hk); (try clear hi); (try clear ho0)) | ((with_reducible refine gate_dst (N := 13) rfl ?_); (try (refine gate_guard (by rfl) ?_; dsimp only)); refine box_event ?hg (N := 13) ?hd (cs := #[.bool false, .slice none 0 0, .string (⟨#[]⟩ : ByteArray), .string (⟨#[]⟩ : ByteArray)]) (t := 32) ?hr ?_; (case hd => rfl); (case hg => rfl); (case hr => first | (go_simp; done) | (go_simp; rfl)); intro gb173 hg w72 hbox hb; have n0_ := Aside0.mk (Kd.R_below (by (with_reducible repeat (first | apply Kd.R_alloc | apply Kd.R_drewN | apply Kd.R_drew)); exact HO_8.out) hb); have n1_ := Aside0.mk (Kd.R_below (by (with_reducible repeat (first | apply Kd.R_alloc | apply Kd.R_drewN | apply Kd.R_drew)); exact HO170.out) hb); have n2_ := Aside0.mk (below_step (by repeat (first | (with_reducible first | exact HB.out | apply below_alloc | apply pw_below_drewN | apply below_drew1) | exact HB.out)) hb); have n3_ := Aside0.mk (hbox); have n4_ := Aside0.mk ((by rw [hg]; exact (below_size (by repeat (first | (with_reducible first | exact HB.out | apply below_alloc | apply pw_below_drewN | apply below_drew1) | exact HB.out))) : w.heap.size ≤ gb173)); have n5_ := Aside0.mk ((by rw [hg]; exact (below_size (by repeat (first | (with_reducible first | exact HB.out | apply below_alloc | apply pw_below_drewN | apply below_drew1) | exact HB.out))) : w.heap.size ≤ gb173)); clear HO_8; clear HO170; clear HB; have HO_8 := n0_; have HO170 := n1_; have HB := n2_; have BK173 := n3_; have GW173 := n4_; have GE173 := n5_; clear n0_ n1_ n2_ n3_ n4_ n5_; clear hb hbox hg; have hcz73_0 : w72.cell? ⟨gb173, 0, none⟩ = some (.bool false) := (blk_cell BK173.out 0).trans rfl; have hcz73_1 : w72.cell? ⟨gb173, 1, none⟩ = some (.slice none 0 0) := (blk_cell BK173.out 1).trans rfl; have hcz73_2 : w72.cell? ⟨gb173, 2, none⟩ = some (.string (⟨#[]⟩ : ByteArray)) := (blk_cell BK173.out 2).trans rfl; have hcz73_3 : w72.cell? ⟨gb173, 3, none⟩ = some (.string (⟨#[]⟩ : ByteArray)) := (blk_cell BK173.out 3).trans rfl; have hfz73_0 := blk_frozen BK173.out 0; have hfz73_1 := blk_frozen BK173.out 1; have hfz73_2 := blk_frozen BK173.out 2; have hfz73_3 := blk_frozen BK173.out 3; obtain ⟨Ao74, co74, eo74⟩ := Kd.R_slice HO170.out; subst eo74))
                              go_ret
                              exact ⟨by first | rfl | (simp [errW_none, errW_some] <;> rfl) | (simp [*, errW_none, errW_some] <;> rfl), by repeat (first | (with_reducible first | exact HB.out | apply below_alloc | apply pw_below_drewN | apply below_drew1 | refine below_set ?_ GE173.out) | exact HB.out)⟩
                          · rw [if_neg c49] at H
                            exact absurd H (by simp)
                        · rw [if_neg c48] at H
                          exact absurd H (by simp)
                      · rw [if_neg c47] at H
                        exact absurd H (by simp)
                    · replace c46 := Bool.eq_false_iff.mpr c46
                      subst c46
                      have H1 : (if x7_3.size + 1 ≤ 9223372036854775807 then (if (x7_3 ++ (⟨#[45]⟩ : ByteArray)).size + a1.size ≤ 9223372036854775807 then ((impl_LikeParse.f k3 ((x7_3 ++ (⟨#[45]⟩ : ByteArray)) ++ a1)).bind fun bt175 => (if (bt175.1 == false) = true then ((laws_ints.f k3 bt175.2.1 x8_3).bind fun t182 => (if t182 = true then (if 1 + a1.size ≤ 9223372036854775807 then (if bt175.2.2.1.toList = ((⟨#[45]⟩ : ByteArray) ++ a1).toList then (some (bt175.2.2.2.toList == ((x7_3 ++ (⟨#[45]⟩ : ByteArray)) ++ a1).toList)) else (some false)) else (none)) else (some false))) else (some false))) else (none)) else (none)) = some r := by rw [if_neg (show ¬ (false = true) by decide)] at H; exact H
                      clear H
                      have H := H1
                      clear H1
                      by_cases c75 : x7_3.size + 1 ≤ 9223372036854775807
                      · rw [if_pos c75] at H
                        have c75b0 := eq_true c75
                        have c75b1 : decide (x7_3.size + 1 ≤ 9223372036854775807) = true := decide_eq_true c75
                        try have c75b2 : (9223372036854775807 < x7_3.size + 1) = False := eq_false (Nat.not_lt.2 c75)
                        by_cases c76 : (x7_3 ++ (⟨#[45]⟩ : ByteArray)).size + a1.size ≤ 9223372036854775807
                        · rw [if_pos c76] at H
                          have c76b0 := eq_true c76
                          have c76b1 : decide ((x7_3 ++ (⟨#[45]⟩ : ByteArray)).size + a1.size ≤ 9223372036854775807) = true := decide_eq_true c76
                          try have c76b2 : (9223372036854775807 < (x7_3 ++ (⟨#[45]⟩ : ByteArray)).size + a1.size) = False := eq_false (Nat.not_lt.2 c76)
                          try (have c76b3 := c76b2; simp [ByteArray.size_append, show (⟨#[45]⟩ : ByteArray).size = 1 from rfl] at c76b3; replace c76b3 := eq_false (Nat.not_lt.2 c76b3))
                          try have c76b4 : (9223372036854775807 < x7_3.size + 1 + a1.size) = False := eq_false (Nat.not_lt.2 (by have h_ := c76; simp only [ByteArray.size_append] at h_; exact h_))
                          replace H := Option.bind_eq_some_iff.mp H
                          obtain ⟨⟨t175, t176, t179, t180⟩, A770, H⟩ := H
                          replace H : (if (t175 == false) = true then ((laws_ints.f k3 t176 x8_3).bind fun t182 => (if t182 = true then (if 1 + a1.size ≤ 9223372036854775807 then (if t179.toList = ((⟨#[45]⟩ : ByteArray) ++ a1).toList then (some (t180.toList == ((x7_3 ++ (⟨#[45]⟩ : ByteArray)) ++ a1).toList)) else (some false)) else (none)) else (some false))) else (some false)) = some r := H
                          have A77 := Aside0.mk A770
                          clear A770
                          by_cases c78 : (t175 == false) = true
                          · rw [if_pos c78] at H
                            have c78b0 : (t175 == false) = true := c78
                            (try (have c78b1 : decide (t175 = false) = true := by simpa using c78))
                            (try (have c78b2 : (t175 == false) = true := by simpa using c78))
                            clear c78
                            replace H := Option.bind_eq_some_iff.mp H
                            obtain ⟨t182, A790, H⟩ := H
                            replace H : (if t182 = true then (if 1 + a1.size ≤ 9223372036854775807 then (if t179.toList = ((⟨#[45]⟩ : ByteArray) ++ a1).toList then (some (t180.toList == ((x7_3 ++ (⟨#[45]⟩ : ByteArray)) ++ a1).toList)) else (some false)) else (none)) else (some false)) = some r := H
                            have A79 := Aside0.mk A790
                            clear A790
                            by_cases c80 : t182 = true
                            · subst c80
                              have H1 : (if 1 + a1.size ≤ 9223372036854775807 then (if t179.toList = ((⟨#[45]⟩ : ByteArray) ++ a1).toList then (some (t180.toList == ((x7_3 ++ (⟨#[45]⟩ : ByteArray)) ++ a1).toList)) else (some false)) else (none)) = some r := by rw [if_pos rfl] at H; exact H
                              clear H
                              have H := H1
                              clear H1
                              by_cases c81 : 1 + a1.size ≤ 9223372036854775807
                              · rw [if_pos c81] at H
                                have c81b0 := eq_true c81
                                have c81b1 : decide (1 + a1.size ≤ 9223372036854775807) = true := decide_eq_true c81
                                try have c81b2 : (9223372036854775807 < 1 + a1.size) = False := eq_false (Nat.not_lt.2 c81)
                                by_cases c82 : t179.toList = ((⟨#[45]⟩ : ByteArray) ++ a1).toList
                                · rw [if_pos c82] at H
                                  have c82b0 : (t179.toList == ((⟨#[45]⟩ : ByteArray) ++ a1).toList) = true := beq_iff_eq.mpr c82
                                  have c82b1 : (t179.toList != ((⟨#[45]⟩ : ByteArray) ++ a1).toList) = false := bne_eq_false_iff_eq.mpr c82
                                  clear c82
                                  obtain rfl := Option.some.inj H
                                  go_wp2_with (first | ((with_reducible refine gate_callee (f := 10) rfl ?_); refine goesL_ (some 75) rfl rfl Tryd.func10 (by kernel_rfl) rfl #[.string ((x7_3 ++ (⟨#[45]⟩ : ByteArray)) ++ a1)] rfl (by (try simp only [List.map_toArray, List.map_cons, List.map_nil]); first | done | rfl | (simp only [List.length_drop, List.length_take]; rfl)) ?_; (with_reducible refine (impl_LikeParse.calls k3 ((x7_3 ++ (⟨#[45]⟩ : ByteArray)) ++ a1) t175 t176 t179 t180 _ ?side1 A77.out).mono ?_); (case side1 => first | exact HG.out | exact GW.below HG.out (by repeat (first | (with_reducible first | exact HB.out | exact Below.refl _ _ | apply below_alloc | apply pw_below_drewN | apply below_drew1 | apply below_drew | refine below_set ?_ (Aside0.out (by assumption))) | exact HB.out))); rintro e w83 ⟨v177, rfl, ho0, hb⟩; refine ⟨_, rfl, ?_⟩; have n0_ := Aside0.mk (Kd.R_elder' (by (with_reducible repeat (first | apply Kd.R_alloc | apply Kd.R_drewN | apply Kd.R_drew)); exact HO_8.out) (Kd.R_base ho0) hb); have n1_ := Aside0.mk (Kd.R_lower (Kd.R_new' ho0 (Kd.R_lt (by (with_reducible repeat (first | apply Kd.R_alloc | apply Kd.R_drewN | apply Kd.R_drew)); exact HO_8.out))) (below_size (by repeat (first | (with_reducible first | exact HB.out | apply below_alloc | apply pw_below_drewN | apply below_drew1) | exact HB.out)))); have n2_ := Aside0.mk (below_step (by repeat (first | (with_reducible first | exact HB.out | apply below_alloc | apply pw_below_drewN | apply below_drew1) | exact HB.out)) hb); clear HO_8; clear HB; have HO_8 := n0_; have HO178 := n1_; have HB := n2_; clear n0_ n1_ n2_; (try clear hb); (try clear hb2); (try clear hk); (try clear hi); (try clear ho0)) | ((with_reducible refine gate_dst (N := 13) rfl ?_); (try (refine gate_guard (by rfl) ?_; dsimp only)); refine box_event ?hg (N := 13) ?hd (cs := #[.bool false, .slice none 0 0, .string (⟨#[]⟩ : ByteArray), .string (⟨#[]⟩ : ByteArray)]) (t := 32) ?hr ?_; (case hd => rfl); (case hg => rfl); (case hr => first | (go_simp; done) | (go_simp; rfl)); intro gb181 hg w84 hbox hb; have n0_ := Aside0.mk (Kd.R_below (by (with_reducible repeat (first | apply Kd.R_alloc | apply Kd.R_drewN | apply Kd.R_drew)); exact HO_8.out) hb); have n1_ := Aside0.mk (Kd.R_below (by (with_reducible repeat (first | apply Kd.R_alloc | apply Kd.R_drewN | apply Kd.R_drew)); exact HO178.out) hb); have n2_ := Aside0.mk (below_step (by repeat (first | (with_reducible first | exact HB.out | apply below_alloc | apply pw_below_drewN | apply below_drew1) | exact HB.out)) hb); have n3_ := Aside0.mk (hbox); have n4_ := Aside0.mk ((by rw [hg]; exact (below_size (by repeat (first | (with_reducible first | exact HB.out | apply below_alloc | apply pw_below_drewN | apply below_drew1) | exact HB.out))) : w.heap.size ≤ gb181)); have n5_ := Aside0.mk ((by rw [hg]; exact (below_size (by repeat (first | (with_reducible first | exact HB.out | apply below_alloc | apply pw_below_drewN | apply below_drew1) | exact HB.out))) : w.heap.size ≤ gb181)); clear HO_8; clear HO178; clear HB; have HO_8 := n0_; have HO178 := n1_; have HB := n2_; have BK181 := n3_; have GW181 := n4_; have GE181 := n5_; clear n0_ n1_ n2_ n3_ n4_ n5_; clear hb hbox hg; have hcz85_0 : w84.cell? ⟨gb181, 0, none⟩ = some (.bool false) := (blk_cell BK181.out 0).trans rfl; have hcz85_1 : w84.cell? ⟨gb181, 1, none⟩ = some (.slice none 0 0) := (blk_cell BK181.out 1).trans rfl; have hcz85_2 : w84.cell? ⟨gb181, 2, none⟩ = some (.string (⟨#[]⟩ : ByteArray)) := (blk_cell BK181.out 2).trans rfl; have hcz85_3 : w84.cell? ⟨gb181, 3, none⟩ = some (.string (⟨#[]⟩ : ByteArray)) := (blk_cell BK181.out 3).trans rfl; have hfz85_0 := blk_frozen BK181.out 0; have hfz85_1 := blk_frozen BK181.out 1; have hfz85_2 := blk_frozen BK181.out 2; have hfz85_3 := blk_frozen BK181.out 3; obtain ⟨Ao86, co86, eo86⟩ := Kd.R_slice HO178.out; subst eo86; obtain ⟨Ao87, co87, eo87⟩ := Kd.R_slice HO_8.out; subst eo87) | (go_at_call 11; (with_reducible refine (laws_ints.calls k3 _ _ t176 _ _ x8_3 true _ ?side1 ?side2 ?side3 ?side4 A79.out).mono ?_); (case side1 => refine (Kd.R_reads' (e := 28) (base := w.heap.size) (ok := fun k_ => (True ∧ some k_ ≠ (.slice Ao87 x8_3.length co87 : Value).ownBlock)) (n := t176.length) (c := co86) ?_).2.2; exact (by (with_reducible repeat (first | apply Kd.R_alloc | apply Kd.R_drewN | apply Kd.R_drew)); exact (Kd.R_mono (Kd.R_far (p := ⟨gb181, 3, none⟩) (Kd.R_far (p := ⟨gb181, 2, none⟩) (Kd.R_far (p := ⟨gb181, 1, none⟩) (Kd.R_far (p := ⟨gb181, 0, none⟩) (Kd.R_types HO178.out BK181.out (by decide)) (fun _ hk => hk.2) (.bool t175)) (fun _ hk => hk.2) (.slice Ao86 t176.length co86)) (fun _ hk => hk.2) (.string t179)) (fun _ hk => hk.2) (.string t180)) (fun _ h_ => h_.1)))); (case side2 => exact (Kd.R_reads' HO178.out).2.1); (case side3 => refine (Kd.R_reads' (e := 28) (base := w.heap.size) (ok := fun k_ => (True ∧ some k_ ≠ (.slice Ao86 t176.length co86 : Value).ownBlock)) (n := x8_3.length) (c := co87) ?_).2.2; exact (by (with_reducible repeat (first | apply Kd.R_alloc | apply Kd.R_drewN | apply Kd.R_drew)); exact (Kd.R_mono (Kd.R_far (p := ⟨gb181, 3, none⟩) (Kd.R_far (p := ⟨gb181, 2, none⟩) (Kd.R_far (p := ⟨gb181, 1, none⟩) (Kd.R_far (p := ⟨gb181, 0, none⟩) (Kd.R_types HO_8.out BK181.out (by decide)) (fun _ hk => hk.2) (.bool t175)) (fun _ hk => hk.2) (.slice Ao86 t176.length co86)) (fun _ hk => hk.2) (.string t179)) (fun _ hk => hk.2) (.string t180)) (fun _ h_ => h_.1)))); (case side4 => exact (Kd.R_reads' HO_8.out).2.1); rintro e w' ⟨rfl, ⟨nd, rfl⟩⟩))
                                  go_ret
                                  exact ⟨by first | rfl | (simp [errW_none, errW_some] <;> rfl) | (simp [*, errW_none, errW_some] <;> rfl), by repeat (first | (with_reducible first | exact HB.out | apply below_alloc | apply pw_below_drewN | apply below_drew1 | refine below_set ?_ GE181.out) | exact HB.out)⟩
                                · rw [if_neg c82] at H
                                  have c82b0 : (t179.toList == ((⟨#[45]⟩ : ByteArray) ++ a1).toList) = false := beq_eq_false_iff_ne.mpr c82
                                  have c82b1 : (t179.toList != ((⟨#[45]⟩ : ByteArray) ++ a1).toList) = true := bne_iff_ne.mpr c82
                                  obtain rfl := Option.some.inj H
                                  go_wp2_with (first | ((with_reducible refine gate_callee (f := 10) rfl ?_); refine goesL_ (some 75) rfl rfl Tryd.func10 (by kernel_rfl) rfl #[.string ((x7_3 ++ (⟨#[45]⟩ : ByteArray)) ++ a1)] rfl (by (try simp only [List.map_toArray, List.map_cons, List.map_nil]); first | done | rfl | (simp only [List.length_drop, List.length_take]; rfl)) ?_; (with_reducible refine (impl_LikeParse.calls k3 ((x7_3 ++ (⟨#[45]⟩ : ByteArray)) ++ a1) t175 t176 t179 t180 _ ?side1 A77.out).mono ?_); (case side1 => first | exact HG.out | exact GW.below HG.out (by repeat (first | (with_reducible first | exact HB.out | exact Below.refl _ _ | apply below_alloc | apply pw_below_drewN | apply below_drew1 | apply below_drew | refine below_set ?_ (Aside0.out (by assumption))) | exact HB.out))); rintro e w88 ⟨v177, rfl, ho0, hb⟩; refine ⟨_, rfl, ?_⟩; have n0_ := Aside0.mk (Kd.R_elder' (by (with_reducible repeat (first | apply Kd.R_alloc | apply Kd.R_drewN | apply Kd.R_drew)); exact HO_8.out) (Kd.R_base ho0) hb); have n1_ := Aside0.mk (Kd.R_lower (Kd.R_new' ho0 (Kd.R_lt (by (with_reducible repeat (first | apply Kd.R_alloc | apply Kd.R_drewN | apply Kd.R_drew)); exact HO_8.out))) (below_size (by repeat (first | (with_reducible first | exact HB.out | apply below_alloc | apply pw_below_drewN | apply below_drew1) | exact HB.out)))); have n2_ := Aside0.mk (below_step (by repeat (first | (with_reducible first | exact HB.out | apply below_alloc | apply pw_below_drewN | apply below_drew1) | exact HB.out)) hb); clear HO_8; clear HB; have HO_8 := n0_; have HO178 := n1_; have HB := n2_; clear n0_ n1_ n2_; (try clear hb); (try clear hb2); (try clear hk); (try clear hi); (try clear ho0)) | ((with_reducible refine gate_dst (N := 13) rfl ?_); (try (refine gate_guard (by rfl) ?_; dsimp only)); refine box_event ?hg (N := 13) ?hd (cs := #[.bool false, .slice none 0 0, .string (⟨#[]⟩ : ByteArray), .string (⟨#[]⟩ : ByteArray)]) (t := 32) ?hr ?_; (case hd => rfl); (case hg => rfl); (case hr => first | (go_simp; done) | (go_simp; rfl)); intro gb181 hg w89 hbox hb; have n0_ := Aside0.mk (Kd.R_below (by (with_reducible repeat (first | apply Kd.R_alloc | apply Kd.R_drewN | apply Kd.R_drew)); exact HO_8.out) hb); have n1_ := Aside0.mk (Kd.R_below (by (with_reducible repeat (first | apply Kd.R_alloc | apply Kd.R_drewN | apply Kd.R_drew)); exact HO178.out) hb); have n2_ := Aside0.mk (below_step (by repeat (first | (with_reducible first | exact HB.out | apply below_alloc | apply pw_below_drewN | apply below_drew1) | exact HB.out)) hb); have n3_ := Aside0.mk (hbox); have n4_ := Aside0.mk ((by rw [hg]; exact (below_size (by repeat (first | (with_reducible first | exact HB.out | apply below_alloc | apply pw_below_drewN | apply below_drew1) | exact HB.out))) : w.heap.size ≤ gb181)); have n5_ := Aside0.mk ((by rw [hg]; exact (below_size (by repeat (first | (with_reducible first | exact HB.out | apply below_alloc | apply pw_below_drewN | apply below_drew1) | exact HB.out))) : w.heap.size ≤ gb181)); clear HO_8; clear HO178; clear HB; have HO_8 := n0_; have HO178 := n1_; have HB := n2_; have BK181 := n3_; have GW181 := n4_; have GE181 := n5_; clear n0_ n1_ n2_ n3_ n4_ n5_; clear hb hbox hg; have hcz90_0 : w89.cell? ⟨gb181, 0, none⟩ = some (.bool false) := (blk_cell BK181.out 0).trans rfl; have hcz90_1 : w89.cell? ⟨gb181, 1, none⟩ = some (.slice none 0 0) := (blk_cell BK181.out 1).trans rfl; have hcz90_2 : w89.cell? ⟨gb181, 2, none⟩ = some (.string (⟨#[]⟩ : ByteArray)) := (blk_cell BK181.out 2).trans rfl; have hcz90_3 : w89.cell? ⟨gb181, 3, none⟩ = some (.string (⟨#[]⟩ : ByteArray)) := (blk_cell BK181.out 3).trans rfl; have hfz90_0 := blk_frozen BK181.out 0; have hfz90_1 := blk_frozen BK181.out 1; have hfz90_2 := blk_frozen BK181.out 2; have hfz90_3 := blk_frozen BK181.out 3; obtain ⟨Ao91, co91, eo91⟩ := Kd.R_slice HO178.out; subst eo91; obtain ⟨Ao92, co92, eo92⟩ := Kd.R_slice HO_8.out; subst eo92) | (go_at_call 11; (with_reducible refine (laws_ints.calls k3 _ _ t176 _ _ x8_3 true _ ?side1 ?side2 ?side3 ?side4 A79.out).mono ?_); (case side1 => refine (Kd.R_reads' (e := 28) (base := w.heap.size) (ok := fun k_ => (True ∧ some k_ ≠ (.slice Ao92 x8_3.length co92 : Value).ownBlock)) (n := t176.length) (c := co91) ?_).2.2; exact (by (with_reducible repeat (first | apply Kd.R_alloc | apply Kd.R_drewN | apply Kd.R_drew)); exact (Kd.R_mono (Kd.R_far (p := ⟨gb181, 3, none⟩) (Kd.R_far (p := ⟨gb181, 2, none⟩) (Kd.R_far (p := ⟨gb181, 1, none⟩) (Kd.R_far (p := ⟨gb181, 0, none⟩) (Kd.R_types HO178.out BK181.out (by decide)) (fun _ hk => hk.2) (.bool t175)) (fun _ hk => hk.2) (.slice Ao91 t176.length co91)) (fun _ hk => hk.2) (.string t179)) (fun _ hk => hk.2) (.string t180)) (fun _ h_ => h_.1)))); (case side2 => exact (Kd.R_reads' HO178.out).2.1); (case side3 => refine (Kd.R_reads' (e := 28) (base := w.heap.size) (ok := fun k_ => (True ∧ some k_ ≠ (.slice Ao91 t176.length co91 : Value).ownBlock)) (n := x8_3.length) (c := co92) ?_).2.2; exact (by (with_reducible repeat (first | apply Kd.R_alloc | apply Kd.R_drewN | apply Kd.R_drew)); exact (Kd.R_mono (Kd.R_far (p := ⟨gb181, 3, none⟩) (Kd.R_far (p := ⟨gb181, 2, none⟩) (Kd.R_far (p := ⟨gb181, 1, none⟩) (Kd.R_far (p := ⟨gb181, 0, none⟩) (Kd.R_types HO_8.out BK181.out (by decide)) (fun _ hk => hk.2) (.bool t175)) (fun _ hk => hk.2) (.slice Ao91 t176.length co91)) (fun _ hk => hk.2) (.string t179)) (fun _ hk => hk.2) (.string t180)) (fun _ h_ => h_.1)))); (case side4 => exact (Kd.R_reads' HO_8.out).2.1); rintro e w' ⟨rfl, ⟨nd, rfl⟩⟩))
                                  go_ret
                                  exact ⟨by first | rfl | (simp [errW_none, errW_some] <;> rfl) | (simp [*, errW_none, errW_some] <;> rfl), by repeat (first | (with_reducible first | exact HB.out | apply below_alloc | apply pw_below_drewN | apply below_drew1 | refine below_set ?_ GE181.out) | exact HB.out)⟩
                              · rw [if_neg c81] at H
                                exact absurd H (by simp)
                            · replace c80 := Bool.eq_false_iff.mpr c80
                              subst c80
                              have H1 : (some false) = some r := by rw [if_neg (show ¬ (false = true) by decide)] at H; exact H
                              clear H
                              have H := H1
                              clear H1
                              obtain rfl := Option.some.inj H
                              go_wp2_with (first | ((with_reducible refine gate_callee (f := 10) rfl ?_); refine goesL_ (some 75) rfl rfl Tryd.func10 (by kernel_rfl) rfl #[.string ((x7_3 ++ (⟨#[45]⟩ : ByteArray)) ++ a1)] rfl (by (try simp only [List.map_toArray, List.map_cons, List.map_nil]); first | done | rfl | (simp only [List.length_drop, List.length_take]; rfl)) ?_; (with_reducible refine (impl_LikeParse.calls k3 ((x7_3 ++ (⟨#[45]⟩ : ByteArray)) ++ a1) t175 t176 t179 t180 _ ?side1 A77.out).mono ?_); (case side1 => first | exact HG.out | exact GW.below HG.out (by repeat (first | (with_reducible first | exact HB.out | exact Below.refl _ _ | apply below_alloc | apply pw_below_drewN | apply below_drew1 | apply below_drew | refine below_set ?_ (Aside0.out (by assumption))) | exact HB.out))); rintro e w93 ⟨v177, rfl, ho0, hb⟩; refine ⟨_, rfl, ?_⟩; have n0_ := Aside0.mk (Kd.R_elder' (by (with_reducible repeat (first | apply Kd.R_alloc | apply Kd.R_drewN | apply Kd.R_drew)); exact HO_8.out) (Kd.R_base ho0) hb); have n1_ := Aside0.mk (Kd.R_lower (Kd.R_new' ho0 (Kd.R_lt (by (with_reducible repeat (first | apply Kd.R_alloc | apply Kd.R_drewN | apply Kd.R_drew)); exact HO_8.out))) (below_size (by repeat (first | (with_reducible first | exact HB.out | apply below_alloc | apply pw_below_drewN | apply below_drew1) | exact HB.out)))); have n2_ := Aside0.mk (below_step (by repeat (first | (with_reducible first | exact HB.out | apply below_alloc | apply pw_below_drewN | apply below_drew1) | exact HB.out)) hb); clear HO_8; clear HB; have HO_8 := n0_; have HO178 := n1_; have HB := n2_; clear n0_ n1_ n2_; (try clear hb); (try clear hb2); (try clear hk); (try clear hi); (try clear ho0)) | ((with_reducible refine gate_dst (N := 13) rfl ?_); (try (refine gate_guard (by rfl) ?_; dsimp only)); refine box_event ?hg (N := 13) ?hd (cs := #[.bool false, .slice none 0 0, .string (⟨#[]⟩ : ByteArray), .string (⟨#[]⟩ : ByteArray)]) (t := 32) ?hr ?_; (case hd => rfl); (case hg => rfl); (case hr => first | (go_simp; done) | (go_simp; rfl)); intro gb181 hg w94 hbox hb; have n0_ := Aside0.mk (Kd.R_below (by (with_reducible repeat (first | apply Kd.R_alloc | apply Kd.R_drewN | apply Kd.R_drew)); exact HO_8.out) hb); have n1_ := Aside0.mk (Kd.R_below (by (with_reducible repeat (first | apply Kd.R_alloc | apply Kd.R_drewN | apply Kd.R_drew)); exact HO178.out) hb); have n2_ := Aside0.mk (below_step (by repeat (first | (with_reducible first | exact HB.out | apply below_alloc | apply pw_below_drewN | apply below_drew1) | exact HB.out)) hb); have n3_ := Aside0.mk (hbox); have n4_ := Aside0.mk ((by rw [hg]; exact (below_size (by repeat (first | (with_reducible first | exact HB.out | apply below_alloc | apply pw_below_drewN | apply below_drew1) | exact HB.out))) : w.heap.size ≤ gb181)); have n5_ := Aside0.mk ((by rw [hg]; exact (below_size (by repeat (first | (with_reducible first | exact HB.out | apply below_alloc | apply pw_below_drewN | apply below_drew1) | exact HB.out))) : w.heap.size ≤ gb181)); clear HO_8; clear HO178; clear HB; have HO_8 := n0_; have HO178 := n1_; have HB := n2_; have BK181 := n3_; have GW181 := n4_; have GE181 := n5_; clear n0_ n1_ n2_ n3_ n4_ n5_; clear hb hbox hg; have hcz95_0 : w94.cell? ⟨gb181, 0, none⟩ = some (.bool false) := (blk_cell BK181.out 0).trans rfl; have hcz95_1 : w94.cell? ⟨gb181, 1, none⟩ = some (.slice none 0 0) := (blk_cell BK181.out 1).trans rfl; have hcz95_2 : w94.cell? ⟨gb181, 2, none⟩ = some (.string (⟨#[]⟩ : ByteArray)) := (blk_cell BK181.out 2).trans rfl; have hcz95_3 : w94.cell? ⟨gb181, 3, none⟩ = some (.string (⟨#[]⟩ : ByteArray)) := (blk_cell BK181.out 3).trans rfl; have hfz95_0 := blk_frozen BK181.out 0; have hfz95_1 := blk_frozen BK181.out 1; have hfz95_2 := blk_frozen BK181.out 2; have hfz95_3 := blk_frozen BK181.out 3; obtain ⟨Ao96, co96, eo96⟩ := Kd.R_slice HO178.out; subst eo96; obtain ⟨Ao97, co97, eo97⟩ := Kd.R_slice HO_8.out; subst eo97) | (go_at_call 11; (with_reducible refine (laws_ints.calls k3 _ _ t176 _ _ x8_3 false _ ?side1 ?side2 ?side3 ?side4 A79.out).mono ?_); (case side1 => refine (Kd.R_reads' (e := 28) (base := w.heap.size) (ok := fun k_ => (True ∧ some k_ ≠ (.slice Ao97 x8_3.length co97 : Value).ownBlock)) (n := t176.length) (c := co96) ?_).2.2; exact (by (with_reducible repeat (first | apply Kd.R_alloc | apply Kd.R_drewN | apply Kd.R_drew)); exact (Kd.R_mono (Kd.R_far (p := ⟨gb181, 3, none⟩) (Kd.R_far (p := ⟨gb181, 2, none⟩) (Kd.R_far (p := ⟨gb181, 1, none⟩) (Kd.R_far (p := ⟨gb181, 0, none⟩) (Kd.R_types HO178.out BK181.out (by decide)) (fun _ hk => hk.2) (.bool t175)) (fun _ hk => hk.2) (.slice Ao96 t176.length co96)) (fun _ hk => hk.2) (.string t179)) (fun _ hk => hk.2) (.string t180)) (fun _ h_ => h_.1)))); (case side2 => exact (Kd.R_reads' HO178.out).2.1); (case side3 => refine (Kd.R_reads' (e := 28) (base := w.heap.size) (ok := fun k_ => (True ∧ some k_ ≠ (.slice Ao96 t176.length co96 : Value).ownBlock)) (n := x8_3.length) (c := co97) ?_).2.2; exact (by (with_reducible repeat (first | apply Kd.R_alloc | apply Kd.R_drewN | apply Kd.R_drew)); exact (Kd.R_mono (Kd.R_far (p := ⟨gb181, 3, none⟩) (Kd.R_far (p := ⟨gb181, 2, none⟩) (Kd.R_far (p := ⟨gb181, 1, none⟩) (Kd.R_far (p := ⟨gb181, 0, none⟩) (Kd.R_types HO_8.out BK181.out (by decide)) (fun _ hk => hk.2) (.bool t175)) (fun _ hk => hk.2) (.slice Ao96 t176.length co96)) (fun _ hk => hk.2) (.string t179)) (fun _ hk => hk.2) (.string t180)) (fun _ h_ => h_.1)))); (case side4 => exact (Kd.R_reads' HO_8.out).2.1); rintro e w' ⟨rfl, ⟨nd, rfl⟩⟩))
                              go_ret
                              exact ⟨by first | rfl | (simp [errW_none, errW_some] <;> rfl) | (simp [*, errW_none, errW_some] <;> rfl), by repeat (first | (with_reducible first | exact HB.out | apply below_alloc | apply pw_below_drewN | apply below_drew1 | refine below_set ?_ GE181.out) | exact HB.out)⟩
                          · rw [if_neg c78] at H
                            have c78b0 : (t175 == false) = false := by simpa using c78
                            (try (have c78b1 : decide (t175 = false) = false := by simpa using c78))
                            (try (have c78b2 : (t175 == false) = false := by simpa using c78))
                            (try (have c78b3 : ¬ (t175 = false) := by simpa using c78))
                            clear c78
                            obtain rfl := Option.some.inj H
                            go_wp2_with (first | ((with_reducible refine gate_callee (f := 10) rfl ?_); refine goesL_ (some 75) rfl rfl Tryd.func10 (by kernel_rfl) rfl #[.string ((x7_3 ++ (⟨#[45]⟩ : ByteArray)) ++ a1)] rfl (by (try simp only [List.map_toArray, List.map_cons, List.map_nil]); first | done | rfl | (simp only [List.length_drop, List.length_take]; rfl)) ?_; (with_reducible refine (impl_LikeParse.calls k3 ((x7_3 ++ (⟨#[45]⟩ : ByteArray)) ++ a1) t175 t176 t179 t180 _ ?side1 A77.out).mono ?_); (case side1 => first | exact HG.out | exact GW.below HG.out (by repeat (first | (with_reducible first | exact HB.out | exact Below.refl _ _ | apply below_alloc | apply pw_below_drewN | apply below_drew1 | apply below_drew | refine below_set ?_ (Aside0.out (by assumption))) | exact HB.out))); rintro e w98 ⟨v177, rfl, ho0, hb⟩; refine ⟨_, rfl, ?_⟩; have n0_ := Aside0.mk (Kd.R_elder' (by (with_reducible repeat (first | apply Kd.R_alloc | apply Kd.R_drewN | apply Kd.R_drew)); exact HO_8.out) (Kd.R_base ho0) hb); have n1_ := Aside0.mk (Kd.R_lower (Kd.R_new' ho0 (Kd.R_lt (by (with_reducible repeat (first | apply Kd.R_alloc | apply Kd.R_drewN | apply Kd.R_drew)); exact HO_8.out))) (below_size (by repeat (first | (with_reducible first | exact HB.out | apply below_alloc | apply pw_below_drewN | apply below_drew1) | exact HB.out)))); have n2_ := Aside0.mk (below_step (by repeat (first | (with_reducible first | exact HB.out | apply below_alloc | apply pw_below_drewN | apply below_drew1) | exact HB.out)) hb); clear HO_8; clear HB; have HO_8 := n0_; have HO178 := n1_; have HB := n2_; clear n0_ n1_ n2_; (try clear hb); (try clear hb2); (try clear hk); (try clear hi); (try clear ho0)) | ((with_reducible refine gate_dst (N := 13) rfl ?_); (try (refine gate_guard (by rfl) ?_; dsimp only)); refine box_event ?hg (N := 13) ?hd (cs := #[.bool false, .slice none 0 0, .string (⟨#[]⟩ : ByteArray), .string (⟨#[]⟩ : ByteArray)]) (t := 32) ?hr ?_; (case hd => rfl); (case hg => rfl); (case hr => first | (go_simp; done) | (go_simp; rfl)); intro gb181 hg w99 hbox hb; have n0_ := Aside0.mk (Kd.R_below (by (with_reducible repeat (first | apply Kd.R_alloc | apply Kd.R_drewN | apply Kd.R_drew)); exact HO_8.out) hb); have n1_ := Aside0.mk (Kd.R_below (by (with_reducible repeat (first | apply Kd.R_alloc | apply Kd.R_drewN | apply Kd.R_drew)); exact HO178.out) hb); have n2_ := Aside0.mk (below_step (by repeat (first | (with_reducible first | exact HB.out | apply below_alloc | apply pw_below_drewN | apply below_drew1) | exact HB.out)) hb); have n3_ := Aside0.mk (hbox); have n4_ := Aside0.mk ((by rw [hg]; exact (below_size (by repeat (first | (with_reducible first | exact HB.out | apply below_alloc | apply pw_below_drewN | apply below_drew1) | exact HB.out))) : w.heap.size ≤ gb181)); have n5_ := Aside0.mk ((by rw [hg]; exact (below_size (by repeat (first | (with_reducible first | exact HB.out | apply below_alloc | apply pw_below_drewN | apply below_drew1) | exact HB.out))) : w.heap.size ≤ gb181)); clear HO_8; clear HO178; clear HB; have HO_8 := n0_; have HO178 := n1_; have HB := n2_; have BK181 := n3_; have GW181 := n4_; have GE181 := n5_; clear n0_ n1_ n2_ n3_ n4_ n5_; clear hb hbox hg; have hcz100_0 : w99.cell? ⟨gb181, 0, none⟩ = some (.bool false) := (blk_cell BK181.out 0).trans rfl; have hcz100_1 : w99.cell? ⟨gb181, 1, none⟩ = some (.slice none 0 0) := (blk_cell BK181.out 1).trans rfl; have hcz100_2 : w99.cell? ⟨gb181, 2, none⟩ = some (.string (⟨#[]⟩ : ByteArray)) := (blk_cell BK181.out 2).trans rfl; have hcz100_3 : w99.cell? ⟨gb181, 3, none⟩ = some (.string (⟨#[]⟩ : ByteArray)) := (blk_cell BK181.out 3).trans rfl; have hfz100_0 := blk_frozen BK181.out 0; have hfz100_1 := blk_frozen BK181.out 1; have hfz100_2 := blk_frozen BK181.out 2; have hfz100_3 := blk_frozen BK181.out 3; obtain ⟨Ao101, co101, eo101⟩ := Kd.R_slice HO178.out; subst eo101))
                            go_ret
                            exact ⟨by first | rfl | (simp [errW_none, errW_some] <;> rfl) | (simp [*, errW_none, errW_some] <;> rfl), by repeat (first | (with_reducible first | exact HB.out | apply below_alloc | apply pw_below_drewN | apply below_drew1 | refine below_set ?_ GE181.out) | exact HB.out)⟩
                        · rw [if_neg c76] at H
                          exact absurd H (by simp)
                      · rw [if_neg c75] at H
                        exact absurd H (by simp)

/-- THE ONE PURE STATEMENT of laws_FnLikeJoined. -/
def laws_FnLikeJoined.Pure : Prop := ∀ (l0 : List ByteArray) (a1 : ByteArray) (a2 : Bool), l0.length ≤ 9223372036854775807 → a1.size ≤ 140737488351232 → ∃ k, laws_FnLikeJoined.f k l0 a1 a2 = some true
theorem laws_FnLikeJoined.walk (P : laws_FnLikeJoined.Pure) (A0 : Option Addr) (c0 : Nat) (l0 : List ByteArray) (a1 : ByteArray) (a2 : Bool) (w : World) (hm0 : l0.length ≤ 9223372036854775807) (hm1 : a1.size ≤ 140737488351232) (hr0 : Kd.C Kd.string w A0 l0.length l0) (hc0 : l0.length ≤ c0) (hG : GW w) :
    Calls Tryd.prog 3 #[.slice A0 l0.length c0, .string a1, .bool a2] w fun e w' => e = .returned (.bool true) ∧ Below w.heap.size w w' := by
  obtain ⟨k, h⟩ := P l0 a1 a2 hm0 hm1
  refine (laws_FnLikeJoined.calls k _ _ l0 a1 a2 true w hr0 hc0 hG h).mono ?_
  rintro e w' ⟨rfl, hd⟩
  exact ⟨rfl, hd⟩

end Go.Proofs.YtajglnedoeboaaaDoor.Z
