-- Written by a program of this session (myprint.py).
import Derived.Test.YtcagdmeiigjkcaaZ0
import Derived.Test.YtcagdmeiigjkcaaZ2
import Derived.Test.YtcagdmeiigjkcaaZ5
import Derived.Test.YtcagdmeiigjkcaaZ7
import Derived.Test.YtcagdmeiigjkcaaGe
namespace Go.Proofs.Ytcagdmeiigjkcaa.Z
open Go.RowKit Go.Proofs.YtcagdmeiigjkcaaW.PrintWords Go.Proofs.YtcagdmeiigjkcaaW.PrintLast Go.Proofs.YtcagdmeiigjkcaaW.PrintMore
attribute [local go_sem high] Go.Proofs.Ytcagdmeiigjkcaa.Ge.gtr_str
attribute [local go_sem] max2_int min2_int max_two min_two max_three min_three max_four min_four   -- for this text's walks alone
set_option linter.unusedVariables false
set_option linter.unusedSimpArgs false

/-! ### laws_FnNumbersFilled: function 4 -/
mutual
def laws_FnNumbersFilled.j0 : Nat → List (S28) → List (S28) → Int → Bool → Option (Bool)
  | 0, _, _, _, _ => none
  | k + 1, x0, x1, x2, x15 => if x15 = true then (some true) else ((laws_numbers.f k x0).bind fun t171 => (if t171 = true then ((laws_numbers.f k x1).bind fun t172 => (laws_FnNumbersFilled.j1 k x0 x1 x2 (!t172))) else (laws_FnNumbersFilled.j1 k x0 x1 x2 true)))
def laws_FnNumbersFilled.j1 : Nat → List (S28) → List (S28) → Int → Bool → Option (Bool)
  | 0, _, _, _, _ => none
  | k + 1, x0, x1, x2, x23 => if x23 = true then (some true) else (if ([] : List (S28)).length + x0.length < 5864062014805 then (laws_FnNumbersFilled.l0 k x0 x1 (([] : List (S28)) ++ x0) x2 0) else (none))
def laws_FnNumbersFilled.l0 : Nat → List (S28) → List (S28) → List (S28) → Int → Int → Option (Bool)
  | 0, _, _, _, _, _ => none
  | k + 1, x0, x1, x7, x26, x27 => if x27 < x26 then (if x7.length < 5864062014805 then (laws_FnNumbersFilled.l0 k x0 x1 (x7 ++ [(⟨false, (⟨#[]⟩ : ByteArray)⟩ : S28)]) x26 ((x27 + 1) % 256)) else (none)) else ((laws_numbersAwake.f).bind fun t179 => (if t179 = true then ((impl_CompareNumbers.f x0 x7).bind fun t180 => (if t180 = 0 then ((impl_CompareNumbers.f x7 x1).bind fun t181 => ((impl_CompareNumbers.f x0 x1).bind fun t182 => (if t181 = t182 then ((impl_CompareNumbers.f x1 x7).bind fun t183 => ((impl_CompareNumbers.f x1 x0).bind fun t184 => (some (t183 == t184)))) else (some false)))) else (some false))) else (some false)))
end
def laws_FnNumbersFilled.f (k : Nat) (l0 : List (S28)) (l1 : List (S28)) (a2 : Int) : Option (Bool) := (laws_zzFits2.f k l0).bind fun t169 => (if t169 = true then ((laws_zzFits2.f k l1).bind fun t170 => (laws_FnNumbersFilled.j0 k l0 l1 a2 (!t170))) else (laws_FnNumbersFilled.j0 k l0 l1 a2 true))
theorem laws_FnNumbersFilled.mono_l : ∀ k, (∀ y0 y1 y2 y3, LeO (laws_FnNumbersFilled.j0 k y0 y1 y2 y3) (laws_FnNumbersFilled.j0 (k + 1) y0 y1 y2 y3)) ∧ (∀ y0 y1 y2 y3, LeO (laws_FnNumbersFilled.j1 k y0 y1 y2 y3) (laws_FnNumbersFilled.j1 (k + 1) y0 y1 y2 y3)) ∧ (∀ y0 y1 y2 y3 y4, LeO (laws_FnNumbersFilled.l0 k y0 y1 y2 y3 y4) (laws_FnNumbersFilled.l0 (k + 1) y0 y1 y2 y3 y4))
  | 0 => ⟨fun _ _ _ _ r h => by simp [laws_FnNumbersFilled.j0] at h, fun _ _ _ _ r h => by simp [laws_FnNumbersFilled.j1] at h, fun _ _ _ _ _ r h => by simp [laws_FnNumbersFilled.l0] at h⟩
  | k + 1 => by
    obtain ⟨ih0, ih1, ih2⟩ := laws_FnNumbersFilled.mono_l k
    refine ⟨?_, ?_, ?_⟩
    · intro y0 y1 y2 y3
      unfold laws_FnNumbersFilled.j0
      repeat' first
      | (with_reducible exact ih0 _ _ _ _)
      | (with_reducible exact ih1 _ _ _ _)
      | (with_reducible exact ih2 _ _ _ _ _)
      | (with_reducible exact laws_numbers.mono _ _)
      | (with_reducible exact laws_zzFits2.mono _ _)
      | (with_reducible exact LeO.refl _)
      | (with_reducible exact LeO.none _)
      | (with_reducible refine LeO.ite ?_ ?_)
      | (with_reducible refine LeO.bind ?_ (fun _ => ?_))
      | exact ih0 _ _ _ _
      | exact ih1 _ _ _ _
      | exact ih2 _ _ _ _ _
      | exact laws_numbers.mono _ _
      | exact laws_zzFits2.mono _ _
      | exact LeO.none _
      | refine LeO.ite ?_ ?_
      | refine LeO.bind ?_ (fun _ => ?_)
    · intro y0 y1 y2 y3
      unfold laws_FnNumbersFilled.j1
      repeat' first
      | (with_reducible exact ih0 _ _ _ _)
      | (with_reducible exact ih1 _ _ _ _)
      | (with_reducible exact ih2 _ _ _ _ _)
      | (with_reducible exact laws_numbers.mono _ _)
      | (with_reducible exact laws_zzFits2.mono _ _)
      | (with_reducible exact LeO.refl _)
      | (with_reducible exact LeO.none _)
      | (with_reducible refine LeO.ite ?_ ?_)
      | (with_reducible refine LeO.bind ?_ (fun _ => ?_))
      | exact ih0 _ _ _ _
      | exact ih1 _ _ _ _
      | exact ih2 _ _ _ _ _
      | exact laws_numbers.mono _ _
      | exact laws_zzFits2.mono _ _
      | exact LeO.none _
      | refine LeO.ite ?_ ?_
      | refine LeO.bind ?_ (fun _ => ?_)
    · intro y0 y1 y2 y3 y4
      unfold laws_FnNumbersFilled.l0
      repeat' first
      | (with_reducible exact ih0 _ _ _ _)
      | (with_reducible exact ih1 _ _ _ _)
      | (with_reducible exact ih2 _ _ _ _ _)
      | (with_reducible exact laws_numbers.mono _ _)
      | (with_reducible exact laws_zzFits2.mono _ _)
      | (with_reducible exact LeO.refl _)
      | (with_reducible exact LeO.none _)
      | (with_reducible refine LeO.ite ?_ ?_)
      | (with_reducible refine LeO.bind ?_ (fun _ => ?_))
      | exact ih0 _ _ _ _
      | exact ih1 _ _ _ _
      | exact ih2 _ _ _ _ _
      | exact laws_numbers.mono _ _
      | exact laws_zzFits2.mono _ _
      | exact LeO.none _
      | refine LeO.ite ?_ ?_
      | refine LeO.bind ?_ (fun _ => ?_)
theorem laws_FnNumbersFilled.mono : ∀ a0 a1 a2 k, LeO (laws_FnNumbersFilled.f k a0 a1 a2) (laws_FnNumbersFilled.f (k + 1) a0 a1 a2) := by
  intro a0 a1 a2 k
  obtain ⟨ih0, ih1, ih2⟩ := laws_FnNumbersFilled.mono_l k
  unfold laws_FnNumbersFilled.f
  repeat' first
      | (with_reducible exact ih0 _ _ _ _)
      | (with_reducible exact ih1 _ _ _ _)
      | (with_reducible exact ih2 _ _ _ _ _)
      | (with_reducible exact laws_numbers.mono _ _)
      | (with_reducible exact laws_zzFits2.mono _ _)
      | (with_reducible exact LeO.refl _)
      | (with_reducible exact LeO.none _)
      | (with_reducible refine LeO.ite ?_ ?_)
      | (with_reducible refine LeO.bind ?_ (fun _ => ?_))
      | exact ih0 _ _ _ _
      | exact ih1 _ _ _ _
      | exact ih2 _ _ _ _ _
      | exact laws_numbers.mono _ _
      | exact laws_zzFits2.mono _ _
      | exact LeO.none _
      | refine LeO.ite ?_ ?_
      | refine LeO.bind ?_ (fun _ => ?_)
set_option maxHeartbeats 8000000 in
set_option maxRecDepth 100000 in
theorem laws_FnNumbersFilled.calls (k : Nat) (A0 : Option Addr) (c0 : Nat) (l0 : List (S28)) (A1 : Option Addr) (c1 : Nat) (l1 : List (S28)) (a2 : Int) (r : Bool) (w : World) (hr0 : Kd.C k28 w A0 l0.length l0) (hc0 : l0.length ≤ c0) (hr1 : Kd.C k28 w A1 l1.length l1) (hc1 : l1.length ≤ c1) (h : laws_FnNumbersFilled.f k l0 l1 a2 = some r) :
    Calls Try.prog 4 #[.slice A0 l0.length c0, .slice A1 l1.length c1, .int .u8 a2] w fun e w' => e = .returned (.bool r) ∧ Below w.heap.size w w' := by
  have hu28 := Try.underlying28
  have HR0 := Aside0.mk hr0
  have HC0 := Aside0.mk hc0
  clear hr0 hc0
  have HR1 := Aside0.mk hr1
  have HC1 := Aside0.mk hc1
  clear hr1 hc1
  have HB := Aside0.mk (Below.refl w.heap.size w)
  have H : ((laws_zzFits2.f k l0).bind fun t169 => (if t169 = true then ((laws_zzFits2.f k l1).bind fun t170 => (laws_FnNumbersFilled.j0 k l0 l1 a2 (!t170))) else (laws_FnNumbersFilled.j0 k l0 l1 a2 true))) = some r := h
  clear h
  have HC4 := Aside0.mk H
  clear H
  go_enter Try.func4, Try.ntmps4
  go_upto_region 1 with (fail)
  go_cut [15] (fun v15 wc => ∃ (kq : Nat) (x15_3 : Bool), v15 = .bool x15_3 ∧ Aside0 (laws_FnNumbersFilled.j0 kq l0 l1 a2 x15_3 = some r) ∧ Aside0 (kq ≤ k) ∧ Aside0 (Below w.heap.size w wc))
  case first =>
    have H := HC4.out
    clear HC4
    replace H := Option.bind_eq_some_iff.mp H
    obtain ⟨t169, A50, H⟩ := H
    replace H : (if t169 = true then ((laws_zzFits2.f k l1).bind fun t170 => (laws_FnNumbersFilled.j0 k l0 l1 a2 (!t170))) else (laws_FnNumbersFilled.j0 k l0 l1 a2 true)) = some r := H
    have A5 := Aside0.mk A50
    clear A50
    by_cases c6 : t169 = true
    · subst c6
      have H1 : ((laws_zzFits2.f k l1).bind fun t170 => (laws_FnNumbersFilled.j0 k l0 l1 a2 (!t170))) = some r := by rw [if_pos rfl] at H; exact H
      clear H
      have H := H1
      clear H1
      replace H := Option.bind_eq_some_iff.mp H
      obtain ⟨t170, A70, H⟩ := H
      replace H : (laws_FnNumbersFilled.j0 k l0 l1 a2 (!t170)) = some r := H
      have A7 := Aside0.mk A70
      clear A70
      have H' := Aside0.mk H
      clear H
      go_wp2_with (first | ((with_reducible refine gate_callee (f := 8) rfl ?_); refine goesL_ (some 9) rfl rfl Try.func8 (by kernel_rfl) rfl #[.slice A0 l0.length c0] rfl (by (try simp only [List.map_toArray, List.map_cons, List.map_nil]); first | done | rfl | (simp only [List.length_drop, List.length_take]; rfl)) ?_; (with_reducible refine (laws_zzFits2.calls k _ _ l0 true _ ?side1 ?side2 A5.out).mono ?_); (case side1 => repeat (first | exact (Kd.C_below HR0.out HB.out) | (with_reducible refine Kd.C_alloc ?_ _) | (with_reducible refine Kd.C_drewN ?_ _) | (with_reducible refine Kd.C_drew ?_))); (case side2 => exact HC0.out); rintro e w8 ⟨rfl, hb⟩; refine ⟨_, rfl, ?_⟩; have n0_ := Aside0.mk (below_step (by repeat (first | (with_reducible first | exact HB.out | apply below_alloc | apply pw_below_drewN | apply below_drew1) | exact HB.out)) hb); clear HB; have HB := n0_; clear n0_; (try clear hb); (try clear hb2); (try clear hk); (try clear hi)) | (go_at_call 8; (with_reducible refine (laws_zzFits2.calls k _ _ l1 t170 _ ?side1 ?side2 A7.out).mono ?_); (case side1 => repeat (first | exact (Kd.C_below HR1.out HB.out) | (with_reducible refine Kd.C_alloc ?_ _) | (with_reducible refine Kd.C_drewN ?_ _) | (with_reducible refine Kd.C_drew ?_))); (case side2 => exact HC1.out); rintro e w9 ⟨rfl, hb⟩; have n0_ := Aside0.mk (below_step (by repeat (first | (with_reducible first | exact HB.out | apply below_alloc | apply pw_below_drewN | apply below_drew1) | exact HB.out)) hb); clear HB; have HB := n0_; clear n0_; (try clear hb); (try clear hb2); (try clear hk); (try clear hi)))
      go_meet
      case rel => exact ⟨_, (!t170), (by first | rfl | (simp; done) | (simp [*]; done)), H', ⟨by first | omega | exact Nat.le_refl _⟩, ⟨by repeat (first | (with_reducible first | exact HB.out | apply below_alloc | apply pw_below_drewN | apply below_drew1) | exact HB.out)⟩⟩
    · replace c6 := Bool.eq_false_iff.mpr c6
      subst c6
      have H1 : (laws_FnNumbersFilled.j0 k l0 l1 a2 true) = some r := by rw [if_neg (show ¬ (false = true) by decide)] at H; exact H
      clear H
      have H := H1
      clear H1
      have H' := Aside0.mk H
      clear H
      go_wp2_with (first | ((with_reducible refine gate_callee (f := 8) rfl ?_); refine goesL_ (some 9) rfl rfl Try.func8 (by kernel_rfl) rfl #[.slice A0 l0.length c0] rfl (by (try simp only [List.map_toArray, List.map_cons, List.map_nil]); first | done | rfl | (simp only [List.length_drop, List.length_take]; rfl)) ?_; (with_reducible refine (laws_zzFits2.calls k _ _ l0 false _ ?side1 ?side2 A5.out).mono ?_); (case side1 => repeat (first | exact (Kd.C_below HR0.out HB.out) | (with_reducible refine Kd.C_alloc ?_ _) | (with_reducible refine Kd.C_drewN ?_ _) | (with_reducible refine Kd.C_drew ?_))); (case side2 => exact HC0.out); rintro e w10 ⟨rfl, hb⟩; refine ⟨_, rfl, ?_⟩; have n0_ := Aside0.mk (below_step (by repeat (first | (with_reducible first | exact HB.out | apply below_alloc | apply pw_below_drewN | apply below_drew1) | exact HB.out)) hb); clear HB; have HB := n0_; clear n0_; (try clear hb); (try clear hb2); (try clear hk); (try clear hi)))
      go_meet
      case rel => exact ⟨_, (true), (by first | rfl | (simp; done) | (simp [*]; done)), H', ⟨by first | omega | exact Nat.le_refl _⟩, ⟨by repeat (first | (with_reducible first | exact HB.out | apply below_alloc | apply pw_below_drewN | apply below_drew1) | exact HB.out)⟩⟩
  case rest =>
    clear HC4
    try clear c1
    try clear p2
    try clear c4
    try clear c6
    try clear c8
    obtain ⟨kq, x15_3, rfl, HA, HJ3, HB⟩ := hcut
    cases kq with
    | zero => exact absurd HA.out (by simp [laws_FnNumbersFilled.j0])
    | succ kj3 =>
      have H := HA.out
      clear HA
      simp only [laws_FnNumbersFilled.j0] at H
      by_cases c11 : x15_3 = true
      · subst c11
        have H1 : (some true) = some r := by rw [if_pos rfl] at H; exact H
        clear H
        have H := H1
        clear H1
        obtain rfl := Option.some.inj H
        go_wp2
        go_ret
        exact ⟨by first | rfl | (simp [errW_none, errW_some] <;> rfl) | (simp [*, errW_none, errW_some] <;> rfl), by repeat (first | (with_reducible first | exact HB.out | apply below_alloc | apply pw_below_drewN | apply below_drew1) | exact HB.out)⟩
      · replace c11 := Bool.eq_false_iff.mpr c11
        subst c11
        have H1 : ((laws_numbers.f kj3 l0).bind fun t171 => (if t171 = true then ((laws_numbers.f kj3 l1).bind fun t172 => (laws_FnNumbersFilled.j1 kj3 l0 l1 a2 (!t172))) else (laws_FnNumbersFilled.j1 kj3 l0 l1 a2 true))) = some r := by rw [if_neg (show ¬ (false = true) by decide)] at H; exact H
        clear H
        have H := H1
        clear H1
        have HC12 := Aside0.mk H
        clear H
        go_upto_region 3 with (fail)
        go_cut [23] (fun v23 wc => ∃ (kq : Nat) (x23_11 : Bool), v23 = .bool x23_11 ∧ Aside0 (laws_FnNumbersFilled.j1 kq l0 l1 a2 x23_11 = some r) ∧ Aside0 (kq ≤ kj3) ∧ Aside0 (Below w.heap.size w wc))
        case first =>
          have H := HC12.out
          clear HC12
          replace H := Option.bind_eq_some_iff.mp H
          obtain ⟨t171, A130, H⟩ := H
          replace H : (if t171 = true then ((laws_numbers.f kj3 l1).bind fun t172 => (laws_FnNumbersFilled.j1 kj3 l0 l1 a2 (!t172))) else (laws_FnNumbersFilled.j1 kj3 l0 l1 a2 true)) = some r := H
          have A13 := Aside0.mk A130
          clear A130
          by_cases c14 : t171 = true
          · subst c14
            have H1 : ((laws_numbers.f kj3 l1).bind fun t172 => (laws_FnNumbersFilled.j1 kj3 l0 l1 a2 (!t172))) = some r := by rw [if_pos rfl] at H; exact H
            clear H
            have H := H1
            clear H1
            replace H := Option.bind_eq_some_iff.mp H
            obtain ⟨t172, A150, H⟩ := H
            replace H : (laws_FnNumbersFilled.j1 kj3 l0 l1 a2 (!t172)) = some r := H
            have A15 := Aside0.mk A150
            clear A150
            have H' := Aside0.mk H
            clear H
            go_wp2_with (first | ((with_reducible refine gate_callee (f := 9) rfl ?_); refine goesL_ (some 17) rfl rfl Try.func9 (by kernel_rfl) rfl #[.slice A0 l0.length c0] rfl (by (try simp only [List.map_toArray, List.map_cons, List.map_nil]); first | done | rfl | (simp only [List.length_drop, List.length_take]; rfl)) ?_; (with_reducible refine (laws_numbers.calls kj3 _ _ l0 true _ ?side1 ?side2 A13.out).mono ?_); (case side1 => repeat (first | exact (Kd.C_below HR0.out HB.out) | (with_reducible refine Kd.C_alloc ?_ _) | (with_reducible refine Kd.C_drewN ?_ _) | (with_reducible refine Kd.C_drew ?_))); (case side2 => exact HC0.out); rintro e w16 ⟨rfl, hb⟩; refine ⟨_, rfl, ?_⟩; have n0_ := Aside0.mk (below_step (by repeat (first | (with_reducible first | exact HB.out | apply below_alloc | apply pw_below_drewN | apply below_drew1) | exact HB.out)) hb); clear HB; have HB := n0_; clear n0_; (try clear hb); (try clear hb2); (try clear hk); (try clear hi)) | (go_at_call 9; (with_reducible refine (laws_numbers.calls kj3 _ _ l1 t172 _ ?side1 ?side2 A15.out).mono ?_); (case side1 => repeat (first | exact (Kd.C_below HR1.out HB.out) | (with_reducible refine Kd.C_alloc ?_ _) | (with_reducible refine Kd.C_drewN ?_ _) | (with_reducible refine Kd.C_drew ?_))); (case side2 => exact HC1.out); rintro e w17 ⟨rfl, hb⟩; have n0_ := Aside0.mk (below_step (by repeat (first | (with_reducible first | exact HB.out | apply below_alloc | apply pw_below_drewN | apply below_drew1) | exact HB.out)) hb); clear HB; have HB := n0_; clear n0_; (try clear hb); (try clear hb2); (try clear hk); (try clear hi)))
            go_meet
            case rel => exact ⟨_, (!t172), (by first | rfl | (simp; done) | (simp [*]; done)), H', ⟨by have := HJ3.out; first | omega | exact Nat.le_refl _⟩, ⟨by repeat (first | (with_reducible first | exact HB.out | apply below_alloc | apply pw_below_drewN | apply below_drew1) | exact HB.out)⟩⟩
          · replace c14 := Bool.eq_false_iff.mpr c14
            subst c14
            have H1 : (laws_FnNumbersFilled.j1 kj3 l0 l1 a2 true) = some r := by rw [if_neg (show ¬ (false = true) by decide)] at H; exact H
            clear H
            have H := H1
            clear H1
            have H' := Aside0.mk H
            clear H
            go_wp2_with (first | ((with_reducible refine gate_callee (f := 9) rfl ?_); refine goesL_ (some 17) rfl rfl Try.func9 (by kernel_rfl) rfl #[.slice A0 l0.length c0] rfl (by (try simp only [List.map_toArray, List.map_cons, List.map_nil]); first | done | rfl | (simp only [List.length_drop, List.length_take]; rfl)) ?_; (with_reducible refine (laws_numbers.calls kj3 _ _ l0 false _ ?side1 ?side2 A13.out).mono ?_); (case side1 => repeat (first | exact (Kd.C_below HR0.out HB.out) | (with_reducible refine Kd.C_alloc ?_ _) | (with_reducible refine Kd.C_drewN ?_ _) | (with_reducible refine Kd.C_drew ?_))); (case side2 => exact HC0.out); rintro e w18 ⟨rfl, hb⟩; refine ⟨_, rfl, ?_⟩; have n0_ := Aside0.mk (below_step (by repeat (first | (with_reducible first | exact HB.out | apply below_alloc | apply pw_below_drewN | apply below_drew1) | exact HB.out)) hb); clear HB; have HB := n0_; clear n0_; (try clear hb); (try clear hb2); (try clear hk); (try clear hi)))
            go_meet
            case rel => exact ⟨_, (true), (by first | rfl | (simp; done) | (simp [*]; done)), H', ⟨by have := HJ3.out; first | omega | exact Nat.le_refl _⟩, ⟨by repeat (first | (with_reducible first | exact HB.out | apply below_alloc | apply pw_below_drewN | apply below_drew1) | exact HB.out)⟩⟩
        case rest =>
          clear HC12
          try clear c1
          try clear p2
          try clear c4
          try clear c6
          try clear c8
          try clear c9
          try clear c11
          try clear c14
          try clear p2
          obtain ⟨kq, x23_11, rfl, HA, HJ11, HB⟩ := hcut
          cases kq with
          | zero => exact absurd HA.out (by simp [laws_FnNumbersFilled.j1])
          | succ kj11 =>
            have H := HA.out
            clear HA
            simp only [laws_FnNumbersFilled.j1] at H
            by_cases c19 : x23_11 = true
            · subst c19
              have H1 : (some true) = some r := by rw [if_pos rfl] at H; exact H
              clear H
              have H := H1
              clear H1
              obtain rfl := Option.some.inj H
              go_wp2
              go_ret
              exact ⟨by first | rfl | (simp [errW_none, errW_some] <;> rfl) | (simp [*, errW_none, errW_some] <;> rfl), by repeat (first | (with_reducible first | exact HB.out | apply below_alloc | apply pw_below_drewN | apply below_drew1) | exact HB.out)⟩
            · replace c19 := Bool.eq_false_iff.mpr c19
              subst c19
              have H1 : (if ([] : List (S28)).length + l0.length < 5864062014805 then (laws_FnNumbersFilled.l0 kj11 l0 l1 (([] : List (S28)) ++ l0) a2 0) else (none)) = some r := by rw [if_neg (show ¬ (false = true) by decide)] at H; exact H
              clear H
              have H := H1
              clear H1
              by_cases c20 : ([] : List (S28)).length + l0.length < 5864062014805
              · rw [if_pos c20] at H
                have LMc20 := Aside0.mk c20
                clear c20
                obtain ⟨y173, hy173⟩ : ∃ y_ : List (S28), y_ = (([] : List (S28)) ++ l0) := ⟨_, rfl⟩
                replace H : (laws_FnNumbersFilled.l0 kj11 l0 l1 y173 a2 0) = some r := by first | (rw [hy173]; with_reducible exact H) | (have H2_ := (Option.bind_some _ _).symm.trans H; rw [hy173]; with_reducible exact H2_) | (have H2_ := (Option.bind_some _ _).symm.trans H; with_reducible exact H2_) | with_reducible exact H | (rw [hy173]; exact H) | exact H
                have Ny173 := Aside0.mk hy173
                clear hy173
                have H' := Aside0.mk H
                clear H
                go_wp2_with (first | ((with_reducible refine gate_builtin (b := .append) (xs := #[.const (.slice none 0 0), .tmp 24]) rfl ?_); at_builtin; refine Kd.R_append_rows k28 (w0 := w) w.heap.size rfl (.const (.slice none 0 0)) (.tmp 24) 22 28 (.agg #[(.bool false), (.string ⟨#[]⟩)]) 24 rfl Try.underlying22 info28 rfl (by decide) (by omega) (.slice none 0 0) ([] : List (S28)) l0 _ _ _ (fun _ => True) (fun _ => False) rfl rfl ?aO ?aR (fun _ _ h => h) (fun _ h => h.elim) ?aF ?aB ?aS ?aL ?_; (case aR => repeat (first | exact (Kd.C_below HR0.out HB.out) | (with_reducible refine Kd.C_alloc ?_ _) | (with_reducible refine Kd.C_drewN ?_ _) | (with_reducible refine Kd.C_drew ?_))); (case aB => exact (by repeat (first | (with_reducible first | exact HB.out | apply below_alloc | apply pw_below_drewN | apply below_drew1) | exact HB.out))); (case aF => exact (fun _ _ => trivial)); (case aO => exact ((Kd.R_nil _ _ _ _ (fun _ => True)))); (case aS => exact (below_size (by repeat (first | (with_reducible first | exact HB.out | apply below_alloc | apply pw_below_drewN | apply below_drew1) | exact HB.out)))); (case aL => have := LMc20.out; omega); intro v174 w21 ho hb hg hat; rw [← Ny173.out] at ho; have n0_ := Aside0.mk (hb); have n1_ := Aside0.mk (ho); clear HB; have HB := n0_; have HO175 := n1_; clear n0_ n1_; clear ho hb hg hat))
                go_loopg [7, 27] kj11 (fun kq v7 v27 w' => ∃ (x7_3 : List (S28)) (x27_3 : Int), v27 = .int .u8 x27_3 ∧ Aside0 (laws_FnNumbersFilled.l0 kq l0 l1 x7_3 a2 x27_3 = some r) ∧ Aside0 (kq ≤ kj11) ∧ Aside0 (Kd.R k28 28 w' w.heap.size (fun _ => True) v7 x7_3) ∧ Aside0 (Below w.heap.size w w'))
                case atStart => exact ⟨(y173), (0), (by first | rfl | (simp; done) | (simp [*]; done)), H', ⟨Nat.le_refl _⟩, ⟨by (with_reducible repeat (first | apply Kd.R_alloc | apply Kd.R_drewN | apply Kd.R_drew)); exact HO175.out⟩, ⟨by repeat (first | (with_reducible first | exact HB.out | apply below_alloc | apply pw_below_drewN | apply below_drew1) | exact HB.out)⟩⟩
                case round =>
                  clear H'
                  try clear c1
                  try clear c2
                  try clear p2
                  try clear c4
                  try clear c6
                  try clear c8
                  try clear c9
                  try clear c11
                  try clear c14
                  try clear c19
                  try clear c20
                  try clear p2
                  obtain ⟨x7_3, x27_3, rfl, HA, HK3, HO_7, HB⟩ := hrel
                  cases gk with
                  | zero => exact absurd HA.out (by simp [laws_FnNumbersFilled.l0])
                  | succ k3 =>
                    have H := HA.out
                    clear HA
                    simp only [laws_FnNumbersFilled.l0] at H
                    by_cases c22 : x27_3 < a2
                    · rw [if_pos c22] at H
                      have c22b0 : decide (x27_3 < a2) = true := decide_eq_true c22
                      clear c22
                      by_cases c23 : x7_3.length < 5864062014805
                      · rw [if_pos c23] at H
                        have LMc23 := Aside0.mk c23
                        clear c23
                        obtain ⟨y176, hy176⟩ : ∃ y_ : List (S28), y_ = (x7_3 ++ [(⟨false, (⟨#[]⟩ : ByteArray)⟩ : S28)]) := ⟨_, rfl⟩
                        replace H : (laws_FnNumbersFilled.l0 k3 l0 l1 y176 a2 ((x27_3 + 1) % 256)) = some r := by first | (rw [hy176]; with_reducible exact H) | (have H2_ := (Option.bind_some _ _).symm.trans H; rw [hy176]; with_reducible exact H2_) | (have H2_ := (Option.bind_some _ _).symm.trans H; with_reducible exact H2_) | with_reducible exact H | (rw [hy176]; exact H) | exact H
                        have Ny176 := Aside0.mk hy176
                        clear hy176
                        have H' := Aside0.mk H
                        clear H
                        go_wp2_with (first | ((with_reducible refine gate_builtin (b := .append) (xs := #[.tmp 29, .tmp 31]) rfl ?_); at_builtin; refine Kd.R_append k28 (w0 := w) w.heap.size rfl (.tmp 29) (.tmp 31) 22 28 (.agg #[(.bool false), (.string ⟨#[]⟩)]) 24 rfl Try.underlying22 info28 rfl (by decide) (by omega) u7 x7_3 (⟨false, (⟨#[]⟩ : ByteArray)⟩ : S28) [.bool false, .string (⟨#[]⟩ : ByteArray)] (fun _ => True) (fun _ => False) rfl rfl ?aP (fun _ hk => hk.elim) ?aF ?aO ?aB ?aS ?aL ?_; (case aP => exact k28_mkM _ _ _ (⟨false, (⟨#[]⟩ : ByteArray)⟩ : S28)); (case aB => exact (by repeat (first | (with_reducible first | exact HB.out | apply below_alloc | apply pw_below_drewN | apply below_drew1) | exact HB.out))); (case aF => exact (fun _ _ => trivial)); (case aO => exact (by (with_reducible repeat (first | apply Kd.R_alloc | apply Kd.R_drewN | apply Kd.R_drew)); exact HO_7.out)); (case aS => exact (below_size (by repeat (first | (with_reducible first | exact HB.out | apply below_alloc | apply pw_below_drewN | apply below_drew1) | exact HB.out)))); (case aL => have := LMc23.out; omega); intro v177 w24 ho hb hg hat; rw [← Ny176.out] at ho; have n0_ := Aside0.mk (hb); have n1_ := Aside0.mk (ho); clear HB; clear HO_7; have HB := n0_; have HO178 := n1_; clear n0_ n1_; clear ho hb hg hat))
                        go_roundg k3
                        case measure => have := HJ3.out; have := HJ11.out; have := HK3.out; omega
                        case rel => exact ⟨(y176), ((x27_3 + 1) % 256), (by first | rfl | (simp; done) | (simp [*]; done)), H', ⟨by have := HJ3.out; have := HJ11.out; have := HK3.out; omega⟩, ⟨by (with_reducible repeat (first | apply Kd.R_alloc | apply Kd.R_drewN | apply Kd.R_drew)); exact HO178.out⟩, ⟨by repeat (first | (with_reducible first | exact HB.out | apply below_alloc | apply pw_below_drewN | apply below_drew1) | exact HB.out)⟩⟩
                      · rw [if_neg c23] at H
                        exact absurd H (by simp)
                    · rw [if_neg c22] at H
                      have c22b0 : decide (x27_3 < a2) = false := decide_eq_false c22
                      clear c22
                      replace H := Option.bind_eq_some_iff.mp H
                      obtain ⟨t179, A250, H⟩ := H
                      replace H : (if t179 = true then ((impl_CompareNumbers.f l0 x7_3).bind fun t180 => (if t180 = 0 then ((impl_CompareNumbers.f x7_3 l1).bind fun t181 => ((impl_CompareNumbers.f l0 l1).bind fun t182 => (if t181 = t182 then ((impl_CompareNumbers.f l1 x7_3).bind fun t183 => ((impl_CompareNumbers.f l1 l0).bind fun t184 => (some (t183 == t184)))) else (some false)))) else (some false))) else (some false)) = some r := H
                      have A25 := Aside0.mk A250
                      clear A250
                      by_cases c26 : t179 = true
                      · subst c26
                        have H1 : ((impl_CompareNumbers.f l0 x7_3).bind fun t180 => (if t180 = 0 then ((impl_CompareNumbers.f x7_3 l1).bind fun t181 => ((impl_CompareNumbers.f l0 l1).bind fun t182 => (if t181 = t182 then ((impl_CompareNumbers.f l1 x7_3).bind fun t183 => ((impl_CompareNumbers.f l1 l0).bind fun t184 => (some (t183 == t184)))) else (some false)))) else (some false))) = some r := by rw [if_pos rfl] at H; exact H
                        clear H
                        have H := H1
                        clear H1
                        replace H := Option.bind_eq_some_iff.mp H
                        obtain ⟨t180, A270, H⟩ := H
                        replace H : (if t180 = 0 then ((impl_CompareNumbers.f x7_3 l1).bind fun t181 => ((impl_CompareNumbers.f l0 l1).bind fun t182 => (if t181 = t182 then ((impl_CompareNumbers.f l1 x7_3).bind fun t183 => ((impl_CompareNumbers.f l1 l0).bind fun t184 => (some (t183 == t184)))) else (some false)))) else (some false)) = some r := H
                        have A27 := Aside0.mk A270
                        clear A270
                        by_cases c28 : t180 = 0
                        · rw [if_pos c28] at H
                          have c28b0 : (t180 == 0) = true := beq_iff_eq.mpr c28
                          have c28b1 : (t180 != 0) = false := bne_eq_false_iff_eq.mpr c28
                          clear c28
                          replace H := Option.bind_eq_some_iff.mp H
                          obtain ⟨t181, A290, H⟩ := H
                          replace H : ((impl_CompareNumbers.f l0 l1).bind fun t182 => (if t181 = t182 then ((impl_CompareNumbers.f l1 x7_3).bind fun t183 => ((impl_CompareNumbers.f l1 l0).bind fun t184 => (some (t183 == t184)))) else (some false))) = some r := H
                          have A29 := Aside0.mk A290
                          clear A290
                          replace H := Option.bind_eq_some_iff.mp H
                          obtain ⟨t182, A300, H⟩ := H
                          replace H : (if t181 = t182 then ((impl_CompareNumbers.f l1 x7_3).bind fun t183 => ((impl_CompareNumbers.f l1 l0).bind fun t184 => (some (t183 == t184)))) else (some false)) = some r := H
                          have A30 := Aside0.mk A300
                          clear A300
                          by_cases c31 : t181 = t182
                          · rw [if_pos c31] at H
                            have c31b0 : (t181 == t182) = true := beq_iff_eq.mpr c31
                            have c31b1 : (t181 != t182) = false := bne_eq_false_iff_eq.mpr c31
                            clear c31
                            replace H := Option.bind_eq_some_iff.mp H
                            obtain ⟨t183, A320, H⟩ := H
                            replace H : ((impl_CompareNumbers.f l1 l0).bind fun t184 => (some (t183 == t184))) = some r := H
                            have A32 := Aside0.mk A320
                            clear A320
                            replace H := Option.bind_eq_some_iff.mp H
                            obtain ⟨t184, A330, H⟩ := H
                            replace H : (some (t183 == t184)) = some r := H
                            have A33 := Aside0.mk A330
                            clear A330
                            obtain rfl := Option.some.inj H
                            go_wp2_with (first | ((with_reducible refine gate_callee (f := 13) rfl ?_); refine goesL_ (some 34) rfl rfl Try.func13 (by kernel_rfl) rfl #[] rfl (by (try simp only [List.map_toArray, List.map_cons, List.map_nil]); first | done | rfl | (simp only [List.length_drop, List.length_take]; rfl)) ?_; (with_reducible refine (laws_numbersAwake.calls  true _ A25.out).mono ?_); rintro e w34 ⟨rfl, hb⟩; refine ⟨_, rfl, ?_⟩; have n0_ := Aside0.mk (Kd.R_below (by (with_reducible repeat (first | apply Kd.R_alloc | apply Kd.R_drewN | apply Kd.R_drew)); exact HO_7.out) hb); have n1_ := Aside0.mk (below_step (by repeat (first | (with_reducible first | exact HB.out | apply below_alloc | apply pw_below_drewN | apply below_drew1) | exact HB.out)) hb); clear HO_7; clear HB; have HO_7 := n0_; have HB := n1_; clear n0_ n1_; (try clear hb); (try clear hb2); (try clear hk); (try clear hi); obtain ⟨Ao35, co35, eo35⟩ := Kd.R_slice HO_7.out; subst eo35) | (go_at_call 10; (with_reducible refine (impl_CompareNumbers.calls _ _ l0 _ _ x7_3 t180 _ ?side1 ?side2 ?side3 ?side4 A27.out).mono ?_); (case side1 => repeat (first | exact (Kd.C_below HR0.out HB.out) | (with_reducible refine Kd.C_alloc ?_ _) | (with_reducible refine Kd.C_drewN ?_ _) | (with_reducible refine Kd.C_drew ?_))); (case side2 => exact HC0.out); (case side3 => repeat (first | exact (Kd.R_reads' HO_7.out).2.2 | (with_reducible refine Kd.C_alloc ?_ _) | (with_reducible refine Kd.C_drewN ?_ _) | (with_reducible refine Kd.C_drew ?_))); (case side4 => exact (Kd.R_reads' HO_7.out).2.1); rintro e w36 ⟨rfl, hb⟩; have n0_ := Aside0.mk (Kd.R_below (by (with_reducible repeat (first | apply Kd.R_alloc | apply Kd.R_drewN | apply Kd.R_drew)); exact HO_7.out) hb); have n1_ := Aside0.mk (below_step (by repeat (first | (with_reducible first | exact HB.out | apply below_alloc | apply pw_below_drewN | apply below_drew1) | exact HB.out)) hb); clear HO_7; clear HB; have HO_7 := n0_; have HB := n1_; clear n0_ n1_; (try clear hb); (try clear hb2); (try clear hk); (try clear hi)) | (go_at_call 10; (with_reducible refine (impl_CompareNumbers.calls _ _ x7_3 _ _ l1 t181 _ ?side1 ?side2 ?side3 ?side4 A29.out).mono ?_); (case side1 => repeat (first | exact (Kd.R_reads' HO_7.out).2.2 | (with_reducible refine Kd.C_alloc ?_ _) | (with_reducible refine Kd.C_drewN ?_ _) | (with_reducible refine Kd.C_drew ?_))); (case side2 => exact (Kd.R_reads' HO_7.out).2.1); (case side3 => repeat (first | exact (Kd.C_below HR1.out HB.out) | (with_reducible refine Kd.C_alloc ?_ _) | (with_reducible refine Kd.C_drewN ?_ _) | (with_reducible refine Kd.C_drew ?_))); (case side4 => exact HC1.out); rintro e w37 ⟨rfl, hb⟩; have n0_ := Aside0.mk (Kd.R_below (by (with_reducible repeat (first | apply Kd.R_alloc | apply Kd.R_drewN | apply Kd.R_drew)); exact HO_7.out) hb); have n1_ := Aside0.mk (below_step (by repeat (first | (with_reducible first | exact HB.out | apply below_alloc | apply pw_below_drewN | apply below_drew1) | exact HB.out)) hb); clear HO_7; clear HB; have HO_7 := n0_; have HB := n1_; clear n0_ n1_; (try clear hb); (try clear hb2); (try clear hk); (try clear hi)) | (go_at_call 10; (with_reducible refine (impl_CompareNumbers.calls _ _ l0 _ _ l1 t182 _ ?side1 ?side2 ?side3 ?side4 A30.out).mono ?_); (case side1 => repeat (first | exact (Kd.C_below HR0.out HB.out) | (with_reducible refine Kd.C_alloc ?_ _) | (with_reducible refine Kd.C_drewN ?_ _) | (with_reducible refine Kd.C_drew ?_))); (case side2 => exact HC0.out); (case side3 => repeat (first | exact (Kd.C_below HR1.out HB.out) | (with_reducible refine Kd.C_alloc ?_ _) | (with_reducible refine Kd.C_drewN ?_ _) | (with_reducible refine Kd.C_drew ?_))); (case side4 => exact HC1.out); rintro e w38 ⟨rfl, hb⟩; have n0_ := Aside0.mk (Kd.R_below (by (with_reducible repeat (first | apply Kd.R_alloc | apply Kd.R_drewN | apply Kd.R_drew)); exact HO_7.out) hb); have n1_ := Aside0.mk (below_step (by repeat (first | (with_reducible first | exact HB.out | apply below_alloc | apply pw_below_drewN | apply below_drew1) | exact HB.out)) hb); clear HO_7; clear HB; have HO_7 := n0_; have HB := n1_; clear n0_ n1_; (try clear hb); (try clear hb2); (try clear hk); (try clear hi)) | (go_at_call 10; (with_reducible refine (impl_CompareNumbers.calls _ _ l1 _ _ x7_3 t183 _ ?side1 ?side2 ?side3 ?side4 A32.out).mono ?_); (case side1 => repeat (first | exact (Kd.C_below HR1.out HB.out) | (with_reducible refine Kd.C_alloc ?_ _) | (with_reducible refine Kd.C_drewN ?_ _) | (with_reducible refine Kd.C_drew ?_))); (case side2 => exact HC1.out); (case side3 => repeat (first | exact (Kd.R_reads' HO_7.out).2.2 | (with_reducible refine Kd.C_alloc ?_ _) | (with_reducible refine Kd.C_drewN ?_ _) | (with_reducible refine Kd.C_drew ?_))); (case side4 => exact (Kd.R_reads' HO_7.out).2.1); rintro e w39 ⟨rfl, hb⟩; have n0_ := Aside0.mk (Kd.R_below (by (with_reducible repeat (first | apply Kd.R_alloc | apply Kd.R_drewN | apply Kd.R_drew)); exact HO_7.out) hb); have n1_ := Aside0.mk (below_step (by repeat (first | (with_reducible first | exact HB.out | apply below_alloc | apply pw_below_drewN | apply below_drew1) | exact HB.out)) hb); clear HO_7; clear HB; have HO_7 := n0_; have HB := n1_; clear n0_ n1_; (try clear hb); (try clear hb2); (try clear hk); (try clear hi)) | (go_at_call 10; (with_reducible refine (impl_CompareNumbers.calls _ _ l1 _ _ l0 t184 _ ?side1 ?side2 ?side3 ?side4 A33.out).mono ?_); (case side1 => repeat (first | exact (Kd.C_below HR1.out HB.out) | (with_reducible refine Kd.C_alloc ?_ _) | (with_reducible refine Kd.C_drewN ?_ _) | (with_reducible refine Kd.C_drew ?_))); (case side2 => exact HC1.out); (case side3 => repeat (first | exact (Kd.C_below HR0.out HB.out) | (with_reducible refine Kd.C_alloc ?_ _) | (with_reducible refine Kd.C_drewN ?_ _) | (with_reducible refine Kd.C_drew ?_))); (case side4 => exact HC0.out); rintro e w40 ⟨rfl, hb⟩; have n0_ := Aside0.mk (Kd.R_below (by (with_reducible repeat (first | apply Kd.R_alloc | apply Kd.R_drewN | apply Kd.R_drew)); exact HO_7.out) hb); have n1_ := Aside0.mk (below_step (by repeat (first | (with_reducible first | exact HB.out | apply below_alloc | apply pw_below_drewN | apply below_drew1) | exact HB.out)) hb); clear HO_7; clear HB; have HO_7 := n0_; have HB := n1_; clear n0_ n1_; (try clear hb); (try clear hb2); (try clear hk); (try clear hi)))
                            go_ret
                            exact ⟨by first | rfl | (simp [errW_none, errW_some] <;> rfl) | (simp [*, errW_none, errW_some] <;> rfl), by repeat (first | (with_reducible first | exact HB.out | apply below_alloc | apply pw_below_drewN | apply below_drew1) | exact HB.out)⟩
                          · rw [if_neg c31] at H
                            have c31b0 : (t181 == t182) = false := beq_eq_false_iff_ne.mpr c31
                            have c31b1 : (t181 != t182) = true := bne_iff_ne.mpr c31
                            obtain rfl := Option.some.inj H
                            go_wp2_with (first | ((with_reducible refine gate_callee (f := 13) rfl ?_); refine goesL_ (some 34) rfl rfl Try.func13 (by kernel_rfl) rfl #[] rfl (by (try simp only [List.map_toArray, List.map_cons, List.map_nil]); first | done | rfl | (simp only [List.length_drop, List.length_take]; rfl)) ?_; (with_reducible refine (laws_numbersAwake.calls  true _ A25.out).mono ?_); rintro e w41 ⟨rfl, hb⟩; refine ⟨_, rfl, ?_⟩; have n0_ := Aside0.mk (Kd.R_below (by (with_reducible repeat (first | apply Kd.R_alloc | apply Kd.R_drewN | apply Kd.R_drew)); exact HO_7.out) hb); have n1_ := Aside0.mk (below_step (by repeat (first | (with_reducible first | exact HB.out | apply below_alloc | apply pw_below_drewN | apply below_drew1) | exact HB.out)) hb); clear HO_7; clear HB; have HO_7 := n0_; have HB := n1_; clear n0_ n1_; (try clear hb); (try clear hb2); (try clear hk); (try clear hi); obtain ⟨Ao42, co42, eo42⟩ := Kd.R_slice HO_7.out; subst eo42) | (go_at_call 10; (with_reducible refine (impl_CompareNumbers.calls _ _ l0 _ _ x7_3 t180 _ ?side1 ?side2 ?side3 ?side4 A27.out).mono ?_); (case side1 => repeat (first | exact (Kd.C_below HR0.out HB.out) | (with_reducible refine Kd.C_alloc ?_ _) | (with_reducible refine Kd.C_drewN ?_ _) | (with_reducible refine Kd.C_drew ?_))); (case side2 => exact HC0.out); (case side3 => repeat (first | exact (Kd.R_reads' HO_7.out).2.2 | (with_reducible refine Kd.C_alloc ?_ _) | (with_reducible refine Kd.C_drewN ?_ _) | (with_reducible refine Kd.C_drew ?_))); (case side4 => exact (Kd.R_reads' HO_7.out).2.1); rintro e w43 ⟨rfl, hb⟩; have n0_ := Aside0.mk (Kd.R_below (by (with_reducible repeat (first | apply Kd.R_alloc | apply Kd.R_drewN | apply Kd.R_drew)); exact HO_7.out) hb); have n1_ := Aside0.mk (below_step (by repeat (first | (with_reducible first | exact HB.out | apply below_alloc | apply pw_below_drewN | apply below_drew1) | exact HB.out)) hb); clear HO_7; clear HB; have HO_7 := n0_; have HB := n1_; clear n0_ n1_; (try clear hb); (try clear hb2); (try clear hk); (try clear hi)) | (go_at_call 10; (with_reducible refine (impl_CompareNumbers.calls _ _ x7_3 _ _ l1 t181 _ ?side1 ?side2 ?side3 ?side4 A29.out).mono ?_); (case side1 => repeat (first | exact (Kd.R_reads' HO_7.out).2.2 | (with_reducible refine Kd.C_alloc ?_ _) | (with_reducible refine Kd.C_drewN ?_ _) | (with_reducible refine Kd.C_drew ?_))); (case side2 => exact (Kd.R_reads' HO_7.out).2.1); (case side3 => repeat (first | exact (Kd.C_below HR1.out HB.out) | (with_reducible refine Kd.C_alloc ?_ _) | (with_reducible refine Kd.C_drewN ?_ _) | (with_reducible refine Kd.C_drew ?_))); (case side4 => exact HC1.out); rintro e w44 ⟨rfl, hb⟩; have n0_ := Aside0.mk (Kd.R_below (by (with_reducible repeat (first | apply Kd.R_alloc | apply Kd.R_drewN | apply Kd.R_drew)); exact HO_7.out) hb); have n1_ := Aside0.mk (below_step (by repeat (first | (with_reducible first | exact HB.out | apply below_alloc | apply pw_below_drewN | apply below_drew1) | exact HB.out)) hb); clear HO_7; clear HB; have HO_7 := n0_; have HB := n1_; clear n0_ n1_; (try clear hb); (try clear hb2); (try clear hk); (try clear hi)) | (go_at_call 10; (with_reducible refine (impl_CompareNumbers.calls _ _ l0 _ _ l1 t182 _ ?side1 ?side2 ?side3 ?side4 A30.out).mono ?_); (case side1 => repeat (first | exact (Kd.C_below HR0.out HB.out) | (with_reducible refine Kd.C_alloc ?_ _) | (with_reducible refine Kd.C_drewN ?_ _) | (with_reducible refine Kd.C_drew ?_))); (case side2 => exact HC0.out); (case side3 => repeat (first | exact (Kd.C_below HR1.out HB.out) | (with_reducible refine Kd.C_alloc ?_ _) | (with_reducible refine Kd.C_drewN ?_ _) | (with_reducible refine Kd.C_drew ?_))); (case side4 => exact HC1.out); rintro e w45 ⟨rfl, hb⟩; have n0_ := Aside0.mk (Kd.R_below (by (with_reducible repeat (first | apply Kd.R_alloc | apply Kd.R_drewN | apply Kd.R_drew)); exact HO_7.out) hb); have n1_ := Aside0.mk (below_step (by repeat (first | (with_reducible first | exact HB.out | apply below_alloc | apply pw_below_drewN | apply below_drew1) | exact HB.out)) hb); clear HO_7; clear HB; have HO_7 := n0_; have HB := n1_; clear n0_ n1_; (try clear hb); (try clear hb2); (try clear hk); (try clear hi)))
                            go_ret
                            exact ⟨by first | rfl | (simp [errW_none, errW_some] <;> rfl) | (simp [*, errW_none, errW_some] <;> rfl), by repeat (first | (with_reducible first | exact HB.out | apply below_alloc | apply pw_below_drewN | apply below_drew1) | exact HB.out)⟩
                        · rw [if_neg c28] at H
                          have c28b0 : (t180 == 0) = false := beq_eq_false_iff_ne.mpr c28
                          have c28b1 : (t180 != 0) = true := bne_iff_ne.mpr c28
                          obtain rfl := Option.some.inj H
                          go_wp2_with (first | ((with_reducible refine gate_callee (f := 13) rfl ?_); refine goesL_ (some 34) rfl rfl Try.func13 (by kernel_rfl) rfl #[] rfl (by (try simp only [List.map_toArray, List.map_cons, List.map_nil]); first | done | rfl | (simp only [List.length_drop, List.length_take]; rfl)) ?_; (with_reducible refine (laws_numbersAwake.calls  true _ A25.out).mono ?_); rintro e w46 ⟨rfl, hb⟩; refine ⟨_, rfl, ?_⟩; have n0_ := Aside0.mk (Kd.R_below (by (with_reducible repeat (first | apply Kd.R_alloc | apply Kd.R_drewN | apply Kd.R_drew)); exact HO_7.out) hb); have n1_ := Aside0.mk (below_step (by repeat (first | (with_reducible first | exact HB.out | apply below_alloc | apply pw_below_drewN | apply below_drew1) | exact HB.out)) hb); clear HO_7; clear HB; have HO_7 := n0_; have HB := n1_; clear n0_ n1_; (try clear hb); (try clear hb2); (try clear hk); (try clear hi); obtain ⟨Ao47, co47, eo47⟩ := Kd.R_slice HO_7.out; subst eo47) | (go_at_call 10; (with_reducible refine (impl_CompareNumbers.calls _ _ l0 _ _ x7_3 t180 _ ?side1 ?side2 ?side3 ?side4 A27.out).mono ?_); (case side1 => repeat (first | exact (Kd.C_below HR0.out HB.out) | (with_reducible refine Kd.C_alloc ?_ _) | (with_reducible refine Kd.C_drewN ?_ _) | (with_reducible refine Kd.C_drew ?_))); (case side2 => exact HC0.out); (case side3 => repeat (first | exact (Kd.R_reads' HO_7.out).2.2 | (with_reducible refine Kd.C_alloc ?_ _) | (with_reducible refine Kd.C_drewN ?_ _) | (with_reducible refine Kd.C_drew ?_))); (case side4 => exact (Kd.R_reads' HO_7.out).2.1); rintro e w48 ⟨rfl, hb⟩; have n0_ := Aside0.mk (Kd.R_below (by (with_reducible repeat (first | apply Kd.R_alloc | apply Kd.R_drewN | apply Kd.R_drew)); exact HO_7.out) hb); have n1_ := Aside0.mk (below_step (by repeat (first | (with_reducible first | exact HB.out | apply below_alloc | apply pw_below_drewN | apply below_drew1) | exact HB.out)) hb); clear HO_7; clear HB; have HO_7 := n0_; have HB := n1_; clear n0_ n1_; (try clear hb); (try clear hb2); (try clear hk); (try clear hi)))
                          go_ret
                          exact ⟨by first | rfl | (simp [errW_none, errW_some] <;> rfl) | (simp [*, errW_none, errW_some] <;> rfl), by repeat (first | (with_reducible first | exact HB.out | apply below_alloc | apply pw_below_drewN | apply below_drew1) | exact HB.out)⟩
                      · replace c26 := Bool.eq_false_iff.mpr c26
                        subst c26
                        have H1 : (some false) = some r := by rw [if_neg (show ¬ (false = true) by decide)] at H; exact H
                        clear H
                        have H := H1
                        clear H1
                        obtain rfl := Option.some.inj H
                        go_wp2_with (first | ((with_reducible refine gate_callee (f := 13) rfl ?_); refine goesL_ (some 34) rfl rfl Try.func13 (by kernel_rfl) rfl #[] rfl (by (try simp only [List.map_toArray, List.map_cons, List.map_nil]); first | done | rfl | (simp only [List.length_drop, List.length_take]; rfl)) ?_; (with_reducible refine (laws_numbersAwake.calls  false _ A25.out).mono ?_); rintro e w49 ⟨rfl, hb⟩; refine ⟨_, rfl, ?_⟩; have n0_ := Aside0.mk (Kd.R_below (by (with_reducible repeat (first | apply Kd.R_alloc | apply Kd.R_drewN | apply Kd.R_drew)); exact HO_7.out) hb); have n1_ := Aside0.mk (below_step (by repeat (first | (with_reducible first | exact HB.out | apply below_alloc | apply pw_below_drewN | apply below_drew1) | exact HB.out)) hb); clear HO_7; clear HB; have HO_7 := n0_; have HB := n1_; clear n0_ n1_; (try clear hb); (try clear hb2); (try clear hk); (try clear hi)))
                        go_ret
                        exact ⟨by first | rfl | (simp [errW_none, errW_some] <;> rfl) | (simp [*, errW_none, errW_some] <;> rfl), by repeat (first | (with_reducible first | exact HB.out | apply below_alloc | apply pw_below_drewN | apply below_drew1) | exact HB.out)⟩
              · rw [if_neg c20] at H
                exact absurd H (by simp)

/-- THE ONE PURE STATEMENT of laws_FnNumbersFilled. -/
def laws_FnNumbersFilled.Pure : Prop := ∀ (l0 : List (S28)) (l1 : List (S28)) (a2 : Int), l0.length ≤ 9223372036854775807 → l1.length ≤ 9223372036854775807 → (Lit.int .u8 a2).wf = true → ∃ k, laws_FnNumbersFilled.f k l0 l1 a2 = some true
theorem laws_FnNumbersFilled.walk (P : laws_FnNumbersFilled.Pure) (A0 : Option Addr) (c0 : Nat) (l0 : List (S28)) (A1 : Option Addr) (c1 : Nat) (l1 : List (S28)) (a2 : Int) (w : World) (hm0 : l0.length ≤ 9223372036854775807) (hm1 : l1.length ≤ 9223372036854775807) (hm2 : (Lit.int .u8 a2).wf = true) (hr0 : Kd.C k28 w A0 l0.length l0) (hc0 : l0.length ≤ c0) (hr1 : Kd.C k28 w A1 l1.length l1) (hc1 : l1.length ≤ c1) :
    Calls Try.prog 4 #[.slice A0 l0.length c0, .slice A1 l1.length c1, .int .u8 a2] w fun e w' => e = .returned (.bool true) ∧ Below w.heap.size w w' := by
  obtain ⟨k, h⟩ := P l0 l1 a2 hm0 hm1 hm2
  refine (laws_FnNumbersFilled.calls k _ _ l0 _ _ l1 a2 true w hr0 hc0 hr1 hc1 h).mono ?_
  rintro e w' ⟨rfl, hd⟩
  exact ⟨rfl, hd⟩

end Go.Proofs.Ytcagdmeiigjkcaa.Z
