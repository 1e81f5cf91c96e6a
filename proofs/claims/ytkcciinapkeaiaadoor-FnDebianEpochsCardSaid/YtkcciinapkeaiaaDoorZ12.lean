-- Written by a program of this session (myprint.py).
import Derived.Test.YtkcciinapkeaiaaDoorZ0
import Derived.Test.YtkcciinapkeaiaaDoorZ6
import Derived.Test.YtkcciinapkeaiaaDoorZ11
import Derived.Test.YtkcciinapkeaiaaDoorGe
namespace Go.Proofs.YtkcciinapkeaiaaDoor.Z
open Go.Proofs.YtkcciinapkeaiaaDoor.Gw
open Go.RowKit Go.Proofs.YtkcciinapkeaiaaDoorW.PrintWords Go.Proofs.YtkcciinapkeaiaaDoorW.PrintLast Go.Proofs.YtkcciinapkeaiaaDoorW.PrintMore
attribute [local go_sem high] Go.Proofs.YtkcciinapkeaiaaDoor.Ge.gtr_str
attribute [local go_sem] max2_int min2_int max_two min_two max_three min_three max_four min_four   -- for this text's walks alone
set_option linter.unusedVariables false
set_option linter.unusedSimpArgs false

/-! ### laws_debianAwake: function 15 -/
def laws_debianAwake.f  : Option (Bool) := (impl_DebianCompare.f (⟨#[49]⟩ : ByteArray) (⟨#[50]⟩ : ByteArray)).bind fun bt126 => ((impl_DebianParts.f (⟨#[49]⟩ : ByteArray) (⟨#[50]⟩ : ByteArray)).bind fun bt128 => (if bt126.2 = true then (if bt128.2 = true then (if bt126.1 = (-1) then (some (bt128.1 == (-1))) else (some false)) else (some false)) else (some false)))
set_option maxHeartbeats 8000000 in
set_option maxRecDepth 100000 in
theorem laws_debianAwake.calls  (r : Bool) (w : World) (hG : GW w) (h : laws_debianAwake.f  = some r) :
    Calls Tryd.prog 15 #[] w fun e w' => e = .returned (.bool r) ∧ Below w.heap.size w w' := by
  have HG := Aside0.mk hG
  clear hG
  have HB := Aside0.mk (Below.refl w.heap.size w)
  have H : ((impl_DebianCompare.f (⟨#[49]⟩ : ByteArray) (⟨#[50]⟩ : ByteArray)).bind fun bt126 => ((impl_DebianParts.f (⟨#[49]⟩ : ByteArray) (⟨#[50]⟩ : ByteArray)).bind fun bt128 => (if bt126.2 = true then (if bt128.2 = true then (if bt126.1 = (-1) then (some (bt128.1 == (-1))) else (some false)) else (some false)) else (some false)))) = some r := h
  clear h
  replace H := Option.bind_eq_some_iff.mp H
  obtain ⟨⟨t126, t127⟩, A10, H⟩ := H
  replace H : ((impl_DebianParts.f (⟨#[49]⟩ : ByteArray) (⟨#[50]⟩ : ByteArray)).bind fun bt128 => (if t127 = true then (if bt128.2 = true then (if t126 = (-1) then (some (bt128.1 == (-1))) else (some false)) else (some false)) else (some false))) = some r := H
  have A1 := Aside0.mk A10
  clear A10
  replace H := Option.bind_eq_some_iff.mp H
  obtain ⟨⟨t128, t129⟩, A20, H⟩ := H
  replace H : (if t127 = true then (if t129 = true then (if t126 = (-1) then (some (t128 == (-1))) else (some false)) else (some false)) else (some false)) = some r := H
  have A2 := Aside0.mk A20
  clear A20
  by_cases c3 : t127 = true
  · subst c3
    have H1 : (if t129 = true then (if t126 = (-1) then (some (t128 == (-1))) else (some false)) else (some false)) = some r := by rw [if_pos rfl] at H; exact H
    clear H
    have H := H1
    clear H1
    by_cases c4 : t129 = true
    · subst c4
      have H1 : (if t126 = (-1) then (some (t128 == (-1))) else (some false)) = some r := by rw [if_pos rfl] at H; exact H
      clear H
      have H := H1
      clear H1
      by_cases c5 : t126 = (-1)
      · rw [if_pos c5] at H
        have c5b0 : (t126 == (-1)) = true := beq_iff_eq.mpr c5
        have c5b1 : (t126 != (-1)) = false := bne_eq_false_iff_eq.mpr c5
        clear c5
        obtain rfl := Option.some.inj H
        go_enter Tryd.func15, Tryd.ntmps15
        go_wp2_with (first | ((with_reducible refine gate_callee (f := 14) rfl ?_); refine goesL_ (some 6) rfl rfl Tryd.func14 (by kernel_rfl) rfl #[.string (⟨#[49]⟩ : ByteArray), .string (⟨#[50]⟩ : ByteArray)] rfl (by (try simp only [List.map_toArray, List.map_cons, List.map_nil]); first | done | rfl | (simp only [List.length_drop, List.length_take]; rfl)) ?_; (with_reducible refine (impl_DebianCompare.calls (⟨#[49]⟩ : ByteArray) (⟨#[50]⟩ : ByteArray) t126 true _ ?side1 A1.out).mono ?_); (case side1 => first | exact HG.out | exact GW.below HG.out (by repeat (first | (with_reducible first | exact HB.out | exact Below.refl _ _ | apply below_alloc | apply pw_below_drewN | apply below_drew1 | apply below_drew | refine below_set ?_ (Aside0.out (by assumption))) | exact HB.out))); rintro e w6 ⟨rfl, hb⟩; refine ⟨_, rfl, ?_⟩; have n0_ := Aside0.mk (below_step (by repeat (first | (with_reducible first | exact HB.out | apply below_alloc | apply pw_below_drewN | apply below_drew1) | exact HB.out)) hb); clear HB; have HB := n0_; clear n0_; (try clear hb); (try clear hb2); (try clear hk); (try clear hi)) | ((with_reducible refine gate_callee (f := 17) rfl ?_); refine goesL_ (some 10) rfl rfl Tryd.func17 (by kernel_rfl) rfl #[.string (⟨#[49]⟩ : ByteArray), .string (⟨#[50]⟩ : ByteArray)] rfl (by (try simp only [List.map_toArray, List.map_cons, List.map_nil]); first | done | rfl | (simp only [List.length_drop, List.length_take]; rfl)) ?_; (with_reducible refine (impl_DebianParts.calls (⟨#[49]⟩ : ByteArray) (⟨#[50]⟩ : ByteArray) t128 true _ ?side1 A2.out).mono ?_); (case side1 => first | exact HG.out | exact GW.below HG.out (by repeat (first | (with_reducible first | exact HB.out | exact Below.refl _ _ | apply below_alloc | apply pw_below_drewN | apply below_drew1 | apply below_drew | refine below_set ?_ (Aside0.out (by assumption))) | exact HB.out))); rintro e w7 ⟨rfl, hb⟩; refine ⟨_, rfl, ?_⟩; have n0_ := Aside0.mk (below_step (by repeat (first | (with_reducible first | exact HB.out | apply below_alloc | apply pw_below_drewN | apply below_drew1) | exact HB.out)) hb); clear HB; have HB := n0_; clear n0_; (try clear hb); (try clear hb2); (try clear hk); (try clear hi)))
        go_ret
        exact ⟨by first | rfl | (simp [errW_none, errW_some] <;> rfl) | (simp [*, errW_none, errW_some] <;> rfl), by repeat (first | (with_reducible first | exact HB.out | apply below_alloc | apply pw_below_drewN | apply below_drew1) | exact HB.out)⟩
      · rw [if_neg c5] at H
        have c5b0 : (t126 == (-1)) = false := beq_eq_false_iff_ne.mpr c5
        have c5b1 : (t126 != (-1)) = true := bne_iff_ne.mpr c5
        obtain rfl := Option.some.inj H
        go_enter Tryd.func15, Tryd.ntmps15
        go_wp2_with (first | ((with_reducible refine gate_callee (f := 14) rfl ?_); refine goesL_ (some 6) rfl rfl Tryd.func14 (by kernel_rfl) rfl #[.string (⟨#[49]⟩ : ByteArray), .string (⟨#[50]⟩ : ByteArray)] rfl (by (try simp only [List.map_toArray, List.map_cons, List.map_nil]); first | done | rfl | (simp only [List.length_drop, List.length_take]; rfl)) ?_; (with_reducible refine (impl_DebianCompare.calls (⟨#[49]⟩ : ByteArray) (⟨#[50]⟩ : ByteArray) t126 true _ ?side1 A1.out).mono ?_); (case side1 => first | exact HG.out | exact GW.below HG.out (by repeat (first | (with_reducible first | exact HB.out | exact Below.refl _ _ | apply below_alloc | apply pw_below_drewN | apply below_drew1 | apply below_drew | refine below_set ?_ (Aside0.out (by assumption))) | exact HB.out))); rintro e w8 ⟨rfl, hb⟩; refine ⟨_, rfl, ?_⟩; have n0_ := Aside0.mk (below_step (by repeat (first | (with_reducible first | exact HB.out | apply below_alloc | apply pw_below_drewN | apply below_drew1) | exact HB.out)) hb); clear HB; have HB := n0_; clear n0_; (try clear hb); (try clear hb2); (try clear hk); (try clear hi)) | ((with_reducible refine gate_callee (f := 17) rfl ?_); refine goesL_ (some 10) rfl rfl Tryd.func17 (by kernel_rfl) rfl #[.string (⟨#[49]⟩ : ByteArray), .string (⟨#[50]⟩ : ByteArray)] rfl (by (try simp only [List.map_toArray, List.map_cons, List.map_nil]); first | done | rfl | (simp only [List.length_drop, List.length_take]; rfl)) ?_; (with_reducible refine (impl_DebianParts.calls (⟨#[49]⟩ : ByteArray) (⟨#[50]⟩ : ByteArray) t128 true _ ?side1 A2.out).mono ?_); (case side1 => first | exact HG.out | exact GW.below HG.out (by repeat (first | (with_reducible first | exact HB.out | exact Below.refl _ _ | apply below_alloc | apply pw_below_drewN | apply below_drew1 | apply below_drew | refine below_set ?_ (Aside0.out (by assumption))) | exact HB.out))); rintro e w9 ⟨rfl, hb⟩; refine ⟨_, rfl, ?_⟩; have n0_ := Aside0.mk (below_step (by repeat (first | (with_reducible first | exact HB.out | apply below_alloc | apply pw_below_drewN | apply below_drew1) | exact HB.out)) hb); clear HB; have HB := n0_; clear n0_; (try clear hb); (try clear hb2); (try clear hk); (try clear hi)))
        go_ret
        exact ⟨by first | rfl | (simp [errW_none, errW_some] <;> rfl) | (simp [*, errW_none, errW_some] <;> rfl), by repeat (first | (with_reducible first | exact HB.out | apply below_alloc | apply pw_below_drewN | apply below_drew1) | exact HB.out)⟩
    · replace c4 := Bool.eq_false_iff.mpr c4
      subst c4
      have H1 : (some false) = some r := by rw [if_neg (show ¬ (false = true) by decide)] at H; exact H
      clear H
      have H := H1
      clear H1
      obtain rfl := Option.some.inj H
      go_enter Tryd.func15, Tryd.ntmps15
      go_wp2_with (first | ((with_reducible refine gate_callee (f := 14) rfl ?_); refine goesL_ (some 6) rfl rfl Tryd.func14 (by kernel_rfl) rfl #[.string (⟨#[49]⟩ : ByteArray), .string (⟨#[50]⟩ : ByteArray)] rfl (by (try simp only [List.map_toArray, List.map_cons, List.map_nil]); first | done | rfl | (simp only [List.length_drop, List.length_take]; rfl)) ?_; (with_reducible refine (impl_DebianCompare.calls (⟨#[49]⟩ : ByteArray) (⟨#[50]⟩ : ByteArray) t126 true _ ?side1 A1.out).mono ?_); (case side1 => first | exact HG.out | exact GW.below HG.out (by repeat (first | (with_reducible first | exact HB.out | exact Below.refl _ _ | apply below_alloc | apply pw_below_drewN | apply below_drew1 | apply below_drew | refine below_set ?_ (Aside0.out (by assumption))) | exact HB.out))); rintro e w10 ⟨rfl, hb⟩; refine ⟨_, rfl, ?_⟩; have n0_ := Aside0.mk (below_step (by repeat (first | (with_reducible first | exact HB.out | apply below_alloc | apply pw_below_drewN | apply below_drew1) | exact HB.out)) hb); clear HB; have HB := n0_; clear n0_; (try clear hb); (try clear hb2); (try clear hk); (try clear hi)) | ((with_reducible refine gate_callee (f := 17) rfl ?_); refine goesL_ (some 10) rfl rfl Tryd.func17 (by kernel_rfl) rfl #[.string (⟨#[49]⟩ : ByteArray), .string (⟨#[50]⟩ : ByteArray)] rfl (by (try simp only [List.map_toArray, List.map_cons, List.map_nil]); first | done | rfl | (simp only [List.length_drop, List.length_take]; rfl)) ?_; (with_reducible refine (impl_DebianParts.calls (⟨#[49]⟩ : ByteArray) (⟨#[50]⟩ : ByteArray) t128 false _ ?side1 A2.out).mono ?_); (case side1 => first | exact HG.out | exact GW.below HG.out (by repeat (first | (with_reducible first | exact HB.out | exact Below.refl _ _ | apply below_alloc | apply pw_below_drewN | apply below_drew1 | apply below_drew | refine below_set ?_ (Aside0.out (by assumption))) | exact HB.out))); rintro e w11 ⟨rfl, hb⟩; refine ⟨_, rfl, ?_⟩; have n0_ := Aside0.mk (below_step (by repeat (first | (with_reducible first | exact HB.out | apply below_alloc | apply pw_below_drewN | apply below_drew1) | exact HB.out)) hb); clear HB; have HB := n0_; clear n0_; (try clear hb); (try clear hb2); (try clear hk); (try clear hi)))
      go_ret
      exact ⟨by first | rfl | (simp [errW_none, errW_some] <;> rfl) | (simp [*, errW_none, errW_some] <;> rfl), by repeat (first | (with_reducible first | exact HB.out | apply below_alloc | apply pw_below_drewN | apply below_drew1) | exact HB.out)⟩
  · replace c3 := Bool.eq_false_iff.mpr c3
    subst c3
    have H1 : (some false) = some r := by rw [if_neg (show ¬ (false = true) by decide)] at H; exact H
    clear H
    have H := H1
    clear H1
    obtain rfl := Option.some.inj H
    go_enter Tryd.func15, Tryd.ntmps15
    go_wp2_with (first | ((with_reducible refine gate_callee (f := 14) rfl ?_); refine goesL_ (some 6) rfl rfl Tryd.func14 (by kernel_rfl) rfl #[.string (⟨#[49]⟩ : ByteArray), .string (⟨#[50]⟩ : ByteArray)] rfl (by (try simp only [List.map_toArray, List.map_cons, List.map_nil]); first | done | rfl | (simp only [List.length_drop, List.length_take]; rfl)) ?_; (with_reducible refine (impl_DebianCompare.calls (⟨#[49]⟩ : ByteArray) (⟨#[50]⟩ : ByteArray) t126 false _ ?side1 A1.out).mono ?_); (case side1 => first | exact HG.out | exact GW.below HG.out (by repeat (first | (with_reducible first | exact HB.out | exact Below.refl _ _ | apply below_alloc | apply pw_below_drewN | apply below_drew1 | apply below_drew | refine below_set ?_ (Aside0.out (by assumption))) | exact HB.out))); rintro e w12 ⟨rfl, hb⟩; refine ⟨_, rfl, ?_⟩; have n0_ := Aside0.mk (below_step (by repeat (first | (with_reducible first | exact HB.out | apply below_alloc | apply pw_below_drewN | apply below_drew1) | exact HB.out)) hb); clear HB; have HB := n0_; clear n0_; (try clear hb); (try clear hb2); (try clear hk); (try clear hi)) | ((with_reducible refine gate_callee (f := 17) rfl ?_); refine goesL_ (some 10) rfl rfl Tryd.func17 (by kernel_rfl) rfl #[.string (⟨#[49]⟩ : ByteArray), .string (⟨#[50]⟩ : ByteArray)] rfl (by (try simp only [List.map_toArray, List.map_cons, List.map_nil]); first | done | rfl | (simp only [List.length_drop, List.length_take]; rfl)) ?_; (with_reducible refine (impl_DebianParts.calls (⟨#[49]⟩ : ByteArray) (⟨#[50]⟩ : ByteArray) t128 t129 _ ?side1 A2.out).mono ?_); (case side1 => first | exact HG.out | exact GW.below HG.out (by repeat (first | (with_reducible first | exact HB.out | exact Below.refl _ _ | apply below_alloc | apply pw_below_drewN | apply below_drew1 | apply below_drew | refine below_set ?_ (Aside0.out (by assumption))) | exact HB.out))); rintro e w13 ⟨rfl, hb⟩; refine ⟨_, rfl, ?_⟩; have n0_ := Aside0.mk (below_step (by repeat (first | (with_reducible first | exact HB.out | apply below_alloc | apply pw_below_drewN | apply below_drew1) | exact HB.out)) hb); clear HB; have HB := n0_; clear n0_; (try clear hb); (try clear hb2); (try clear hk); (try clear hi)))
    go_ret
    exact ⟨by first | rfl | (simp [errW_none, errW_some] <;> rfl) | (simp [*, errW_none, errW_some] <;> rfl), by repeat (first | (with_reducible first | exact HB.out | apply below_alloc | apply pw_below_drewN | apply below_drew1) | exact HB.out)⟩

/-! ### laws_chained: function 16 -/
def laws_chained.j0 : Nat → Int → Int → Int → Bool → Option (Bool)
  | 0, _, _, _, _ => none
  | k + 1, x0, x1, x2, x27 => if x27 = true then (some false) else (if x0 ≥ 0 then (if x1 ≥ 0 then (if x2 < 0 then (some false) else (if x0 = 0 then (if ((x2 == 0) != (x1 == 0)) = true then (some false) else (some true)) else (if ((x2 == 0) != false) = true then (some false) else (some true)))) else (some true)) else (some true))
def laws_chained.f (k : Nat) (a0 : Int) (a1 : Int) (a2 : Int) : Option (Bool) := if a0 ≤ 0 then (if a1 ≤ 0 then (if a2 > 0 then (laws_chained.j0 k a0 a1 a2 true) else (if a0 = 0 then (laws_chained.j0 k a0 a1 a2 ((a2 == 0) != (a1 == 0))) else (laws_chained.j0 k a0 a1 a2 ((a2 == 0) != false)))) else (laws_chained.j0 k a0 a1 a2 false)) else (laws_chained.j0 k a0 a1 a2 false)
theorem laws_chained.mono_l : ∀ k, (∀ y0 y1 y2 y3, LeO (laws_chained.j0 k y0 y1 y2 y3) (laws_chained.j0 (k + 1) y0 y1 y2 y3))
  | 0 => fun _ _ _ _ r h => by simp [laws_chained.j0] at h
  | k + 1 => by
    have ih0 := laws_chained.mono_l k
    · intro y0 y1 y2 y3
      unfold laws_chained.j0
      repeat' first
      | (with_reducible exact ih0 _ _ _ _)
      | (with_reducible exact LeO.refl _)
      | (with_reducible exact LeO.none _)
      | (with_reducible refine LeO.ite ?_ ?_)
      | (with_reducible refine LeO.bind ?_ (fun _ => ?_))
      | exact ih0 _ _ _ _
      | exact LeO.none _
      | refine LeO.ite ?_ ?_
      | refine LeO.bind ?_ (fun _ => ?_)
theorem laws_chained.mono : ∀ a0 a1 a2 k, LeO (laws_chained.f k a0 a1 a2) (laws_chained.f (k + 1) a0 a1 a2) := by
  intro a0 a1 a2 k
  have ih0 := laws_chained.mono_l k
  unfold laws_chained.f
  repeat' first
      | (with_reducible exact ih0 _ _ _ _)
      | (with_reducible exact LeO.refl _)
      | (with_reducible exact LeO.none _)
      | (with_reducible refine LeO.ite ?_ ?_)
      | (with_reducible refine LeO.bind ?_ (fun _ => ?_))
      | exact ih0 _ _ _ _
      | exact LeO.none _
      | refine LeO.ite ?_ ?_
      | refine LeO.bind ?_ (fun _ => ?_)
set_option maxHeartbeats 8000000 in
set_option maxRecDepth 100000 in
theorem laws_chained.calls (k : Nat) (a0 : Int) (a1 : Int) (a2 : Int) (r : Bool) (w : World) (h : laws_chained.f k a0 a1 a2 = some r) :
    Calls Tryd.prog 16 #[.int .i64 a0, .int .i64 a1, .int .i64 a2] w fun e w' => e = .returned (.bool r) ∧ Drawn0 w w' := by
  have H : (if a0 ≤ 0 then (if a1 ≤ 0 then (if a2 > 0 then (laws_chained.j0 k a0 a1 a2 true) else (if a0 = 0 then (laws_chained.j0 k a0 a1 a2 ((a2 == 0) != (a1 == 0))) else (laws_chained.j0 k a0 a1 a2 ((a2 == 0) != false)))) else (laws_chained.j0 k a0 a1 a2 false)) else (laws_chained.j0 k a0 a1 a2 false)) = some r := h
  clear h
  have HC4 := Aside0.mk H
  clear H
  go_enter Tryd.func16, Tryd.ntmps16
  go_upto_region 1 with (fail)
  go_cut [27] (fun v27 wc => ∃ (kq : Nat) (x27_3 : Bool), v27 = .bool x27_3 ∧ Aside0 (laws_chained.j0 kq a0 a1 a2 x27_3 = some r) ∧ Aside0 (kq ≤ k) ∧ Drawn0 w wc)
  case first =>
    have H := HC4.out
    clear HC4
    by_cases c5 : a0 ≤ 0
    · rw [if_pos c5] at H
      have c5b0 : decide (a0 ≤ 0) = true := decide_eq_true c5
      clear c5
      (first | rw [c5b0] | (simp only [i64_w, i32_w]; rw [c5b0]) | skip)
      by_cases c6 : a1 ≤ 0
      · rw [if_pos c6] at H
        have c6b0 : decide (a1 ≤ 0) = true := decide_eq_true c6
        clear c6
        by_cases c7 : a2 > 0
        · rw [if_pos c7] at H
          have c7b0 : decide (0 < a2) = true := decide_eq_true c7
          clear c7
          have H' := Aside0.mk H
          clear H
          go_wp2
          go_meet
          case rel => exact ⟨_, (true), (by first | rfl | (simp; done) | (simp [*]; done)), H', ⟨by first | omega | exact Nat.le_refl _⟩, by repeat (first | exact Drawn0.refl _ | apply Drawn0.step)⟩
        · rw [if_neg c7] at H
          have c7b0 : decide (0 < a2) = false := decide_eq_false c7
          clear c7
          by_cases c8 : a0 = 0
          · rw [if_pos c8] at H
            have c8b0 : (a0 == 0) = true := beq_iff_eq.mpr c8
            have c8b1 : (a0 != 0) = false := bne_eq_false_iff_eq.mpr c8
            clear c8
            have H' := Aside0.mk H
            clear H
            go_wp2
            go_meet
            case rel => exact ⟨_, (((a2 == 0) != (a1 == 0))), (by first | rfl | (simp; done) | (simp [*]; done)), H', ⟨by first | omega | exact Nat.le_refl _⟩, by repeat (first | exact Drawn0.refl _ | apply Drawn0.step)⟩
          · rw [if_neg c8] at H
            have c8b0 : (a0 == 0) = false := beq_eq_false_iff_ne.mpr c8
            have c8b1 : (a0 != 0) = true := bne_iff_ne.mpr c8
            have H' := Aside0.mk H
            clear H
            go_wp2
            go_meet
            case rel => exact ⟨_, (((a2 == 0) != false)), (by first | rfl | (simp; done) | (simp [*]; done)), H', ⟨by first | omega | exact Nat.le_refl _⟩, by repeat (first | exact Drawn0.refl _ | apply Drawn0.step)⟩
      · rw [if_neg c6] at H
        have c6b0 : decide (a1 ≤ 0) = false := decide_eq_false c6
        clear c6
        have H' := Aside0.mk H
        clear H
        go_wp2
        go_meet
        case rel => exact ⟨_, (false), (by first | rfl | (simp; done) | (simp [*]; done)), H', ⟨by first | omega | exact Nat.le_refl _⟩, by repeat (first | exact Drawn0.refl _ | apply Drawn0.step)⟩
    · rw [if_neg c5] at H
      have c5b0 : decide (a0 ≤ 0) = false := decide_eq_false c5
      clear c5
      (first | rw [c5b0] | (simp only [i64_w, i32_w]; rw [c5b0]) | skip)
      have H' := Aside0.mk H
      clear H
      go_wp2
      go_meet
      case rel => exact ⟨_, (false), (by first | rfl | (simp; done) | (simp [*]; done)), H', ⟨by first | omega | exact Nat.le_refl _⟩, by repeat (first | exact Drawn0.refl _ | apply Drawn0.step)⟩
  case rest =>
    clear HC4
    try clear c1
    try clear p2
    try clear c5
    try clear c5b0
    try clear c6
    try clear c6b0
    try clear c7
    try clear c7b0
    try clear c8
    try clear c8b0
    try clear c8b1
    obtain ⟨kq, x27_3, rfl, HA, HJ3, ⟨mc3, rfl⟩⟩ := hcut
    cases kq with
    | zero => exact absurd HA.out (by simp [laws_chained.j0])
    | succ kj3 =>
      have H := HA.out
      clear HA
      simp only [laws_chained.j0] at H
      by_cases c9 : x27_3 = true
      · subst c9
        have H1 : (some false) = some r := by rw [if_pos rfl] at H; exact H
        clear H
        have H := H1
        clear H1
        obtain rfl := Option.some.inj H
        go_wp2
        go_ret
        exact ⟨by first | rfl | (simp; done) | (simp [*]; done), by repeat (first | exact Drawn0.refl _ | apply Drawn0.step)⟩
      · replace c9 := Bool.eq_false_iff.mpr c9
        subst c9
        have H1 : (if a0 ≥ 0 then (if a1 ≥ 0 then (if a2 < 0 then (some false) else (if a0 = 0 then (if ((a2 == 0) != (a1 == 0)) = true then (some false) else (some true)) else (if ((a2 == 0) != false) = true then (some false) else (some true)))) else (some true)) else (some true)) = some r := by rw [if_neg (show ¬ (false = true) by decide)] at H; exact H
        clear H
        have H := H1
        clear H1
        by_cases c10 : a0 ≥ 0
        · rw [if_pos c10] at H
          have c10b0 : decide (0 ≤ a0) = true := decide_eq_true c10
          clear c10
          by_cases c11 : a1 ≥ 0
          · rw [if_pos c11] at H
            have c11b0 : decide (0 ≤ a1) = true := decide_eq_true c11
            clear c11
            by_cases c12 : a2 < 0
            · rw [if_pos c12] at H
              have c12b0 : decide (a2 < 0) = true := decide_eq_true c12
              clear c12
              obtain rfl := Option.some.inj H
              go_wp2
              go_ret
              exact ⟨by first | rfl | (simp; done) | (simp [*]; done), by repeat (first | exact Drawn0.refl _ | apply Drawn0.step)⟩
            · rw [if_neg c12] at H
              have c12b0 : decide (a2 < 0) = false := decide_eq_false c12
              clear c12
              by_cases c13 : a0 = 0
              · rw [if_pos c13] at H
                have c13b0 : (a0 == 0) = true := beq_iff_eq.mpr c13
                have c13b1 : (a0 != 0) = false := bne_eq_false_iff_eq.mpr c13
                clear c13
                by_cases c14 : ((a2 == 0) != (a1 == 0)) = true
                · rw [if_pos c14] at H
                  have c14b0 : ((a2 == 0) != (a1 == 0)) = true := c14
                  (try (have c14b1 : decide ((a2 == 0) = (a1 == 0)) = false := by simpa using c14))
                  (try (have c14b2 : ((a2 == 0) == (a1 == 0)) = false := by simpa using c14))
                  (try (have c14b3 : ¬ ((a2 == 0) = (a1 == 0)) := by simpa using c14))
                  clear c14
                  obtain rfl := Option.some.inj H
                  go_wp2
                  go_ret
                  exact ⟨by first | rfl | (simp; done) | (simp [*]; done), by repeat (first | exact Drawn0.refl _ | apply Drawn0.step)⟩
                · rw [if_neg c14] at H
                  have c14b0 : ((a2 == 0) != (a1 == 0)) = false := by simpa using c14
                  (try (have c14b1 : decide ((a2 == 0) = (a1 == 0)) = true := by simpa using c14))
                  (try (have c14b2 : ((a2 == 0) == (a1 == 0)) = true := by simpa using c14))
                  clear c14
                  obtain rfl := Option.some.inj H
                  go_wp2
                  go_ret
                  exact ⟨by first | rfl | (simp; done) | (simp [*]; done), by repeat (first | exact Drawn0.refl _ | apply Drawn0.step)⟩
              · rw [if_neg c13] at H
                have c13b0 : (a0 == 0) = false := beq_eq_false_iff_ne.mpr c13
                have c13b1 : (a0 != 0) = true := bne_iff_ne.mpr c13
                by_cases c15 : ((a2 == 0) != false) = true
                · rw [if_pos c15] at H
                  have c15b0 : ((a2 == 0) != false) = true := c15
                  (try (have c15b1 : decide ((a2 == 0) = false) = false := by simpa using c15))
                  (try (have c15b2 : ((a2 == 0) == false) = false := by simpa using c15))
                  (try (have c15b3 : ¬ ((a2 == 0) = false) := by simpa using c15))
                  clear c15
                  obtain rfl := Option.some.inj H
                  go_wp2
                  go_ret
                  exact ⟨by first | rfl | (simp; done) | (simp [*]; done), by repeat (first | exact Drawn0.refl _ | apply Drawn0.step)⟩
                · rw [if_neg c15] at H
                  have c15b0 : ((a2 == 0) != false) = false := by simpa using c15
                  (try (have c15b1 : decide ((a2 == 0) = false) = true := by simpa using c15))
                  (try (have c15b2 : ((a2 == 0) == false) = true := by simpa using c15))
                  clear c15
                  obtain rfl := Option.some.inj H
                  go_wp2
                  go_ret
                  exact ⟨by first | rfl | (simp; done) | (simp [*]; done), by repeat (first | exact Drawn0.refl _ | apply Drawn0.step)⟩
          · rw [if_neg c11] at H
            have c11b0 : decide (0 ≤ a1) = false := decide_eq_false c11
            clear c11
            obtain rfl := Option.some.inj H
            go_wp2
            go_ret
            exact ⟨by first | rfl | (simp; done) | (simp [*]; done), by repeat (first | exact Drawn0.refl _ | apply Drawn0.step)⟩
        · rw [if_neg c10] at H
          have c10b0 : decide (0 ≤ a0) = false := decide_eq_false c10
          clear c10
          obtain rfl := Option.some.inj H
          go_wp2
          go_ret
          exact ⟨by first | rfl | (simp; done) | (simp [*]; done), by repeat (first | exact Drawn0.refl _ | apply Drawn0.step)⟩

end Go.Proofs.YtkcciinapkeaiaaDoor.Z
