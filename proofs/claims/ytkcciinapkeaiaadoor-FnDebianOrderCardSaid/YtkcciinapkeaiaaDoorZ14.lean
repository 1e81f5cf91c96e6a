-- Written by a program of this session (myprint.py).
import Derived.Test.YtkcciinapkeaiaaDoorZ0
import Derived.Test.YtkcciinapkeaiaaDoorZ1
import Derived.Test.YtkcciinapkeaiaaDoorZ11
import Derived.Test.YtkcciinapkeaiaaDoorZ12
import Derived.Test.YtkcciinapkeaiaaDoorGe
namespace Go.Proofs.YtkcciinapkeaiaaDoor.Z
open Go.Proofs.YtkcciinapkeaiaaDoor.Gw
open Go.RowKit Go.Proofs.YtkcciinapkeaiaaDoorW.PrintWords Go.Proofs.YtkcciinapkeaiaaDoorW.PrintLast Go.Proofs.YtkcciinapkeaiaaDoorW.PrintMore
attribute [local go_sem high] Go.Proofs.YtkcciinapkeaiaaDoor.Ge.gtr_str
attribute [local go_sem] max2_int min2_int max_two min_two max_three min_three max_four min_four   -- for this text's walks alone
set_option linter.unusedVariables false
set_option linter.unusedSimpArgs false

/-! ### laws_FnDebianOrder: function 4 -/
mutual
def laws_FnDebianOrder.j0 : Nat → ByteArray → ByteArray → ByteArray → Bool → Option (Bool)
  | 0, _, _, _, _ => none
  | k + 1, x0, x1, x2, x27 => if x27 = true then (some true) else ((laws_short.f k (([x0, x1, x2] : List ByteArray))).bind fun t148 => (if t148 = true then ((spec_DebianKnown.f k x0).bind fun t149 => (if t149 = true then ((spec_DebianKnown.f k x1).bind fun t150 => (if t150 = true then ((spec_DebianKnown.f k x2).bind fun t151 => (laws_FnDebianOrder.j1 k x0 x1 x2 (!t151))) else (laws_FnDebianOrder.j1 k x0 x1 x2 true))) else (laws_FnDebianOrder.j1 k x0 x1 x2 true))) else (laws_FnDebianOrder.j1 k x0 x1 x2 true)))
def laws_FnDebianOrder.j1 : Nat → ByteArray → ByteArray → ByteArray → Bool → Option (Bool)
  | 0, _, _, _, _ => none
  | k + 1, x0, x1, x2, x48 => if x48 = true then (some true) else ((impl_DebianCompare.f x0 x1).bind fun bt152 => ((impl_DebianCompare.f x1 x2).bind fun bt154 => ((impl_DebianCompare.f x0 x2).bind fun bt156 => ((impl_DebianCompare.f x0 x0).bind fun bt158 => (if bt152.2 = true then (if bt154.2 = true then (if bt156.2 = true then (laws_FnDebianOrder.j2 k bt152.1 bt152.2 bt154.1 bt154.2 bt156.1 bt156.2 bt158.1 (!bt158.2)) else (laws_FnDebianOrder.j2 k bt152.1 bt152.2 bt154.1 bt154.2 bt156.1 bt156.2 bt158.1 true)) else (laws_FnDebianOrder.j2 k bt152.1 bt152.2 bt154.1 bt154.2 bt156.1 bt156.2 bt158.1 true)) else (laws_FnDebianOrder.j2 k bt152.1 bt152.2 bt154.1 bt154.2 bt156.1 bt156.2 bt158.1 true))))))
def laws_FnDebianOrder.j2 : Nat → Int → Bool → Int → Bool → Int → Bool → Int → Bool → Option (Bool)
  | 0, _, _, _, _, _, _, _, _ => none
  | k + 1, x7, x8, x9, x10, x11, x12, x13, x86 => if x86 = true then ((laws_debianAwake.f).bind fun t160 => (if t160 = true then (if x8 = true then (if x10 = true then (if x12 = true then (some false) else (some (x11 == 0))) else (if x9 = 0 then (some true) else (if x12 = true then (some false) else (some (x11 == 0))))) else (if x7 = 0 then (some true) else (if x10 = true then (if x12 = true then (some false) else (some (x11 == 0))) else (if x9 = 0 then (some true) else (if x12 = true then (some false) else (some (x11 == 0))))))) else (some false))) else (if x13 = 0 then ((laws_chained.f k x7 x9 x11).bind fun t161 => (some t161)) else (some false))
end
def laws_FnDebianOrder.f (k : Nat) (a0 : ByteArray) (a1 : ByteArray) (a2 : ByteArray) : Option (Bool) := if (a0.size : Int) > 2147483647 then (laws_FnDebianOrder.j0 k a0 a1 a2 true) else (if (a1.size : Int) > 2147483647 then (laws_FnDebianOrder.j0 k a0 a1 a2 true) else (laws_FnDebianOrder.j0 k a0 a1 a2 (decide ((a2.size : Int) > 2147483647))))
theorem laws_FnDebianOrder.mono_l : ∀ k, (∀ y0 y1 y2 y3, LeO (laws_FnDebianOrder.j0 k y0 y1 y2 y3) (laws_FnDebianOrder.j0 (k + 1) y0 y1 y2 y3)) ∧ (∀ y0 y1 y2 y3, LeO (laws_FnDebianOrder.j1 k y0 y1 y2 y3) (laws_FnDebianOrder.j1 (k + 1) y0 y1 y2 y3)) ∧ (∀ y0 y1 y2 y3 y4 y5 y6 y7, LeO (laws_FnDebianOrder.j2 k y0 y1 y2 y3 y4 y5 y6 y7) (laws_FnDebianOrder.j2 (k + 1) y0 y1 y2 y3 y4 y5 y6 y7))
  | 0 => ⟨fun _ _ _ _ r h => by simp [laws_FnDebianOrder.j0] at h, fun _ _ _ _ r h => by simp [laws_FnDebianOrder.j1] at h, fun _ _ _ _ _ _ _ _ r h => by simp [laws_FnDebianOrder.j2] at h⟩
  | k + 1 => by
    obtain ⟨ih0, ih1, ih2⟩ := laws_FnDebianOrder.mono_l k
    refine ⟨?_, ?_, ?_⟩
    · intro y0 y1 y2 y3
      unfold laws_FnDebianOrder.j0
      repeat' first
      | (with_reducible exact ih0 _ _ _ _)
      | (with_reducible exact ih1 _ _ _ _)
      | (with_reducible exact ih2 _ _ _ _ _ _ _ _)
      | (with_reducible exact laws_chained.mono _ _ _ _)
      | (with_reducible exact laws_short.mono _ _)
      | (with_reducible exact spec_DebianKnown.mono _ _)
      | (with_reducible exact LeO.refl _)
      | (with_reducible exact LeO.none _)
      | (with_reducible refine LeO.ite ?_ ?_)
      | (with_reducible refine LeO.bind ?_ (fun _ => ?_))
      | exact ih0 _ _ _ _
      | exact ih1 _ _ _ _
      | exact ih2 _ _ _ _ _ _ _ _
      | exact laws_chained.mono _ _ _ _
      | exact laws_short.mono _ _
      | exact spec_DebianKnown.mono _ _
      | exact LeO.none _
      | refine LeO.ite ?_ ?_
      | refine LeO.bind ?_ (fun _ => ?_)
    · intro y0 y1 y2 y3
      unfold laws_FnDebianOrder.j1
      repeat' first
      | (with_reducible exact ih0 _ _ _ _)
      | (with_reducible exact ih1 _ _ _ _)
      | (with_reducible exact ih2 _ _ _ _ _ _ _ _)
      | (with_reducible exact laws_chained.mono _ _ _ _)
      | (with_reducible exact laws_short.mono _ _)
      | (with_reducible exact spec_DebianKnown.mono _ _)
      | (with_reducible exact LeO.refl _)
      | (with_reducible exact LeO.none _)
      | (with_reducible refine LeO.ite ?_ ?_)
      | (with_reducible refine LeO.bind ?_ (fun _ => ?_))
      | exact ih0 _ _ _ _
      | exact ih1 _ _ _ _
      | exact ih2 _ _ _ _ _ _ _ _
      | exact laws_chained.mono _ _ _ _
      | exact laws_short.mono _ _
      | exact spec_DebianKnown.mono _ _
      | exact LeO.none _
      | refine LeO.ite ?_ ?_
      | refine LeO.bind ?_ (fun _ => ?_)
    · intro y0 y1 y2 y3 y4 y5 y6 y7
      unfold laws_FnDebianOrder.j2
      repeat' first
      | (with_reducible exact ih0 _ _ _ _)
      | (with_reducible exact ih1 _ _ _ _)
      | (with_reducible exact ih2 _ _ _ _ _ _ _ _)
      | (with_reducible exact laws_chained.mono _ _ _ _)
      | (with_reducible exact laws_short.mono _ _)
      | (with_reducible exact spec_DebianKnown.mono _ _)
      | (with_reducible exact LeO.refl _)
      | (with_reducible exact LeO.none _)
      | (with_reducible refine LeO.ite ?_ ?_)
      | (with_reducible refine LeO.bind ?_ (fun _ => ?_))
      | exact ih0 _ _ _ _
      | exact ih1 _ _ _ _
      | exact ih2 _ _ _ _ _ _ _ _
      | exact laws_chained.mono _ _ _ _
      | exact laws_short.mono _ _
      | exact spec_DebianKnown.mono _ _
      | exact LeO.none _
      | refine LeO.ite ?_ ?_
      | refine LeO.bind ?_ (fun _ => ?_)
theorem laws_FnDebianOrder.mono : ∀ a0 a1 a2 k, LeO (laws_FnDebianOrder.f k a0 a1 a2) (laws_FnDebianOrder.f (k + 1) a0 a1 a2) := by
  intro a0 a1 a2 k
  obtain ⟨ih0, ih1, ih2⟩ := laws_FnDebianOrder.mono_l k
  unfold laws_FnDebianOrder.f
  repeat' first
      | (with_reducible exact ih0 _ _ _ _)
      | (with_reducible exact ih1 _ _ _ _)
      | (with_reducible exact ih2 _ _ _ _ _ _ _ _)
      | (with_reducible exact laws_chained.mono _ _ _ _)
      | (with_reducible exact laws_short.mono _ _)
      | (with_reducible exact spec_DebianKnown.mono _ _)
      | (with_reducible exact LeO.refl _)
      | (with_reducible exact LeO.none _)
      | (with_reducible refine LeO.ite ?_ ?_)
      | (with_reducible refine LeO.bind ?_ (fun _ => ?_))
      | exact ih0 _ _ _ _
      | exact ih1 _ _ _ _
      | exact ih2 _ _ _ _ _ _ _ _
      | exact laws_chained.mono _ _ _ _
      | exact laws_short.mono _ _
      | exact spec_DebianKnown.mono _ _
      | exact LeO.none _
      | refine LeO.ite ?_ ?_
      | refine LeO.bind ?_ (fun _ => ?_)
set_option maxHeartbeats 8000000 in
set_option maxRecDepth 100000 in
theorem laws_FnDebianOrder.calls (k : Nat) (a0 : ByteArray) (a1 : ByteArray) (a2 : ByteArray) (r : Bool) (w : World) (hG : GW w) (h : laws_FnDebianOrder.f k a0 a1 a2 = some r) :
    Calls Tryd.prog 4 #[.string a0, .string a1, .string a2] w fun e w' => e = .returned (.bool r) ∧ Below w.heap.size w w' := by
  have HG := Aside0.mk hG
  clear hG
  have HB := Aside0.mk (Below.refl w.heap.size w)
  have H : (if (a0.size : Int) > 2147483647 then (laws_FnDebianOrder.j0 k a0 a1 a2 true) else (if (a1.size : Int) > 2147483647 then (laws_FnDebianOrder.j0 k a0 a1 a2 true) else (laws_FnDebianOrder.j0 k a0 a1 a2 (decide ((a2.size : Int) > 2147483647))))) = some r := h
  clear h
  have HC4 := Aside0.mk H
  clear H
  go_enter Tryd.func4, Tryd.ntmps4
  go_upto_region 1 with (fail)
  go_cut [27] (fun v27 wc => ∃ (kq : Nat) (x27_3 : Bool), v27 = .bool x27_3 ∧ Aside0 (laws_FnDebianOrder.j0 kq a0 a1 a2 x27_3 = some r) ∧ Aside0 (kq ≤ k) ∧ Aside0 (Below w.heap.size w wc))
  case first =>
    have H := HC4.out
    clear HC4
    by_cases c5 : (a0.size : Int) > 2147483647
    · rw [if_pos c5] at H
      have c5b0 : decide (2147483647 < (a0.size : Int)) = true := decide_eq_true c5
      have c5b1 : decide (2147483647 < a0.size) = true := decide_eq_true (by omega)
      clear c5
      (first | rw [c5b0] | (simp only [i64_w, i32_w]; rw [c5b0]) | skip)
      have H' := Aside0.mk H
      clear H
      go_wp2
      go_meet
      case rel => exact ⟨_, (true), (by first | rfl | (simp; done) | (simp [*]; done)), H', ⟨by first | omega | exact Nat.le_refl _⟩, ⟨by repeat (first | (with_reducible first | exact HB.out | apply below_alloc | apply pw_below_drewN | apply below_drew1) | exact HB.out)⟩⟩
    · rw [if_neg c5] at H
      have c5b0 : decide (2147483647 < (a0.size : Int)) = false := decide_eq_false c5
      have c5b1 : decide (2147483647 < a0.size) = false := decide_eq_false (by omega)
      clear c5
      (first | rw [c5b0] | (simp only [i64_w, i32_w]; rw [c5b0]) | skip)
      by_cases c6 : (a1.size : Int) > 2147483647
      · rw [if_pos c6] at H
        have c6b0 : decide (2147483647 < (a1.size : Int)) = true := decide_eq_true c6
        have c6b1 : decide (2147483647 < a1.size) = true := decide_eq_true (by omega)
        clear c6
        have H' := Aside0.mk H
        clear H
        go_wp2
        go_meet
        case rel => exact ⟨_, (true), (by first | rfl | (simp; done) | (simp [*]; done)), H', ⟨by first | omega | exact Nat.le_refl _⟩, ⟨by repeat (first | (with_reducible first | exact HB.out | apply below_alloc | apply pw_below_drewN | apply below_drew1) | exact HB.out)⟩⟩
      · rw [if_neg c6] at H
        have c6b0 : decide (2147483647 < (a1.size : Int)) = false := decide_eq_false c6
        have c6b1 : decide (2147483647 < a1.size) = false := decide_eq_false (by omega)
        clear c6
        have H' := Aside0.mk H
        clear H
        go_wp2
        go_meet
        case rel => exact ⟨_, (decide ((a2.size : Int) > 2147483647)), (by first | rfl | (simp; done) | (simp [*]; done)), H', ⟨by first | omega | exact Nat.le_refl _⟩, ⟨by repeat (first | (with_reducible first | exact HB.out | apply below_alloc | apply pw_below_drewN | apply below_drew1) | exact HB.out)⟩⟩
  case rest =>
    clear HC4
    try clear p2
    try clear c4
    try clear c5
    try clear c5b0
    try clear c5b1
    try clear c6
    try clear c6b0
    try clear c6b1
    obtain ⟨kq, x27_3, rfl, HA, HJ3, HB⟩ := hcut
    cases kq with
    | zero => exact absurd HA.out (by simp [laws_FnDebianOrder.j0])
    | succ kj3 =>
      have H := HA.out
      clear HA
      simp only [laws_FnDebianOrder.j0] at H
      by_cases c7 : x27_3 = true
      · subst c7
        have H1 : (some true) = some r := by rw [if_pos rfl] at H; exact H
        clear H
        have H := H1
        clear H1
        obtain rfl := Option.some.inj H
        go_wp2
        go_ret
        exact ⟨by first | rfl | (simp [errW_none, errW_some] <;> rfl) | (simp [*, errW_none, errW_some] <;> rfl), by repeat (first | (with_reducible first | exact HB.out | apply below_alloc | apply pw_below_drewN | apply below_drew1) | exact HB.out)⟩
      · replace c7 := Bool.eq_false_iff.mpr c7
        subst c7
        have H1 : ((laws_short.f kj3 (([a0, a1, a2] : List ByteArray))).bind fun t148 => (if t148 = true then ((spec_DebianKnown.f kj3 a0).bind fun t149 => (if t149 = true then ((spec_DebianKnown.f kj3 a1).bind fun t150 => (if t150 = true then ((spec_DebianKnown.f kj3 a2).bind fun t151 => (laws_FnDebianOrder.j1 kj3 a0 a1 a2 (!t151))) else (laws_FnDebianOrder.j1 kj3 a0 a1 a2 true))) else (laws_FnDebianOrder.j1 kj3 a0 a1 a2 true))) else (laws_FnDebianOrder.j1 kj3 a0 a1 a2 true))) = some r := by rw [if_neg (show ¬ (false = true) by decide)] at H; exact H
        clear H
        have H := H1
        clear H1
        have HC8 := Aside0.mk H
        clear H
        go_upto_region 3 with (fail)
        go_cut [48] (fun v48 wc => ∃ (kq : Nat) (x48_7 : Bool), v48 = .bool x48_7 ∧ Aside0 (laws_FnDebianOrder.j1 kq a0 a1 a2 x48_7 = some r) ∧ Aside0 (kq ≤ kj3) ∧ Aside0 (Below w.heap.size w wc))
        case first =>
          have H := HC8.out
          clear HC8
          obtain ⟨y145, hy145⟩ : ∃ y_ : List ByteArray, y_ = (([a0, a1, a2] : List ByteArray)) := ⟨_, rfl⟩
          replace H : ((laws_short.f kj3 y145).bind fun t148 => (if t148 = true then ((spec_DebianKnown.f kj3 a0).bind fun t149 => (if t149 = true then ((spec_DebianKnown.f kj3 a1).bind fun t150 => (if t150 = true then ((spec_DebianKnown.f kj3 a2).bind fun t151 => (laws_FnDebianOrder.j1 kj3 a0 a1 a2 (!t151))) else (laws_FnDebianOrder.j1 kj3 a0 a1 a2 true))) else (laws_FnDebianOrder.j1 kj3 a0 a1 a2 true))) else (laws_FnDebianOrder.j1 kj3 a0 a1 a2 true))) = some r := by first | (rw [hy145]; with_reducible exact H) | (have H2_ := (Option.bind_some _ _).symm.trans H; rw [hy145]; with_reducible exact H2_) | (have H2_ := (Option.bind_some _ _).symm.trans H; with_reducible exact H2_) | with_reducible exact H | (rw [hy145]; exact H) | exact H
          have Ny145 := Aside0.mk hy145
          clear hy145
          replace H := Option.bind_eq_some_iff.mp H
          obtain ⟨t148, A90, H⟩ := H
          replace H : (if t148 = true then ((spec_DebianKnown.f kj3 a0).bind fun t149 => (if t149 = true then ((spec_DebianKnown.f kj3 a1).bind fun t150 => (if t150 = true then ((spec_DebianKnown.f kj3 a2).bind fun t151 => (laws_FnDebianOrder.j1 kj3 a0 a1 a2 (!t151))) else (laws_FnDebianOrder.j1 kj3 a0 a1 a2 true))) else (laws_FnDebianOrder.j1 kj3 a0 a1 a2 true))) else (laws_FnDebianOrder.j1 kj3 a0 a1 a2 true)) = some r := H
          have A9 := Aside0.mk A90
          clear A90
          by_cases c10 : t148 = true
          · subst c10
            have H1 : ((spec_DebianKnown.f kj3 a0).bind fun t149 => (if t149 = true then ((spec_DebianKnown.f kj3 a1).bind fun t150 => (if t150 = true then ((spec_DebianKnown.f kj3 a2).bind fun t151 => (laws_FnDebianOrder.j1 kj3 a0 a1 a2 (!t151))) else (laws_FnDebianOrder.j1 kj3 a0 a1 a2 true))) else (laws_FnDebianOrder.j1 kj3 a0 a1 a2 true))) = some r := by rw [if_pos rfl] at H; exact H
            clear H
            have H := H1
            clear H1
            replace H := Option.bind_eq_some_iff.mp H
            obtain ⟨t149, A110, H⟩ := H
            replace H : (if t149 = true then ((spec_DebianKnown.f kj3 a1).bind fun t150 => (if t150 = true then ((spec_DebianKnown.f kj3 a2).bind fun t151 => (laws_FnDebianOrder.j1 kj3 a0 a1 a2 (!t151))) else (laws_FnDebianOrder.j1 kj3 a0 a1 a2 true))) else (laws_FnDebianOrder.j1 kj3 a0 a1 a2 true)) = some r := H
            have A11 := Aside0.mk A110
            clear A110
            by_cases c12 : t149 = true
            · subst c12
              have H1 : ((spec_DebianKnown.f kj3 a1).bind fun t150 => (if t150 = true then ((spec_DebianKnown.f kj3 a2).bind fun t151 => (laws_FnDebianOrder.j1 kj3 a0 a1 a2 (!t151))) else (laws_FnDebianOrder.j1 kj3 a0 a1 a2 true))) = some r := by rw [if_pos rfl] at H; exact H
              clear H
              have H := H1
              clear H1
              replace H := Option.bind_eq_some_iff.mp H
              obtain ⟨t150, A130, H⟩ := H
              replace H : (if t150 = true then ((spec_DebianKnown.f kj3 a2).bind fun t151 => (laws_FnDebianOrder.j1 kj3 a0 a1 a2 (!t151))) else (laws_FnDebianOrder.j1 kj3 a0 a1 a2 true)) = some r := H
              have A13 := Aside0.mk A130
              clear A130
              by_cases c14 : t150 = true
              · subst c14
                have H1 : ((spec_DebianKnown.f kj3 a2).bind fun t151 => (laws_FnDebianOrder.j1 kj3 a0 a1 a2 (!t151))) = some r := by rw [if_pos rfl] at H; exact H
                clear H
                have H := H1
                clear H1
                replace H := Option.bind_eq_some_iff.mp H
                obtain ⟨t151, A150, H⟩ := H
                replace H : (laws_FnDebianOrder.j1 kj3 a0 a1 a2 (!t151)) = some r := H
                have A15 := Aside0.mk A150
                clear A150
                have H' := Aside0.mk H
                clear H
                go_wp2_with (first | ((with_reducible refine gate_dst (N := 31) rfl ?_); (try (refine gate_guard (by rfl) ?_; dsimp only)); refine Kd.R_lit Kd.string _ 9 ?hg (N := 31) ?hd (xs := ([a0, a1, a2] : List ByteArray)) (inner := [.string a0, .string a1, .string a2]) (ok := fun _ => True) (okp := fun _ => True) ?hr ?hp (fun _ hk => hk) trivial (Below.refl _ _) (Nat.le_refl _) (by simp) ?_; (case hd => rfl); (case hg => rfl); (case hr => first | (go_simp; done) | (go_simp; rfl)); (case hp => exact (Reps.one (show Kd.M Kd.string _ _ _ a0 [.string a0] from rfl) (Reps.one (show Kd.M Kd.string _ _ _ a1 [.string a1] from rfl) (Reps.one (show Kd.M Kd.string _ _ _ a2 [.string a2] from rfl) (Reps.none _ _))))); intro v146 w16 ho17 hb hg_ hnew_; clear hg_ hnew_; (first | rw [← Ny145.out] at ho17 | (simp only [Int.reduceToNat] at ho17; rw [← Ny145.out] at ho17)); have n0_ := Aside0.mk (Kd.R_lower ho17 (below_size (by repeat (first | (with_reducible first | exact HB.out | apply below_alloc | apply pw_below_drewN | apply below_drew1) | exact HB.out)))); have n1_ := Aside0.mk (below_step (by repeat (first | (with_reducible first | exact HB.out | apply below_alloc | apply pw_below_drewN | apply below_drew1) | exact HB.out)) hb); clear HB; have HO147 := n0_; have HB := n1_; clear n0_ n1_; clear hb ho17; obtain ⟨Ao18, co18, eo18⟩ := Kd.R_slice HO147.out; subst eo18) | ((with_reducible refine gate_callee (f := 8) rfl ?_); refine goesL_ (some 32) rfl rfl Tryd.func8 (by kernel_rfl) rfl #[.slice Ao18 y145.length co18] rfl (by (try simp only [List.map_toArray, List.map_cons, List.map_nil]); first | done | rfl | (simp only [List.length_drop, List.length_take]; rfl)) ?_; (with_reducible refine (laws_short.calls kj3 _ _ y145 true _ ?side1 ?side2 A9.out).mono ?_); (case side1 => repeat (first | exact (Kd.R_reads' HO147.out).2.2 | (with_reducible refine Kd.C_alloc ?_ _) | (with_reducible refine Kd.C_drewN ?_ _) | (with_reducible refine Kd.C_drew ?_))); (case side2 => exact (Kd.R_reads' HO147.out).2.1); rintro e w' ⟨rfl, ⟨nd, rfl⟩⟩; refine ⟨_, rfl, ?_⟩) | (go_at_call 11; (with_reducible refine (spec_DebianKnown.calls kj3 a0 true _ A11.out).mono ?_); rintro e w' ⟨rfl, ⟨nd, rfl⟩⟩) | (go_at_call 11; (with_reducible refine (spec_DebianKnown.calls kj3 a1 true _ A13.out).mono ?_); rintro e w' ⟨rfl, ⟨nd, rfl⟩⟩) | (go_at_call 11; (with_reducible refine (spec_DebianKnown.calls kj3 a2 t151 _ A15.out).mono ?_); rintro e w' ⟨rfl, ⟨nd, rfl⟩⟩))
                go_meet
                case rel => exact ⟨_, (!t151), (by first | rfl | (simp; done) | (simp [*]; done)), H', ⟨by have := HJ3.out; first | omega | exact Nat.le_refl _⟩, ⟨by repeat (first | (with_reducible first | exact HB.out | apply below_alloc | apply pw_below_drewN | apply below_drew1) | exact HB.out)⟩⟩
              · replace c14 := Bool.eq_false_iff.mpr c14
                subst c14
                have H1 : (laws_FnDebianOrder.j1 kj3 a0 a1 a2 true) = some r := by rw [if_neg (show ¬ (false = true) by decide)] at H; exact H
                clear H
                have H := H1
                clear H1
                have H' := Aside0.mk H
                clear H
                go_wp2_with (first | ((with_reducible refine gate_dst (N := 31) rfl ?_); (try (refine gate_guard (by rfl) ?_; dsimp only)); refine Kd.R_lit Kd.string _ 9 ?hg (N := 31) ?hd (xs := ([a0, a1, a2] : List ByteArray)) (inner := [.string a0, .string a1, .string a2]) (ok := fun _ => True) (okp := fun _ => True) ?hr ?hp (fun _ hk => hk) trivial (Below.refl _ _) (Nat.le_refl _) (by simp) ?_; (case hd => rfl); (case hg => rfl); (case hr => first | (go_simp; done) | (go_simp; rfl)); (case hp => exact (Reps.one (show Kd.M Kd.string _ _ _ a0 [.string a0] from rfl) (Reps.one (show Kd.M Kd.string _ _ _ a1 [.string a1] from rfl) (Reps.one (show Kd.M Kd.string _ _ _ a2 [.string a2] from rfl) (Reps.none _ _))))); intro v146 w19 ho20 hb hg_ hnew_; clear hg_ hnew_; (first | rw [← Ny145.out] at ho20 | (simp only [Int.reduceToNat] at ho20; rw [← Ny145.out] at ho20)); have n0_ := Aside0.mk (Kd.R_lower ho20 (below_size (by repeat (first | (with_reducible first | exact HB.out | apply below_alloc | apply pw_below_drewN | apply below_drew1) | exact HB.out)))); have n1_ := Aside0.mk (below_step (by repeat (first | (with_reducible first | exact HB.out | apply below_alloc | apply pw_below_drewN | apply below_drew1) | exact HB.out)) hb); clear HB; have HO147 := n0_; have HB := n1_; clear n0_ n1_; clear hb ho20; obtain ⟨Ao21, co21, eo21⟩ := Kd.R_slice HO147.out; subst eo21) | ((with_reducible refine gate_callee (f := 8) rfl ?_); refine goesL_ (some 32) rfl rfl Tryd.func8 (by kernel_rfl) rfl #[.slice Ao21 y145.length co21] rfl (by (try simp only [List.map_toArray, List.map_cons, List.map_nil]); first | done | rfl | (simp only [List.length_drop, List.length_take]; rfl)) ?_; (with_reducible refine (laws_short.calls kj3 _ _ y145 true _ ?side1 ?side2 A9.out).mono ?_); (case side1 => repeat (first | exact (Kd.R_reads' HO147.out).2.2 | (with_reducible refine Kd.C_alloc ?_ _) | (with_reducible refine Kd.C_drewN ?_ _) | (with_reducible refine Kd.C_drew ?_))); (case side2 => exact (Kd.R_reads' HO147.out).2.1); rintro e w' ⟨rfl, ⟨nd, rfl⟩⟩; refine ⟨_, rfl, ?_⟩) | (go_at_call 11; (with_reducible refine (spec_DebianKnown.calls kj3 a0 true _ A11.out).mono ?_); rintro e w' ⟨rfl, ⟨nd, rfl⟩⟩) | (go_at_call 11; (with_reducible refine (spec_DebianKnown.calls kj3 a1 false _ A13.out).mono ?_); rintro e w' ⟨rfl, ⟨nd, rfl⟩⟩))
                go_meet
                case rel => exact ⟨_, (true), (by first | rfl | (simp; done) | (simp [*]; done)), H', ⟨by have := HJ3.out; first | omega | exact Nat.le_refl _⟩, ⟨by repeat (first | (with_reducible first | exact HB.out | apply below_alloc | apply pw_below_drewN | apply below_drew1) | exact HB.out)⟩⟩
            · replace c12 := Bool.eq_false_iff.mpr c12
              subst c12
              have H1 : (laws_FnDebianOrder.j1 kj3 a0 a1 a2 true) = some r := by rw [if_neg (show ¬ (false = true) by decide)] at H; exact H
              clear H
              have H := H1
              clear H1
              have H' := Aside0.mk H
              clear H
              go_wp2_with (first | ((with_reducible refine gate_dst (N := 31) rfl ?_); (try (refine gate_guard (by rfl) ?_; dsimp only)); refine Kd.R_lit Kd.string _ 9 ?hg (N := 31) ?hd (xs := ([a0, a1, a2] : List ByteArray)) (inner := [.string a0, .string a1, .string a2]) (ok := fun _ => True) (okp := fun _ => True) ?hr ?hp (fun _ hk => hk) trivial (Below.refl _ _) (Nat.le_refl _) (by simp) ?_; (case hd => rfl); (case hg => rfl); (case hr => first | (go_simp; done) | (go_simp; rfl)); (case hp => exact (Reps.one (show Kd.M Kd.string _ _ _ a0 [.string a0] from rfl) (Reps.one (show Kd.M Kd.string _ _ _ a1 [.string a1] from rfl) (Reps.one (show Kd.M Kd.string _ _ _ a2 [.string a2] from rfl) (Reps.none _ _))))); intro v146 w22 ho23 hb hg_ hnew_; clear hg_ hnew_; (first | rw [← Ny145.out] at ho23 | (simp only [Int.reduceToNat] at ho23; rw [← Ny145.out] at ho23)); have n0_ := Aside0.mk (Kd.R_lower ho23 (below_size (by repeat (first | (with_reducible first | exact HB.out | apply below_alloc | apply pw_below_drewN | apply below_drew1) | exact HB.out)))); have n1_ := Aside0.mk (below_step (by repeat (first | (with_reducible first | exact HB.out | apply below_alloc | apply pw_below_drewN | apply below_drew1) | exact HB.out)) hb); clear HB; have HO147 := n0_; have HB := n1_; clear n0_ n1_; clear hb ho23; obtain ⟨Ao24, co24, eo24⟩ := Kd.R_slice HO147.out; subst eo24) | ((with_reducible refine gate_callee (f := 8) rfl ?_); refine goesL_ (some 32) rfl rfl Tryd.func8 (by kernel_rfl) rfl #[.slice Ao24 y145.length co24] rfl (by (try simp only [List.map_toArray, List.map_cons, List.map_nil]); first | done | rfl | (simp only [List.length_drop, List.length_take]; rfl)) ?_; (with_reducible refine (laws_short.calls kj3 _ _ y145 true _ ?side1 ?side2 A9.out).mono ?_); (case side1 => repeat (first | exact (Kd.R_reads' HO147.out).2.2 | (with_reducible refine Kd.C_alloc ?_ _) | (with_reducible refine Kd.C_drewN ?_ _) | (with_reducible refine Kd.C_drew ?_))); (case side2 => exact (Kd.R_reads' HO147.out).2.1); rintro e w' ⟨rfl, ⟨nd, rfl⟩⟩; refine ⟨_, rfl, ?_⟩) | (go_at_call 11; (with_reducible refine (spec_DebianKnown.calls kj3 a0 false _ A11.out).mono ?_); rintro e w' ⟨rfl, ⟨nd, rfl⟩⟩))
              go_meet
              case rel => exact ⟨_, (true), (by first | rfl | (simp; done) | (simp [*]; done)), H', ⟨by have := HJ3.out; first | omega | exact Nat.le_refl _⟩, ⟨by repeat (first | (with_reducible first | exact HB.out | apply below_alloc | apply pw_below_drewN | apply below_drew1) | exact HB.out)⟩⟩
          · replace c10 := Bool.eq_false_iff.mpr c10
            subst c10
            have H1 : (laws_FnDebianOrder.j1 kj3 a0 a1 a2 true) = some r := by rw [if_neg (show ¬ (false = true) by decide)] at H; exact H
            clear H
            have H := H1
            clear H1
            have H' := Aside0.mk H
            clear H
            go_wp2_with (first | ((with_reducible refine gate_dst (N := 31) rfl ?_); (try (refine gate_guard (by rfl) ?_; dsimp only)); refine Kd.R_lit Kd.string _ 9 ?hg (N := 31) ?hd (xs := ([a0, a1, a2] : List ByteArray)) (inner := [.string a0, .string a1, .string a2]) (ok := fun _ => True) (okp := fun _ => True) ?hr ?hp (fun _ hk => hk) trivial (Below.refl _ _) (Nat.le_refl _) (by simp) ?_; (case hd => rfl); (case hg => rfl); (case hr => first | (go_simp; done) | (go_simp; rfl)); (case hp => exact (Reps.one (show Kd.M Kd.string _ _ _ a0 [.string a0] from rfl) (Reps.one (show Kd.M Kd.string _ _ _ a1 [.string a1] from rfl) (Reps.one (show Kd.M Kd.string _ _ _ a2 [.string a2] from rfl) (Reps.none _ _))))); intro v146 w25 ho26 hb hg_ hnew_; clear hg_ hnew_; (first | rw [← Ny145.out] at ho26 | (simp only [Int.reduceToNat] at ho26; rw [← Ny145.out] at ho26)); have n0_ := Aside0.mk (Kd.R_lower ho26 (below_size (by repeat (first | (with_reducible first | exact HB.out | apply below_alloc | apply pw_below_drewN | apply below_drew1) | exact HB.out)))); have n1_ := Aside0.mk (below_step (by repeat (first | (with_reducible first | exact HB.out | apply below_alloc | apply pw_below_drewN | apply below_drew1) | exact HB.out)) hb); clear HB; have HO147 := n0_; have HB := n1_; clear n0_ n1_; clear hb ho26; obtain ⟨Ao27, co27, eo27⟩ := Kd.R_slice HO147.out; subst eo27) | ((with_reducible refine gate_callee (f := 8) rfl ?_); refine goesL_ (some 32) rfl rfl Tryd.func8 (by kernel_rfl) rfl #[.slice Ao27 y145.length co27] rfl (by (try simp only [List.map_toArray, List.map_cons, List.map_nil]); first | done | rfl | (simp only [List.length_drop, List.length_take]; rfl)) ?_; (with_reducible refine (laws_short.calls kj3 _ _ y145 false _ ?side1 ?side2 A9.out).mono ?_); (case side1 => repeat (first | exact (Kd.R_reads' HO147.out).2.2 | (with_reducible refine Kd.C_alloc ?_ _) | (with_reducible refine Kd.C_drewN ?_ _) | (with_reducible refine Kd.C_drew ?_))); (case side2 => exact (Kd.R_reads' HO147.out).2.1); rintro e w' ⟨rfl, ⟨nd, rfl⟩⟩; refine ⟨_, rfl, ?_⟩))
            go_meet
            case rel => exact ⟨_, (true), (by first | rfl | (simp; done) | (simp [*]; done)), H', ⟨by have := HJ3.out; first | omega | exact Nat.le_refl _⟩, ⟨by repeat (first | (with_reducible first | exact HB.out | apply below_alloc | apply pw_below_drewN | apply below_drew1) | exact HB.out)⟩⟩
        case rest =>
          clear HC8
          try clear c1
          try clear p2
          try clear c4
          try clear c5
          try clear c5b0
          try clear c5b1
          try clear c6
          try clear c6b0
          try clear c6b1
          try clear c7
          try clear c8
          try clear c10
          try clear c12
          try clear c14
          try clear p2
          obtain ⟨kq, x48_7, rfl, HA, HJ7, HB⟩ := hcut
          cases kq with
          | zero => exact absurd HA.out (by simp [laws_FnDebianOrder.j1])
          | succ kj7 =>
            have H := HA.out
            clear HA
            simp only [laws_FnDebianOrder.j1] at H
            by_cases c28 : x48_7 = true
            · subst c28
              have H1 : (some true) = some r := by rw [if_pos rfl] at H; exact H
              clear H
              have H := H1
              clear H1
              obtain rfl := Option.some.inj H
              go_wp2
              go_ret
              exact ⟨by first | rfl | (simp [errW_none, errW_some] <;> rfl) | (simp [*, errW_none, errW_some] <;> rfl), by repeat (first | (with_reducible first | exact HB.out | apply below_alloc | apply pw_below_drewN | apply below_drew1) | exact HB.out)⟩
            · replace c28 := Bool.eq_false_iff.mpr c28
              subst c28
              have H1 : ((impl_DebianCompare.f a0 a1).bind fun bt152 => ((impl_DebianCompare.f a1 a2).bind fun bt154 => ((impl_DebianCompare.f a0 a2).bind fun bt156 => ((impl_DebianCompare.f a0 a0).bind fun bt158 => (if bt152.2 = true then (if bt154.2 = true then (if bt156.2 = true then (laws_FnDebianOrder.j2 kj7 bt152.1 bt152.2 bt154.1 bt154.2 bt156.1 bt156.2 bt158.1 (!bt158.2)) else (laws_FnDebianOrder.j2 kj7 bt152.1 bt152.2 bt154.1 bt154.2 bt156.1 bt156.2 bt158.1 true)) else (laws_FnDebianOrder.j2 kj7 bt152.1 bt152.2 bt154.1 bt154.2 bt156.1 bt156.2 bt158.1 true)) else (laws_FnDebianOrder.j2 kj7 bt152.1 bt152.2 bt154.1 bt154.2 bt156.1 bt156.2 bt158.1 true)))))) = some r := by rw [if_neg (show ¬ (false = true) by decide)] at H; exact H
              clear H
              have H := H1
              clear H1
              replace H := Option.bind_eq_some_iff.mp H
              obtain ⟨⟨t152, t153⟩, A290, H⟩ := H
              replace H : ((impl_DebianCompare.f a1 a2).bind fun bt154 => ((impl_DebianCompare.f a0 a2).bind fun bt156 => ((impl_DebianCompare.f a0 a0).bind fun bt158 => (if t153 = true then (if bt154.2 = true then (if bt156.2 = true then (laws_FnDebianOrder.j2 kj7 t152 t153 bt154.1 bt154.2 bt156.1 bt156.2 bt158.1 (!bt158.2)) else (laws_FnDebianOrder.j2 kj7 t152 t153 bt154.1 bt154.2 bt156.1 bt156.2 bt158.1 true)) else (laws_FnDebianOrder.j2 kj7 t152 t153 bt154.1 bt154.2 bt156.1 bt156.2 bt158.1 true)) else (laws_FnDebianOrder.j2 kj7 t152 t153 bt154.1 bt154.2 bt156.1 bt156.2 bt158.1 true))))) = some r := H
              have A29 := Aside0.mk A290
              clear A290
              replace H := Option.bind_eq_some_iff.mp H
              obtain ⟨⟨t154, t155⟩, A300, H⟩ := H
              replace H : ((impl_DebianCompare.f a0 a2).bind fun bt156 => ((impl_DebianCompare.f a0 a0).bind fun bt158 => (if t153 = true then (if t155 = true then (if bt156.2 = true then (laws_FnDebianOrder.j2 kj7 t152 t153 t154 t155 bt156.1 bt156.2 bt158.1 (!bt158.2)) else (laws_FnDebianOrder.j2 kj7 t152 t153 t154 t155 bt156.1 bt156.2 bt158.1 true)) else (laws_FnDebianOrder.j2 kj7 t152 t153 t154 t155 bt156.1 bt156.2 bt158.1 true)) else (laws_FnDebianOrder.j2 kj7 t152 t153 t154 t155 bt156.1 bt156.2 bt158.1 true)))) = some r := H
              have A30 := Aside0.mk A300
              clear A300
              replace H := Option.bind_eq_some_iff.mp H
              obtain ⟨⟨t156, t157⟩, A310, H⟩ := H
              replace H : ((impl_DebianCompare.f a0 a0).bind fun bt158 => (if t153 = true then (if t155 = true then (if t157 = true then (laws_FnDebianOrder.j2 kj7 t152 t153 t154 t155 t156 t157 bt158.1 (!bt158.2)) else (laws_FnDebianOrder.j2 kj7 t152 t153 t154 t155 t156 t157 bt158.1 true)) else (laws_FnDebianOrder.j2 kj7 t152 t153 t154 t155 t156 t157 bt158.1 true)) else (laws_FnDebianOrder.j2 kj7 t152 t153 t154 t155 t156 t157 bt158.1 true))) = some r := H
              have A31 := Aside0.mk A310
              clear A310
              replace H := Option.bind_eq_some_iff.mp H
              obtain ⟨⟨t158, t159⟩, A320, H⟩ := H
              replace H : (if t153 = true then (if t155 = true then (if t157 = true then (laws_FnDebianOrder.j2 kj7 t152 t153 t154 t155 t156 t157 t158 (!t159)) else (laws_FnDebianOrder.j2 kj7 t152 t153 t154 t155 t156 t157 t158 true)) else (laws_FnDebianOrder.j2 kj7 t152 t153 t154 t155 t156 t157 t158 true)) else (laws_FnDebianOrder.j2 kj7 t152 t153 t154 t155 t156 t157 t158 true)) = some r := H
              have A32 := Aside0.mk A320
              clear A320
              have HC33 := Aside0.mk H
              clear H
              go_upto_region 9 with (first | ((with_reducible refine gate_callee (f := 14) rfl ?_); refine goesL_ (some 52) rfl rfl Tryd.func14 (by kernel_rfl) rfl #[.string a0, .string a1] rfl (by (try simp only [List.map_toArray, List.map_cons, List.map_nil]); first | done | rfl | (simp only [List.length_drop, List.length_take]; rfl)) ?_; (with_reducible refine (impl_DebianCompare.calls a0 a1 t152 t153 _ ?side1 A29.out).mono ?_); (case side1 => first | exact HG.out | exact GW.below HG.out (by repeat (first | (with_reducible first | exact HB.out | exact Below.refl _ _ | apply below_alloc | apply pw_below_drewN | apply below_drew1 | apply below_drew | refine below_set ?_ (Aside0.out (by assumption))) | exact HB.out))); rintro e w34 ⟨rfl, hb⟩; refine ⟨_, rfl, ?_⟩; have n0_ := Aside0.mk (below_step (by repeat (first | (with_reducible first | exact HB.out | apply below_alloc | apply pw_below_drewN | apply below_drew1) | exact HB.out)) hb); clear HB; have HB := n0_; clear n0_; (try clear hb); (try clear hb2); (try clear hk); (try clear hi)) | ((with_reducible refine gate_callee (f := 14) rfl ?_); refine goesL_ (some 58) rfl rfl Tryd.func14 (by kernel_rfl) rfl #[.string a1, .string a2] rfl (by (try simp only [List.map_toArray, List.map_cons, List.map_nil]); first | done | rfl | (simp only [List.length_drop, List.length_take]; rfl)) ?_; (with_reducible refine (impl_DebianCompare.calls a1 a2 t154 t155 _ ?side1 A30.out).mono ?_); (case side1 => first | exact HG.out | exact GW.below HG.out (by repeat (first | (with_reducible first | exact HB.out | exact Below.refl _ _ | apply below_alloc | apply pw_below_drewN | apply below_drew1 | apply below_drew | refine below_set ?_ (Aside0.out (by assumption))) | exact HB.out))); rintro e w35 ⟨rfl, hb⟩; refine ⟨_, rfl, ?_⟩; have n0_ := Aside0.mk (below_step (by repeat (first | (with_reducible first | exact HB.out | apply below_alloc | apply pw_below_drewN | apply below_drew1) | exact HB.out)) hb); clear HB; have HB := n0_; clear n0_; (try clear hb); (try clear hb2); (try clear hk); (try clear hi)) | ((with_reducible refine gate_callee (f := 14) rfl ?_); refine goesL_ (some 64) rfl rfl Tryd.func14 (by kernel_rfl) rfl #[.string a0, .string a2] rfl (by (try simp only [List.map_toArray, List.map_cons, List.map_nil]); first | done | rfl | (simp only [List.length_drop, List.length_take]; rfl)) ?_; (with_reducible refine (impl_DebianCompare.calls a0 a2 t156 t157 _ ?side1 A31.out).mono ?_); (case side1 => first | exact HG.out | exact GW.below HG.out (by repeat (first | (with_reducible first | exact HB.out | exact Below.refl _ _ | apply below_alloc | apply pw_below_drewN | apply below_drew1 | apply below_drew | refine below_set ?_ (Aside0.out (by assumption))) | exact HB.out))); rintro e w36 ⟨rfl, hb⟩; refine ⟨_, rfl, ?_⟩; have n0_ := Aside0.mk (below_step (by repeat (first | (with_reducible first | exact HB.out | apply below_alloc | apply pw_below_drewN | apply below_drew1) | exact HB.out)) hb); clear HB; have HB := n0_; clear n0_; (try clear hb); (try clear hb2); (try clear hk); (try clear hi)) | ((with_reducible refine gate_callee (f := 14) rfl ?_); refine goesL_ (some 70) rfl rfl Tryd.func14 (by kernel_rfl) rfl #[.string a0, .string a0] rfl (by (try simp only [List.map_toArray, List.map_cons, List.map_nil]); first | done | rfl | (simp only [List.length_drop, List.length_take]; rfl)) ?_; (with_reducible refine (impl_DebianCompare.calls a0 a0 t158 t159 _ ?side1 A32.out).mono ?_); (case side1 => first | exact HG.out | exact GW.below HG.out (by repeat (first | (with_reducible first | exact HB.out | exact Below.refl _ _ | apply below_alloc | apply pw_below_drewN | apply below_drew1 | apply below_drew | refine below_set ?_ (Aside0.out (by assumption))) | exact HB.out))); rintro e w37 ⟨rfl, hb⟩; refine ⟨_, rfl, ?_⟩; have n0_ := Aside0.mk (below_step (by repeat (first | (with_reducible first | exact HB.out | apply below_alloc | apply pw_below_drewN | apply below_drew1) | exact HB.out)) hb); clear HB; have HB := n0_; clear n0_; (try clear hb); (try clear hb2); (try clear hk); (try clear hi)))
              (try simp only [Act.put, List.setIfInBounds_toArray, List.set_cons_zero, List.set_cons_succ])
              go_cut [86] (fun v86 wc => ∃ (kq : Nat) (x86_32 : Bool), v86 = .bool x86_32 ∧ Aside0 (laws_FnDebianOrder.j2 kq t152 t153 t154 t155 t156 t157 t158 x86_32 = some r) ∧ Aside0 (kq ≤ kj7) ∧ Aside0 (Below w.heap.size w wc))
              case first =>
                have H := HC33.out
                clear HC33
                by_cases c38 : t153 = true
                · subst c38
                  have H1 : (if t155 = true then (if t157 = true then (laws_FnDebianOrder.j2 kj7 t152 true t154 t155 t156 t157 t158 (!t159)) else (laws_FnDebianOrder.j2 kj7 t152 true t154 t155 t156 t157 t158 true)) else (laws_FnDebianOrder.j2 kj7 t152 true t154 t155 t156 t157 t158 true)) = some r := by rw [if_pos rfl] at H; exact H
                  clear H
                  have H := H1
                  clear H1
                  by_cases c39 : t155 = true
                  · subst c39
                    have H1 : (if t157 = true then (laws_FnDebianOrder.j2 kj7 t152 true t154 true t156 t157 t158 (!t159)) else (laws_FnDebianOrder.j2 kj7 t152 true t154 true t156 t157 t158 true)) = some r := by rw [if_pos rfl] at H; exact H
                    clear H
                    have H := H1
                    clear H1
                    by_cases c40 : t157 = true
                    · subst c40
                      have H1 : (laws_FnDebianOrder.j2 kj7 t152 true t154 true t156 true t158 (!t159)) = some r := by rw [if_pos rfl] at H; exact H
                      clear H
                      have H := H1
                      clear H1
                      have H' := Aside0.mk H
                      clear H
                      go_wp2
                      go_meet
                      case rel => exact ⟨_, (!t159), (by first | rfl | (simp; done) | (simp [*]; done)), H', ⟨by have := HJ3.out; have := HJ7.out; first | omega | exact Nat.le_refl _⟩, ⟨by repeat (first | (with_reducible first | exact HB.out | apply below_alloc | apply pw_below_drewN | apply below_drew1) | exact HB.out)⟩⟩
                    · replace c40 := Bool.eq_false_iff.mpr c40
                      subst c40
                      have H1 : (laws_FnDebianOrder.j2 kj7 t152 true t154 true t156 false t158 true) = some r := by rw [if_neg (show ¬ (false = true) by decide)] at H; exact H
                      clear H
                      have H := H1
                      clear H1
                      have H' := Aside0.mk H
                      clear H
                      go_wp2
                      go_meet
                      case rel => exact ⟨_, (true), (by first | rfl | (simp; done) | (simp [*]; done)), H', ⟨by have := HJ3.out; have := HJ7.out; first | omega | exact Nat.le_refl _⟩, ⟨by repeat (first | (with_reducible first | exact HB.out | apply below_alloc | apply pw_below_drewN | apply below_drew1) | exact HB.out)⟩⟩
                  · replace c39 := Bool.eq_false_iff.mpr c39
                    subst c39
                    have H1 : (laws_FnDebianOrder.j2 kj7 t152 true t154 false t156 t157 t158 true) = some r := by rw [if_neg (show ¬ (false = true) by decide)] at H; exact H
                    clear H
                    have H := H1
                    clear H1
                    have H' := Aside0.mk H
                    clear H
                    go_wp2
                    go_meet
                    case rel => exact ⟨_, (true), (by first | rfl | (simp; done) | (simp [*]; done)), H', ⟨by have := HJ3.out; have := HJ7.out; first | omega | exact Nat.le_refl _⟩, ⟨by repeat (first | (with_reducible first | exact HB.out | apply below_alloc | apply pw_below_drewN | apply below_drew1) | exact HB.out)⟩⟩
                · replace c38 := Bool.eq_false_iff.mpr c38
                  subst c38
                  have H1 : (laws_FnDebianOrder.j2 kj7 t152 false t154 t155 t156 t157 t158 true) = some r := by rw [if_neg (show ¬ (false = true) by decide)] at H; exact H
                  clear H
                  have H := H1
                  clear H1
                  have H' := Aside0.mk H
                  clear H
                  go_wp2
                  go_meet
                  case rel => exact ⟨_, (true), (by first | rfl | (simp; done) | (simp [*]; done)), H', ⟨by have := HJ3.out; have := HJ7.out; first | omega | exact Nat.le_refl _⟩, ⟨by repeat (first | (with_reducible first | exact HB.out | apply below_alloc | apply pw_below_drewN | apply below_drew1) | exact HB.out)⟩⟩
              case rest =>
                clear HC33
                try clear c1
                try clear c2
                try clear p2
                try clear c3
                try clear c4
                try clear c5
                try clear c5b0
                try clear c5b1
                try clear c6
                try clear c6b0
                try clear c6b1
                try clear c7
                try clear c8
                try clear c10
                try clear c12
                try clear c14
                try clear c28
                try clear c38
                try clear c39
                try clear c40
                try clear p2
                obtain ⟨kq, x86_32, rfl, HA, HJ32, HB⟩ := hcut
                cases kq with
                | zero => exact absurd HA.out (by simp [laws_FnDebianOrder.j2])
                | succ kj32 =>
                  have H := HA.out
                  clear HA
                  simp only [laws_FnDebianOrder.j2] at H
                  by_cases c41 : x86_32 = true
                  · subst c41
                    have H1 : ((laws_debianAwake.f).bind fun t160 => (if t160 = true then (if t153 = true then (if t155 = true then (if t157 = true then (some false) else (some (t156 == 0))) else (if t154 = 0 then (some true) else (if t157 = true then (some false) else (some (t156 == 0))))) else (if t152 = 0 then (some true) else (if t155 = true then (if t157 = true then (some false) else (some (t156 == 0))) else (if t154 = 0 then (some true) else (if t157 = true then (some false) else (some (t156 == 0))))))) else (some false))) = some r := by rw [if_pos rfl] at H; exact H
                    clear H
                    have H := H1
                    clear H1
                    replace H := Option.bind_eq_some_iff.mp H
                    obtain ⟨t160, A420, H⟩ := H
                    replace H : (if t160 = true then (if t153 = true then (if t155 = true then (if t157 = true then (some false) else (some (t156 == 0))) else (if t154 = 0 then (some true) else (if t157 = true then (some false) else (some (t156 == 0))))) else (if t152 = 0 then (some true) else (if t155 = true then (if t157 = true then (some false) else (some (t156 == 0))) else (if t154 = 0 then (some true) else (if t157 = true then (some false) else (some (t156 == 0))))))) else (some false)) = some r := H
                    have A42 := Aside0.mk A420
                    clear A420
                    by_cases c43 : t160 = true
                    · subst c43
                      have H1 : (if t153 = true then (if t155 = true then (if t157 = true then (some false) else (some (t156 == 0))) else (if t154 = 0 then (some true) else (if t157 = true then (some false) else (some (t156 == 0))))) else (if t152 = 0 then (some true) else (if t155 = true then (if t157 = true then (some false) else (some (t156 == 0))) else (if t154 = 0 then (some true) else (if t157 = true then (some false) else (some (t156 == 0))))))) = some r := by rw [if_pos rfl] at H; exact H
                      clear H
                      have H := H1
                      clear H1
                      by_cases c44 : t153 = true
                      · subst c44
                        have H1 : (if t155 = true then (if t157 = true then (some false) else (some (t156 == 0))) else (if t154 = 0 then (some true) else (if t157 = true then (some false) else (some (t156 == 0))))) = some r := by rw [if_pos rfl] at H; exact H
                        clear H
                        have H := H1
                        clear H1
                        by_cases c45 : t155 = true
                        · subst c45
                          have H1 : (if t157 = true then (some false) else (some (t156 == 0))) = some r := by rw [if_pos rfl] at H; exact H
                          clear H
                          have H := H1
                          clear H1
                          by_cases c46 : t157 = true
                          · subst c46
                            have H1 : (some false) = some r := by rw [if_pos rfl] at H; exact H
                            clear H
                            have H := H1
                            clear H1
                            obtain rfl := Option.some.inj H
                            go_wp2_with (first | ((with_reducible refine gate_callee (f := 15) rfl ?_); refine goesL_ (some 87) rfl rfl Tryd.func15 (by kernel_rfl) rfl #[] rfl (by (try simp only [List.map_toArray, List.map_cons, List.map_nil]); first | done | rfl | (simp only [List.length_drop, List.length_take]; rfl)) ?_; (with_reducible refine (laws_debianAwake.calls  true _ ?side1 A42.out).mono ?_); (case side1 => first | exact HG.out | exact GW.below HG.out (by repeat (first | (with_reducible first | exact HB.out | exact Below.refl _ _ | apply below_alloc | apply pw_below_drewN | apply below_drew1 | apply below_drew | refine below_set ?_ (Aside0.out (by assumption))) | exact HB.out))); rintro e w47 ⟨rfl, hb⟩; refine ⟨_, rfl, ?_⟩; have n0_ := Aside0.mk (below_step (by repeat (first | (with_reducible first | exact HB.out | apply below_alloc | apply pw_below_drewN | apply below_drew1) | exact HB.out)) hb); clear HB; have HB := n0_; clear n0_; (try clear hb); (try clear hb2); (try clear hk); (try clear hi)))
                            go_ret
                            exact ⟨by first | rfl | (simp [errW_none, errW_some] <;> rfl) | (simp [*, errW_none, errW_some] <;> rfl), by repeat (first | (with_reducible first | exact HB.out | apply below_alloc | apply pw_below_drewN | apply below_drew1) | exact HB.out)⟩
                          · replace c46 := Bool.eq_false_iff.mpr c46
                            subst c46
                            have H1 : (some (t156 == 0)) = some r := by rw [if_neg (show ¬ (false = true) by decide)] at H; exact H
                            clear H
                            have H := H1
                            clear H1
                            obtain rfl := Option.some.inj H
                            go_wp2_with (first | ((with_reducible refine gate_callee (f := 15) rfl ?_); refine goesL_ (some 87) rfl rfl Tryd.func15 (by kernel_rfl) rfl #[] rfl (by (try simp only [List.map_toArray, List.map_cons, List.map_nil]); first | done | rfl | (simp only [List.length_drop, List.length_take]; rfl)) ?_; (with_reducible refine (laws_debianAwake.calls  true _ ?side1 A42.out).mono ?_); (case side1 => first | exact HG.out | exact GW.below HG.out (by repeat (first | (with_reducible first | exact HB.out | exact Below.refl _ _ | apply below_alloc | apply pw_below_drewN | apply below_drew1 | apply below_drew | refine below_set ?_ (Aside0.out (by assumption))) | exact HB.out))); rintro e w48 ⟨rfl, hb⟩; refine ⟨_, rfl, ?_⟩; have n0_ := Aside0.mk (below_step (by repeat (first | (with_reducible first | exact HB.out | apply below_alloc | apply pw_below_drewN | apply below_drew1) | exact HB.out)) hb); clear HB; have HB := n0_; clear n0_; (try clear hb); (try clear hb2); (try clear hk); (try clear hi)))
                            go_ret
                            exact ⟨by first | rfl | (simp [errW_none, errW_some] <;> rfl) | (simp [*, errW_none, errW_some] <;> rfl), by repeat (first | (with_reducible first | exact HB.out | apply below_alloc | apply pw_below_drewN | apply below_drew1) | exact HB.out)⟩
                        · replace c45 := Bool.eq_false_iff.mpr c45
                          subst c45
                          have H1 : (if t154 = 0 then (some true) else (if t157 = true then (some false) else (some (t156 == 0)))) = some r := by rw [if_neg (show ¬ (false = true) by decide)] at H; exact H
                          clear H
                          have H := H1
                          clear H1
                          by_cases c49 : t154 = 0
                          · rw [if_pos c49] at H
                            have c49b0 : (t154 == 0) = true := beq_iff_eq.mpr c49
                            have c49b1 : (t154 != 0) = false := bne_eq_false_iff_eq.mpr c49
                            clear c49
                            obtain rfl := Option.some.inj H
                            go_wp2_with (first | ((with_reducible refine gate_callee (f := 15) rfl ?_); refine goesL_ (some 87) rfl rfl Tryd.func15 (by kernel_rfl) rfl #[] rfl (by (try simp only [List.map_toArray, List.map_cons, List.map_nil]); first | done | rfl | (simp only [List.length_drop, List.length_take]; rfl)) ?_; (with_reducible refine (laws_debianAwake.calls  true _ ?side1 A42.out).mono ?_); (case side1 => first | exact HG.out | exact GW.below HG.out (by repeat (first | (with_reducible first | exact HB.out | exact Below.refl _ _ | apply below_alloc | apply pw_below_drewN | apply below_drew1 | apply below_drew | refine below_set ?_ (Aside0.out (by assumption))) | exact HB.out))); rintro e w50 ⟨rfl, hb⟩; refine ⟨_, rfl, ?_⟩; have n0_ := Aside0.mk (below_step (by repeat (first | (with_reducible first | exact HB.out | apply below_alloc | apply pw_below_drewN | apply below_drew1) | exact HB.out)) hb); clear HB; have HB := n0_; clear n0_; (try clear hb); (try clear hb2); (try clear hk); (try clear hi)))
                            go_ret
                            exact ⟨by first | rfl | (simp [errW_none, errW_some] <;> rfl) | (simp [*, errW_none, errW_some] <;> rfl), by repeat (first | (with_reducible first | exact HB.out | apply below_alloc | apply pw_below_drewN | apply below_drew1) | exact HB.out)⟩
                          · rw [if_neg c49] at H
                            have c49b0 : (t154 == 0) = false := beq_eq_false_iff_ne.mpr c49
                            have c49b1 : (t154 != 0) = true := bne_iff_ne.mpr c49
                            by_cases c51 : t157 = true
                            · subst c51
                              have H1 : (some false) = some r := by rw [if_pos rfl] at H; exact H
                              clear H
                              have H := H1
                              clear H1
                              obtain rfl := Option.some.inj H
                              go_wp2_with (first | ((with_reducible refine gate_callee (f := 15) rfl ?_); refine goesL_ (some 87) rfl rfl Tryd.func15 (by kernel_rfl) rfl #[] rfl (by (try simp only [List.map_toArray, List.map_cons, List.map_nil]); first | done | rfl | (simp only [List.length_drop, List.length_take]; rfl)) ?_; (with_reducible refine (laws_debianAwake.calls  true _ ?side1 A42.out).mono ?_); (case side1 => first | exact HG.out | exact GW.below HG.out (by repeat (first | (with_reducible first | exact HB.out | exact Below.refl _ _ | apply below_alloc | apply pw_below_drewN | apply below_drew1 | apply below_drew | refine below_set ?_ (Aside0.out (by assumption))) | exact HB.out))); rintro e w52 ⟨rfl, hb⟩; refine ⟨_, rfl, ?_⟩; have n0_ := Aside0.mk (below_step (by repeat (first | (with_reducible first | exact HB.out | apply below_alloc | apply pw_below_drewN | apply below_drew1) | exact HB.out)) hb); clear HB; have HB := n0_; clear n0_; (try clear hb); (try clear hb2); (try clear hk); (try clear hi)))
                              go_ret
                              exact ⟨by first | rfl | (simp [errW_none, errW_some] <;> rfl) | (simp [*, errW_none, errW_some] <;> rfl), by repeat (first | (with_reducible first | exact HB.out | apply below_alloc | apply pw_below_drewN | apply below_drew1) | exact HB.out)⟩
                            · replace c51 := Bool.eq_false_iff.mpr c51
                              subst c51
                              have H1 : (some (t156 == 0)) = some r := by rw [if_neg (show ¬ (false = true) by decide)] at H; exact H
                              clear H
                              have H := H1
                              clear H1
                              obtain rfl := Option.some.inj H
                              go_wp2_with (first | ((with_reducible refine gate_callee (f := 15) rfl ?_); refine goesL_ (some 87) rfl rfl Tryd.func15 (by kernel_rfl) rfl #[] rfl (by (try simp only [List.map_toArray, List.map_cons, List.map_nil]); first | done | rfl | (simp only [List.length_drop, List.length_take]; rfl)) ?_; (with_reducible refine (laws_debianAwake.calls  true _ ?side1 A42.out).mono ?_); (case side1 => first | exact HG.out | exact GW.below HG.out (by repeat (first | (with_reducible first | exact HB.out | exact Below.refl _ _ | apply below_alloc | apply pw_below_drewN | apply below_drew1 | apply below_drew | refine below_set ?_ (Aside0.out (by assumption))) | exact HB.out))); rintro e w53 ⟨rfl, hb⟩; refine ⟨_, rfl, ?_⟩; have n0_ := Aside0.mk (below_step (by repeat (first | (with_reducible first | exact HB.out | apply below_alloc | apply pw_below_drewN | apply below_drew1) | exact HB.out)) hb); clear HB; have HB := n0_; clear n0_; (try clear hb); (try clear hb2); (try clear hk); (try clear hi)))
                              go_ret
                              exact ⟨by first | rfl | (simp [errW_none, errW_some] <;> rfl) | (simp [*, errW_none, errW_some] <;> rfl), by repeat (first | (with_reducible first | exact HB.out | apply below_alloc | apply pw_below_drewN | apply below_drew1) | exact HB.out)⟩
                      · replace c44 := Bool.eq_false_iff.mpr c44
                        subst c44
                        have H1 : (if t152 = 0 then (some true) else (if t155 = true then (if t157 = true then (some false) else (some (t156 == 0))) else (if t154 = 0 then (some true) else (if t157 = true then (some false) else (some (t156 == 0)))))) = some r := by rw [if_neg (show ¬ (false = true) by decide)] at H; exact H
                        clear H
                        have H := H1
                        clear H1
                        by_cases c54 : t152 = 0
                        · rw [if_pos c54] at H
                          have c54b0 : (t152 == 0) = true := beq_iff_eq.mpr c54
                          have c54b1 : (t152 != 0) = false := bne_eq_false_iff_eq.mpr c54
                          clear c54
                          obtain rfl := Option.some.inj H
                          go_wp2_with (first | ((with_reducible refine gate_callee (f := 15) rfl ?_); refine goesL_ (some 87) rfl rfl Tryd.func15 (by kernel_rfl) rfl #[] rfl (by (try simp only [List.map_toArray, List.map_cons, List.map_nil]); first | done | rfl | (simp only [List.length_drop, List.length_take]; rfl)) ?_; (with_reducible refine (laws_debianAwake.calls  true _ ?side1 A42.out).mono ?_); (case side1 => first | exact HG.out | exact GW.below HG.out (by repeat (first | (with_reducible first | exact HB.out | exact Below.refl _ _ | apply below_alloc | apply pw_below_drewN | apply below_drew1 | apply below_drew | refine below_set ?_ (Aside0.out (by assumption))) | exact HB.out))); rintro e w55 ⟨rfl, hb⟩; refine ⟨_, rfl, ?_⟩; have n0_ := Aside0.mk (below_step (by repeat (first | (with_reducible first | exact HB.out | apply below_alloc | apply pw_below_drewN | apply below_drew1) | exact HB.out)) hb); clear HB; have HB := n0_; clear n0_; (try clear hb); (try clear hb2); (try clear hk); (try clear hi)))
                          go_ret
                          exact ⟨by first | rfl | (simp [errW_none, errW_some] <;> rfl) | (simp [*, errW_none, errW_some] <;> rfl), by repeat (first | (with_reducible first | exact HB.out | apply below_alloc | apply pw_below_drewN | apply below_drew1) | exact HB.out)⟩
                        · rw [if_neg c54] at H
                          have c54b0 : (t152 == 0) = false := beq_eq_false_iff_ne.mpr c54
                          have c54b1 : (t152 != 0) = true := bne_iff_ne.mpr c54
                          by_cases c56 : t155 = true
                          · subst c56
                            have H1 : (if t157 = true then (some false) else (some (t156 == 0))) = some r := by rw [if_pos rfl] at H; exact H
                            clear H
                            have H := H1
                            clear H1
                            by_cases c57 : t157 = true
                            · subst c57
                              have H1 : (some false) = some r := by rw [if_pos rfl] at H; exact H
                              clear H
                              have H := H1
                              clear H1
                              obtain rfl := Option.some.inj H
                              go_wp2_with (first | ((with_reducible refine gate_callee (f := 15) rfl ?_); refine goesL_ (some 87) rfl rfl Tryd.func15 (by kernel_rfl) rfl #[] rfl (by (try simp only [List.map_toArray, List.map_cons, List.map_nil]); first | done | rfl | (simp only [List.length_drop, List.length_take]; rfl)) ?_; (with_reducible refine (laws_debianAwake.calls  true _ ?side1 A42.out).mono ?_); (case side1 => first | exact HG.out | exact GW.below HG.out (by repeat (first | (with_reducible first | exact HB.out | exact Below.refl _ _ | apply below_alloc | apply pw_below_drewN | apply below_drew1 | apply below_drew | refine below_set ?_ (Aside0.out (by assumption))) | exact HB.out))); rintro e w58 ⟨rfl, hb⟩; refine ⟨_, rfl, ?_⟩; have n0_ := Aside0.mk (below_step (by repeat (first | (with_reducible first | exact HB.out | apply below_alloc | apply pw_below_drewN | apply below_drew1) | exact HB.out)) hb); clear HB; have HB := n0_; clear n0_; (try clear hb); (try clear hb2); (try clear hk); (try clear hi)))
                              go_ret
                              exact ⟨by first | rfl | (simp [errW_none, errW_some] <;> rfl) | (simp [*, errW_none, errW_some] <;> rfl), by repeat (first | (with_reducible first | exact HB.out | apply below_alloc | apply pw_below_drewN | apply below_drew1) | exact HB.out)⟩
                            · replace c57 := Bool.eq_false_iff.mpr c57
                              subst c57
                              have H1 : (some (t156 == 0)) = some r := by rw [if_neg (show ¬ (false = true) by decide)] at H; exact H
                              clear H
                              have H := H1
                              clear H1
                              obtain rfl := Option.some.inj H
                              go_wp2_with (first | ((with_reducible refine gate_callee (f := 15) rfl ?_); refine goesL_ (some 87) rfl rfl Tryd.func15 (by kernel_rfl) rfl #[] rfl (by (try simp only [List.map_toArray, List.map_cons, List.map_nil]); first | done | rfl | (simp only [List.length_drop, List.length_take]; rfl)) ?_; (with_reducible refine (laws_debianAwake.calls  true _ ?side1 A42.out).mono ?_); (case side1 => first | exact HG.out | exact GW.below HG.out (by repeat (first | (with_reducible first | exact HB.out | exact Below.refl _ _ | apply below_alloc | apply pw_below_drewN | apply below_drew1 | apply below_drew | refine below_set ?_ (Aside0.out (by assumption))) | exact HB.out))); rintro e w59 ⟨rfl, hb⟩; refine ⟨_, rfl, ?_⟩; have n0_ := Aside0.mk (below_step (by repeat (first | (with_reducible first | exact HB.out | apply below_alloc | apply pw_below_drewN | apply below_drew1) | exact HB.out)) hb); clear HB; have HB := n0_; clear n0_; (try clear hb); (try clear hb2); (try clear hk); (try clear hi)))
                              go_ret
                              exact ⟨by first | rfl | (simp [errW_none, errW_some] <;> rfl) | (simp [*, errW_none, errW_some] <;> rfl), by repeat (first | (with_reducible first | exact HB.out | apply below_alloc | apply pw_below_drewN | apply below_drew1) | exact HB.out)⟩
                          · replace c56 := Bool.eq_false_iff.mpr c56
                            subst c56
                            have H1 : (if t154 = 0 then (some true) else (if t157 = true then (some false) else (some (t156 == 0)))) = some r := by rw [if_neg (show ¬ (false = true) by decide)] at H; exact H
                            clear H
                            have H := H1
                            clear H1
                            by_cases c60 : t154 = 0
                            · rw [if_pos c60] at H
                              have c60b0 : (t154 == 0) = true := beq_iff_eq.mpr c60
                              have c60b1 : (t154 != 0) = false := bne_eq_false_iff_eq.mpr c60
                              clear c60
                              obtain rfl := Option.some.inj H
                              go_wp2_with (first | ((with_reducible refine gate_callee (f := 15) rfl ?_); refine goesL_ (some 87) rfl rfl Tryd.func15 (by kernel_rfl) rfl #[] rfl (by (try simp only [List.map_toArray, List.map_cons, List.map_nil]); first | done | rfl | (simp only [List.length_drop, List.length_take]; rfl)) ?_; (with_reducible refine (laws_debianAwake.calls  true _ ?side1 A42.out).mono ?_); (case side1 => first | exact HG.out | exact GW.below HG.out (by repeat (first | (with_reducible first | exact HB.out | exact Below.refl _ _ | apply below_alloc | apply pw_below_drewN | apply below_drew1 | apply below_drew | refine below_set ?_ (Aside0.out (by assumption))) | exact HB.out))); rintro e w61 ⟨rfl, hb⟩; refine ⟨_, rfl, ?_⟩; have n0_ := Aside0.mk (below_step (by repeat (first | (with_reducible first | exact HB.out | apply below_alloc | apply pw_below_drewN | apply below_drew1) | exact HB.out)) hb); clear HB; have HB := n0_; clear n0_; (try clear hb); (try clear hb2); (try clear hk); (try clear hi)))
                              go_ret
                              exact ⟨by first | rfl | (simp [errW_none, errW_some] <;> rfl) | (simp [*, errW_none, errW_some] <;> rfl), by repeat (first | (with_reducible first | exact HB.out | apply below_alloc | apply pw_below_drewN | apply below_drew1) | exact HB.out)⟩
                            · rw [if_neg c60] at H
                              have c60b0 : (t154 == 0) = false := beq_eq_false_iff_ne.mpr c60
                              have c60b1 : (t154 != 0) = true := bne_iff_ne.mpr c60
                              by_cases c62 : t157 = true
                              · subst c62
                                have H1 : (some false) = some r := by rw [if_pos rfl] at H; exact H
                                clear H
                                have H := H1
                                clear H1
                                obtain rfl := Option.some.inj H
                                go_wp2_with (first | ((with_reducible refine gate_callee (f := 15) rfl ?_); refine goesL_ (some 87) rfl rfl Tryd.func15 (by kernel_rfl) rfl #[] rfl (by (try simp only [List.map_toArray, List.map_cons, List.map_nil]); first | done | rfl | (simp only [List.length_drop, List.length_take]; rfl)) ?_; (with_reducible refine (laws_debianAwake.calls  true _ ?side1 A42.out).mono ?_); (case side1 => first | exact HG.out | exact GW.below HG.out (by repeat (first | (with_reducible first | exact HB.out | exact Below.refl _ _ | apply below_alloc | apply pw_below_drewN | apply below_drew1 | apply below_drew | refine below_set ?_ (Aside0.out (by assumption))) | exact HB.out))); rintro e w63 ⟨rfl, hb⟩; refine ⟨_, rfl, ?_⟩; have n0_ := Aside0.mk (below_step (by repeat (first | (with_reducible first | exact HB.out | apply below_alloc | apply pw_below_drewN | apply below_drew1) | exact HB.out)) hb); clear HB; have HB := n0_; clear n0_; (try clear hb); (try clear hb2); (try clear hk); (try clear hi)))
                                go_ret
                                exact ⟨by first | rfl | (simp [errW_none, errW_some] <;> rfl) | (simp [*, errW_none, errW_some] <;> rfl), by repeat (first | (with_reducible first | exact HB.out | apply below_alloc | apply pw_below_drewN | apply below_drew1) | exact HB.out)⟩
                              · replace c62 := Bool.eq_false_iff.mpr c62
                                subst c62
                                have H1 : (some (t156 == 0)) = some r := by rw [if_neg (show ¬ (false = true) by decide)] at H; exact H
                                clear H
                                have H := H1
                                clear H1
                                obtain rfl := Option.some.inj H
                                go_wp2_with (first | ((with_reducible refine gate_callee (f := 15) rfl ?_); refine goesL_ (some 87) rfl rfl Tryd.func15 (by kernel_rfl) rfl #[] rfl (by (try simp only [List.map_toArray, List.map_cons, List.map_nil]); first | done | rfl | (simp only [List.length_drop, List.length_take]; rfl)) ?_; (with_reducible refine (laws_debianAwake.calls  true _ ?side1 A42.out).mono ?_); (case side1 => first | exact HG.out | exact GW.below HG.out (by repeat (first | (with_reducible first | exact HB.out | exact Below.refl _ _ | apply below_alloc | apply pw_below_drewN | apply below_drew1 | apply below_drew | refine below_set ?_ (Aside0.out (by assumption))) | exact HB.out))); rintro e w64 ⟨rfl, hb⟩; refine ⟨_, rfl, ?_⟩; have n0_ := Aside0.mk (below_step (by repeat (first | (with_reducible first | exact HB.out | apply below_alloc | apply pw_below_drewN | apply below_drew1) | exact HB.out)) hb); clear HB; have HB := n0_; clear n0_; (try clear hb); (try clear hb2); (try clear hk); (try clear hi)))
                                go_ret
                                exact ⟨by first | rfl | (simp [errW_none, errW_some] <;> rfl) | (simp [*, errW_none, errW_some] <;> rfl), by repeat (first | (with_reducible first | exact HB.out | apply below_alloc | apply pw_below_drewN | apply below_drew1) | exact HB.out)⟩
                    · replace c43 := Bool.eq_false_iff.mpr c43
                      subst c43
                      have H1 : (some false) = some r := by rw [if_neg (show ¬ (false = true) by decide)] at H; exact H
                      clear H
                      have H := H1
                      clear H1
                      obtain rfl := Option.some.inj H
                      go_wp2_with (first | ((with_reducible refine gate_callee (f := 15) rfl ?_); refine goesL_ (some 87) rfl rfl Tryd.func15 (by kernel_rfl) rfl #[] rfl (by (try simp only [List.map_toArray, List.map_cons, List.map_nil]); first | done | rfl | (simp only [List.length_drop, List.length_take]; rfl)) ?_; (with_reducible refine (laws_debianAwake.calls  false _ ?side1 A42.out).mono ?_); (case side1 => first | exact HG.out | exact GW.below HG.out (by repeat (first | (with_reducible first | exact HB.out | exact Below.refl _ _ | apply below_alloc | apply pw_below_drewN | apply below_drew1 | apply below_drew | refine below_set ?_ (Aside0.out (by assumption))) | exact HB.out))); rintro e w65 ⟨rfl, hb⟩; refine ⟨_, rfl, ?_⟩; have n0_ := Aside0.mk (below_step (by repeat (first | (with_reducible first | exact HB.out | apply below_alloc | apply pw_below_drewN | apply below_drew1) | exact HB.out)) hb); clear HB; have HB := n0_; clear n0_; (try clear hb); (try clear hb2); (try clear hk); (try clear hi)))
                      go_ret
                      exact ⟨by first | rfl | (simp [errW_none, errW_some] <;> rfl) | (simp [*, errW_none, errW_some] <;> rfl), by repeat (first | (with_reducible first | exact HB.out | apply below_alloc | apply pw_below_drewN | apply below_drew1) | exact HB.out)⟩
                  · replace c41 := Bool.eq_false_iff.mpr c41
                    subst c41
                    have H1 : (if t158 = 0 then ((laws_chained.f kj32 t152 t154 t156).bind fun t161 => (some t161)) else (some false)) = some r := by rw [if_neg (show ¬ (false = true) by decide)] at H; exact H
                    clear H
                    have H := H1
                    clear H1
                    by_cases c66 : t158 = 0
                    · rw [if_pos c66] at H
                      have c66b0 : (t158 == 0) = true := beq_iff_eq.mpr c66
                      have c66b1 : (t158 != 0) = false := bne_eq_false_iff_eq.mpr c66
                      clear c66
                      replace H := Option.bind_eq_some_iff.mp H
                      obtain ⟨t161, A670, H⟩ := H
                      replace H : (some t161) = some r := H
                      have A67 := Aside0.mk A670
                      clear A670
                      obtain rfl := Option.some.inj H
                      go_wp2_with (first | (go_at_call 16; (with_reducible refine (laws_chained.calls kj32 t152 t154 t156 t161 _ A67.out).mono ?_); rintro e w' ⟨rfl, ⟨nd, rfl⟩⟩))
                      go_ret
                      exact ⟨by first | rfl | (simp [errW_none, errW_some] <;> rfl) | (simp [*, errW_none, errW_some] <;> rfl), by repeat (first | (with_reducible first | exact HB.out | apply below_alloc | apply pw_below_drewN | apply below_drew1) | exact HB.out)⟩
                    · rw [if_neg c66] at H
                      have c66b0 : (t158 == 0) = false := beq_eq_false_iff_ne.mpr c66
                      have c66b1 : (t158 != 0) = true := bne_iff_ne.mpr c66
                      obtain rfl := Option.some.inj H
                      go_wp2
                      go_ret
                      exact ⟨by first | rfl | (simp [errW_none, errW_some] <;> rfl) | (simp [*, errW_none, errW_some] <;> rfl), by repeat (first | (with_reducible first | exact HB.out | apply below_alloc | apply pw_below_drewN | apply below_drew1) | exact HB.out)⟩

/-- THE ONE PURE STATEMENT of laws_FnDebianOrder. -/
def laws_FnDebianOrder.Pure : Prop := ∀ (a0 : ByteArray) (a1 : ByteArray) (a2 : ByteArray), a0.size ≤ 140737488351232 → a1.size ≤ 140737488351232 → a2.size ≤ 140737488351232 → ∃ k, laws_FnDebianOrder.f k a0 a1 a2 = some true
theorem laws_FnDebianOrder.walk (P : laws_FnDebianOrder.Pure) (a0 : ByteArray) (a1 : ByteArray) (a2 : ByteArray) (w : World) (hm0 : a0.size ≤ 140737488351232) (hm1 : a1.size ≤ 140737488351232) (hm2 : a2.size ≤ 140737488351232) (hG : GW w) :
    Calls Tryd.prog 4 #[.string a0, .string a1, .string a2] w fun e w' => e = .returned (.bool true) ∧ Below w.heap.size w w' := by
  obtain ⟨k, h⟩ := P a0 a1 a2 hm0 hm1 hm2
  refine (laws_FnDebianOrder.calls k a0 a1 a2 true w hG h).mono ?_
  rintro e w' ⟨rfl, hd⟩
  exact ⟨rfl, hd⟩

end Go.Proofs.YtkcciinapkeaiaaDoor.Z
