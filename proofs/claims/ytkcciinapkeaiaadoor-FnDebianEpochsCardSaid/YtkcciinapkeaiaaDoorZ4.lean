-- Written by a program of this session (myprint.py).
import Derived.Test.YtkcciinapkeaiaaDoorZ0
import Derived.Test.YtkcciinapkeaiaaDoorZ3
import Derived.Test.YtkcciinapkeaiaaDoorGe
namespace Go.Proofs.YtkcciinapkeaiaaDoor.Z
open Go.Proofs.YtkcciinapkeaiaaDoor.Gw
open Go.RowKit Go.Proofs.YtkcciinapkeaiaaDoorW.PrintWords Go.Proofs.YtkcciinapkeaiaaDoorW.PrintLast Go.Proofs.YtkcciinapkeaiaaDoorW.PrintMore
attribute [local go_sem high] Go.Proofs.YtkcciinapkeaiaaDoor.Ge.gtr_str
attribute [local go_sem] max2_int min2_int max_two min_two max_three min_three max_four min_four   -- for this text's walks alone
set_option linter.unusedVariables false
set_option linter.unusedSimpArgs false

/-! ### semantic_splitDebianNonDigitPrefix: function 60 -/
def semantic_splitDebianNonDigitPrefix.j0 : Nat → ByteArray → Int → Bool → Option (ByteArray × ByteArray)
  | 0, _, _, _ => none
  | k + 1, x0, x4, x12 => if x12 = true then (some ((⟨#[]⟩ : ByteArray), x0)) else (if x4 = (-1) then (if 0 ≤ (x0.size : Int) then (if (x0.size : Int) ≤ (x0.size : Int) then (some (x0.extract 0 x0.size, x0.extract x0.size x0.size)) else (none)) else (none)) else (if 0 ≤ x4 then (if x4 ≤ (x0.size : Int) then (some (x0.extract 0 (x4 : Int).toNat, x0.extract (x4 : Int).toNat x0.size)) else (none)) else (none)))
def semantic_splitDebianNonDigitPrefix.f (k : Nat) (a0 : ByteArray) : Option (ByteArray × ByteArray) := (semantic_zzIndexAny.f a0 (⟨#[48, 49, 50, 51, 52, 53, 54, 55, 56, 57]⟩ : ByteArray)).bind fun t121 => (if t121 = 0 then (semantic_splitDebianNonDigitPrefix.j0 k a0 t121 true) else (semantic_splitDebianNonDigitPrefix.j0 k a0 t121 (a0.toList.isEmpty)))
theorem semantic_splitDebianNonDigitPrefix.mono_l : ∀ k, (∀ y0 y1 y2, LeO (semantic_splitDebianNonDigitPrefix.j0 k y0 y1 y2) (semantic_splitDebianNonDigitPrefix.j0 (k + 1) y0 y1 y2))
  | 0 => fun _ _ _ r h => by simp [semantic_splitDebianNonDigitPrefix.j0] at h
  | k + 1 => by
    have ih0 := semantic_splitDebianNonDigitPrefix.mono_l k
    · intro y0 y1 y2
      unfold semantic_splitDebianNonDigitPrefix.j0
      repeat' first
      | (with_reducible exact ih0 _ _ _)
      | (with_reducible exact LeO.refl _)
      | (with_reducible exact LeO.none _)
      | (with_reducible refine LeO.ite ?_ ?_)
      | (with_reducible refine LeO.bind ?_ (fun _ => ?_))
      | exact ih0 _ _ _
      | exact LeO.none _
      | refine LeO.ite ?_ ?_
      | refine LeO.bind ?_ (fun _ => ?_)
theorem semantic_splitDebianNonDigitPrefix.mono : ∀ a0 k, LeO (semantic_splitDebianNonDigitPrefix.f k a0) (semantic_splitDebianNonDigitPrefix.f (k + 1) a0) := by
  intro a0 k
  have ih0 := semantic_splitDebianNonDigitPrefix.mono_l k
  unfold semantic_splitDebianNonDigitPrefix.f
  repeat' first
      | (with_reducible exact ih0 _ _ _)
      | (with_reducible exact LeO.refl _)
      | (with_reducible exact LeO.none _)
      | (with_reducible refine LeO.ite ?_ ?_)
      | (with_reducible refine LeO.bind ?_ (fun _ => ?_))
      | exact ih0 _ _ _
      | exact LeO.none _
      | refine LeO.ite ?_ ?_
      | refine LeO.bind ?_ (fun _ => ?_)
set_option maxHeartbeats 8000000 in
set_option maxRecDepth 100000 in
theorem semantic_splitDebianNonDigitPrefix.calls (k : Nat) (a0 : ByteArray) (r1 : ByteArray) (r2 : ByteArray) (w : World) (h : semantic_splitDebianNonDigitPrefix.f k a0 = some (r1, r2)) :
    Calls Tryd.prog 60 #[.string a0] w fun e w' => e = .returned (.tuple #[.string r1, .string r2]) ∧ Below w.heap.size w w' := by
  have HB := Aside0.mk (Below.refl w.heap.size w)
  have H : ((semantic_zzIndexAny.f a0 (⟨#[48, 49, 50, 51, 52, 53, 54, 55, 56, 57]⟩ : ByteArray)).bind fun t121 => (if t121 = 0 then (semantic_splitDebianNonDigitPrefix.j0 k a0 t121 true) else (semantic_splitDebianNonDigitPrefix.j0 k a0 t121 (a0.toList.isEmpty)))) = some (r1, r2) := h
  clear h
  replace H := Option.bind_eq_some_iff.mp H
  obtain ⟨t121, A20, H⟩ := H
  replace H : (if t121 = 0 then (semantic_splitDebianNonDigitPrefix.j0 k a0 t121 true) else (semantic_splitDebianNonDigitPrefix.j0 k a0 t121 (a0.toList.isEmpty))) = some (r1, r2) := H
  have A2 := Aside0.mk A20
  clear A20
  have HC3 := Aside0.mk H
  clear H
  go_enter Tryd.func60, Tryd.ntmps60
  go_upto_region 2 with (first | (go_at_call 77; (with_reducible refine (semantic_zzIndexAny.calls a0 (⟨#[48, 49, 50, 51, 52, 53, 54, 55, 56, 57]⟩ : ByteArray) t121 _ A2.out).mono ?_); rintro e w4 ⟨rfl, hb⟩; have n0_ := Aside0.mk (below_step (by repeat (first | (with_reducible first | exact HB.out | apply below_alloc | apply pw_below_drewN | apply below_drew1) | exact HB.out)) hb); clear HB; have HB := n0_; clear n0_; (try clear hb); (try clear hb2); (try clear hk); (try clear hi)))
  repeat (go_quiet (first | (go_at_call 77; (with_reducible refine (semantic_zzIndexAny.calls a0 (⟨#[48, 49, 50, 51, 52, 53, 54, 55, 56, 57]⟩ : ByteArray) t121 _ A2.out).mono ?_); rintro e w4 ⟨rfl, hb⟩; have n0_ := Aside0.mk (below_step (by repeat (first | (with_reducible first | exact HB.out | apply below_alloc | apply pw_below_drewN | apply below_drew1) | exact HB.out)) hb); clear HB; have HB := n0_; clear n0_; (try clear hb); (try clear hb2); (try clear hk); (try clear hi))); go_upto_region 2 with (first | (go_at_call 77; (with_reducible refine (semantic_zzIndexAny.calls a0 (⟨#[48, 49, 50, 51, 52, 53, 54, 55, 56, 57]⟩ : ByteArray) t121 _ A2.out).mono ?_); rintro e w4 ⟨rfl, hb⟩; have n0_ := Aside0.mk (below_step (by repeat (first | (with_reducible first | exact HB.out | apply below_alloc | apply pw_below_drewN | apply below_drew1) | exact HB.out)) hb); clear HB; have HB := n0_; clear n0_; (try clear hb); (try clear hb2); (try clear hk); (try clear hi))))
  (try simp only [Act.put, List.setIfInBounds_toArray, List.set_cons_zero, List.set_cons_succ])
  go_cut [12] (fun v12 wc => ∃ (kq : Nat) (x12_2 : Bool), v12 = .bool x12_2 ∧ Aside0 (semantic_splitDebianNonDigitPrefix.j0 kq a0 t121 x12_2 = some (r1, r2)) ∧ Aside0 (kq ≤ k) ∧ Aside0 (Below w.heap.size w wc))
  case first =>
    have H := HC3.out
    clear HC3
    by_cases c5 : t121 = 0
    · rw [if_pos c5] at H
      have c5b0 : (t121 == 0) = true := beq_iff_eq.mpr c5
      have c5b1 : (t121 != 0) = false := bne_eq_false_iff_eq.mpr c5
      clear c5
      (first | rw [c5b0] | (simp only [i64_w, i32_w]; rw [c5b0]) | skip)
      have H' := Aside0.mk H
      clear H
      go_wp2
      repeat (go_quiet (fail); try go_wp2)
      go_meet
      case rel => exact ⟨_, (true), (by first | rfl | (simp; done) | (simp [*]; done)), H', ⟨by first | omega | exact Nat.le_refl _⟩, ⟨by repeat (first | (with_reducible first | exact HB.out | apply below_alloc | apply pw_below_drewN | apply below_drew1) | exact HB.out)⟩⟩
    · rw [if_neg c5] at H
      have c5b0 : (t121 == 0) = false := beq_eq_false_iff_ne.mpr c5
      have c5b1 : (t121 != 0) = true := bne_iff_ne.mpr c5
      (first | rw [c5b0] | (simp only [i64_w, i32_w]; rw [c5b0]) | skip)
      have H' := Aside0.mk H
      clear H
      go_wp2
      repeat (go_quiet (fail); try go_wp2)
      go_meet
      case rel => exact ⟨_, ((a0.toList.isEmpty)), (by first | rfl | (simp; done) | (simp [*]; done)), H', ⟨by first | omega | exact Nat.le_refl _⟩, ⟨by repeat (first | (with_reducible first | exact HB.out | apply below_alloc | apply pw_below_drewN | apply below_drew1) | exact HB.out)⟩⟩
  case rest =>
    clear HC3
    try clear p2
    try clear c5
    try clear c5b0
    try clear c5b1
    obtain ⟨kq, x12_2, rfl, HA, HJ2, HB⟩ := hcut
    cases kq with
    | zero => exact absurd HA.out (by simp [semantic_splitDebianNonDigitPrefix.j0])
    | succ kj2 =>
      have H := HA.out
      clear HA
      simp only [semantic_splitDebianNonDigitPrefix.j0] at H
      by_cases c6 : x12_2 = true
      · subst c6
        have H1 : (some ((⟨#[]⟩ : ByteArray), a0)) = some (r1, r2) := by rw [if_pos rfl] at H; exact H
        clear H
        have H := H1
        clear H1
        simp only [Option.some.injEq, Prod.mk.injEq] at H
        obtain ⟨rfl, rfl⟩ := H
        go_wp2
        repeat (go_quiet (fail); try go_wp2)
        go_ret2
        exact ⟨by first | rfl | (simp [errW_none, errW_some] <;> rfl) | (simp [*, errW_none, errW_some] <;> rfl), by repeat (first | (with_reducible first | exact HB.out | apply below_alloc | apply pw_below_drewN | apply below_drew1) | exact HB.out)⟩
      · replace c6 := Bool.eq_false_iff.mpr c6
        subst c6
        have H1 : (if t121 = (-1) then (if 0 ≤ (a0.size : Int) then (if (a0.size : Int) ≤ (a0.size : Int) then (some (a0.extract 0 a0.size, a0.extract a0.size a0.size)) else (none)) else (none)) else (if 0 ≤ t121 then (if t121 ≤ (a0.size : Int) then (some (a0.extract 0 (t121 : Int).toNat, a0.extract (t121 : Int).toNat a0.size)) else (none)) else (none))) = some (r1, r2) := by rw [if_neg (show ¬ (false = true) by decide)] at H; exact H
        clear H
        have H := H1
        clear H1
        by_cases c7 : t121 = (-1)
        · rw [if_pos c7] at H
          have c7b0 : (t121 == (-1)) = true := beq_iff_eq.mpr c7
          have c7b1 : (t121 != (-1)) = false := bne_eq_false_iff_eq.mpr c7
          clear c7
          by_cases c8 : 0 ≤ (a0.size : Int)
          · rw [if_pos c8] at H
            have c8b0 := eq_true c8
            have c8b1 : decide (0 ≤ (a0.size : Int)) = true := decide_eq_true c8
            clear c8
            by_cases c9 : (a0.size : Int) ≤ (a0.size : Int)
            · rw [if_pos c9] at H
              have c9b0 := eq_true c9
              have c9b1 : decide ((a0.size : Int) ≤ (a0.size : Int)) = true := decide_eq_true c9
              clear c9
              have c10b0 := eq_true (of_decide_eq_true (by first | (with_reducible assumption) | assumption) : 0 ≤ (a0.size : Int))
              have c11b0 := eq_true (of_decide_eq_true (by first | (with_reducible assumption) | assumption) : (a0.size : Int) ≤ (a0.size : Int))
              simp only [Option.some.injEq, Prod.mk.injEq] at H
              obtain ⟨rfl, rfl⟩ := H
              go_wp2
              repeat (go_quiet (fail); try go_wp2)
              go_ret2
              exact ⟨by first | rfl | (simp [errW_none, errW_some] <;> rfl) | (simp [*, errW_none, errW_some] <;> rfl), by repeat (first | (with_reducible first | exact HB.out | apply below_alloc | apply pw_below_drewN | apply below_drew1) | exact HB.out)⟩
            · rw [if_neg c9] at H
              exact absurd H (by simp)
          · rw [if_neg c8] at H
            exact absurd H (by simp)
        · rw [if_neg c7] at H
          have c7b0 : (t121 == (-1)) = false := beq_eq_false_iff_ne.mpr c7
          have c7b1 : (t121 != (-1)) = true := bne_iff_ne.mpr c7
          by_cases c12 : 0 ≤ t121
          · rw [if_pos c12] at H
            have c12b0 := eq_true c12
            have c12b1 : decide (0 ≤ t121) = true := decide_eq_true c12
            clear c12
            by_cases c13 : t121 ≤ (a0.size : Int)
            · rw [if_pos c13] at H
              have c13b0 := eq_true c13
              have c13b1 : decide (t121 ≤ (a0.size : Int)) = true := decide_eq_true c13
              clear c13
              have c14b0 := eq_true (of_decide_eq_true (by first | (with_reducible assumption) | assumption) : 0 ≤ t121)
              have c15b0 := eq_true (of_decide_eq_true (by first | (with_reducible assumption) | assumption) : t121 ≤ (a0.size : Int))
              simp only [Option.some.injEq, Prod.mk.injEq] at H
              obtain ⟨rfl, rfl⟩ := H
              go_wp2
              repeat (go_quiet (fail); try go_wp2)
              go_ret2
              exact ⟨by first | rfl | (simp [errW_none, errW_some] <;> rfl) | (simp [*, errW_none, errW_some] <;> rfl), by repeat (first | (with_reducible first | exact HB.out | apply below_alloc | apply pw_below_drewN | apply below_drew1) | exact HB.out)⟩
            · rw [if_neg c13] at H
              exact absurd H (by simp)
          · rw [if_neg c12] at H
            exact absurd H (by simp)

/-! ### semantic_weighDebianChar: function 62 -/
def semantic_weighDebianChar.f (a0 : ByteArray) : Option (Int) := if a0.toList = ([126] : List UInt8) then (some 1) else (if a0.toList = ([] : List UInt8) then (some 2) else (if 0 < (a0.size : Int) then (if (wrap64 (bt a0 0)) < 65 then (some (wrap64 ((wrap64 (bt a0 0)) + 122))) else (if (wrap64 (bt a0 0)) > 90 then (if (wrap64 (bt a0 0)) < 97 then (some (wrap64 ((wrap64 (bt a0 0)) + 122))) else (if (wrap64 (bt a0 0)) > 122 then (some (wrap64 ((wrap64 (bt a0 0)) + 122))) else (some (wrap64 (bt a0 0))))) else (if (wrap64 (bt a0 0)) > 122 then (some (wrap64 ((wrap64 (bt a0 0)) + 122))) else (some (wrap64 (bt a0 0)))))) else (none)))
set_option maxHeartbeats 8000000 in
set_option maxRecDepth 100000 in
theorem semantic_weighDebianChar.calls (a0 : ByteArray) (r : Int) (w : World) (h : semantic_weighDebianChar.f a0 = some r) :
    Calls Tryd.prog 62 #[.string a0] w fun e w' => e = .returned (.int .i64 r) ∧ Drawn0 w w' := by
  have H : (if a0.toList = ([126] : List UInt8) then (some 1) else (if a0.toList = ([] : List UInt8) then (some 2) else (if 0 < (a0.size : Int) then (if (wrap64 (bt a0 0)) < 65 then (some (wrap64 ((wrap64 (bt a0 0)) + 122))) else (if (wrap64 (bt a0 0)) > 90 then (if (wrap64 (bt a0 0)) < 97 then (some (wrap64 ((wrap64 (bt a0 0)) + 122))) else (if (wrap64 (bt a0 0)) > 122 then (some (wrap64 ((wrap64 (bt a0 0)) + 122))) else (some (wrap64 (bt a0 0))))) else (if (wrap64 (bt a0 0)) > 122 then (some (wrap64 ((wrap64 (bt a0 0)) + 122))) else (some (wrap64 (bt a0 0)))))) else (none)))) = some r := h
  clear h
  by_cases c2 : a0.toList = ([126] : List UInt8)
  · rw [if_pos c2] at H
    have c2b0 : (a0.toList == ([126] : List UInt8)) = true := beq_iff_eq.mpr c2
    have c2b1 : (a0.toList != ([126] : List UInt8)) = false := bne_eq_false_iff_eq.mpr c2
    clear c2
    obtain rfl := Option.some.inj H
    go_enter Tryd.func62, Tryd.ntmps62
    go_wp2
    go_ret
    exact ⟨by first | rfl | (simp; done) | (simp [*]; done), by repeat (first | exact Drawn0.refl _ | apply Drawn0.step)⟩
  · rw [if_neg c2] at H
    have c2b0 : (a0.toList == ([126] : List UInt8)) = false := beq_eq_false_iff_ne.mpr c2
    have c2b1 : (a0.toList != ([126] : List UInt8)) = true := bne_iff_ne.mpr c2
    by_cases c3 : a0.toList = ([] : List UInt8)
    · rw [if_pos c3] at H
      have c3b0 : (a0.toList.isEmpty) = true := by simpa using c3
      have c3b1 : (!a0.toList.isEmpty) = false := by simpa using c3
      clear c3
      obtain rfl := Option.some.inj H
      go_enter Tryd.func62, Tryd.ntmps62
      go_wp2
      go_ret
      exact ⟨by first | rfl | (simp; done) | (simp [*]; done), by repeat (first | exact Drawn0.refl _ | apply Drawn0.step)⟩
    · rw [if_neg c3] at H
      have c3b0 : (a0.toList.isEmpty) = false := by simpa using c3
      have c3b1 : (!a0.toList.isEmpty) = true := by simpa using c3
      by_cases c4 : 0 < (a0.size : Int)
      · rw [if_pos c4] at H
        have c4b0 : decide (0 < (a0.size : Int)) = true := decide_eq_true c4
        have c4b1 : decide (0 < a0.size) = true := decide_eq_true (by omega)
        clear c4
        by_cases c6 : (wrap64 (bt a0 0)) < 65
        · rw [if_pos c6] at H
          have c6b0 : decide ((wrap64 (bt a0 0)) < 65) = true := decide_eq_true c6
          clear c6
          obtain rfl := Option.some.inj H
          have p5 : 0 ≤ (0 : Int) := (by omega)
          have q5 : 0 < a0.size := (by have : (0 : Int) < (a0.size : Int) := of_decide_eq_true (by first | (with_reducible assumption) | assumption); omega)
          have hx5 : ∀ h : 0 < a0.size, ((a0[0]'h).toNat : Int) = bt a0 0 := bt_at a0 0
          clear p5
          have qi5 : (0 < (a0.size : Int)) = True := eq_true (of_decide_eq_true (by first | (with_reducible assumption) | assumption))
          replace q5 := eq_true q5
          go_enter Tryd.func62, Tryd.ntmps62
          go_wp2
          go_ret
          exact ⟨by first | rfl | (simp; done) | (simp [*]; done), by repeat (first | exact Drawn0.refl _ | apply Drawn0.step)⟩
        · rw [if_neg c6] at H
          have c6b0 : decide ((wrap64 (bt a0 0)) < 65) = false := decide_eq_false c6
          clear c6
          by_cases c7 : (wrap64 (bt a0 0)) > 90
          · rw [if_pos c7] at H
            have c7b0 : decide (90 < (wrap64 (bt a0 0))) = true := decide_eq_true c7
            clear c7
            by_cases c8 : (wrap64 (bt a0 0)) < 97
            · rw [if_pos c8] at H
              have c8b0 : decide ((wrap64 (bt a0 0)) < 97) = true := decide_eq_true c8
              clear c8
              obtain rfl := Option.some.inj H
              have p5 : 0 ≤ (0 : Int) := (by omega)
              have q5 : 0 < a0.size := (by have : (0 : Int) < (a0.size : Int) := of_decide_eq_true (by first | (with_reducible assumption) | assumption); omega)
              have hx5 : ∀ h : 0 < a0.size, ((a0[0]'h).toNat : Int) = bt a0 0 := bt_at a0 0
              clear p5
              have qi5 : (0 < (a0.size : Int)) = True := eq_true (of_decide_eq_true (by first | (with_reducible assumption) | assumption))
              replace q5 := eq_true q5
              go_enter Tryd.func62, Tryd.ntmps62
              go_wp2
              go_ret
              exact ⟨by first | rfl | (simp; done) | (simp [*]; done), by repeat (first | exact Drawn0.refl _ | apply Drawn0.step)⟩
            · rw [if_neg c8] at H
              have c8b0 : decide ((wrap64 (bt a0 0)) < 97) = false := decide_eq_false c8
              clear c8
              by_cases c9 : (wrap64 (bt a0 0)) > 122
              · rw [if_pos c9] at H
                have c9b0 : decide (122 < (wrap64 (bt a0 0))) = true := decide_eq_true c9
                clear c9
                obtain rfl := Option.some.inj H
                have p5 : 0 ≤ (0 : Int) := (by omega)
                have q5 : 0 < a0.size := (by have : (0 : Int) < (a0.size : Int) := of_decide_eq_true (by first | (with_reducible assumption) | assumption); omega)
                have hx5 : ∀ h : 0 < a0.size, ((a0[0]'h).toNat : Int) = bt a0 0 := bt_at a0 0
                clear p5
                have qi5 : (0 < (a0.size : Int)) = True := eq_true (of_decide_eq_true (by first | (with_reducible assumption) | assumption))
                replace q5 := eq_true q5
                go_enter Tryd.func62, Tryd.ntmps62
                go_wp2
                go_ret
                exact ⟨by first | rfl | (simp; done) | (simp [*]; done), by repeat (first | exact Drawn0.refl _ | apply Drawn0.step)⟩
              · rw [if_neg c9] at H
                have c9b0 : decide (122 < (wrap64 (bt a0 0))) = false := decide_eq_false c9
                clear c9
                obtain rfl := Option.some.inj H
                have p5 : 0 ≤ (0 : Int) := (by omega)
                have q5 : 0 < a0.size := (by have : (0 : Int) < (a0.size : Int) := of_decide_eq_true (by first | (with_reducible assumption) | assumption); omega)
                have hx5 : ∀ h : 0 < a0.size, ((a0[0]'h).toNat : Int) = bt a0 0 := bt_at a0 0
                clear p5
                have qi5 : (0 < (a0.size : Int)) = True := eq_true (of_decide_eq_true (by first | (with_reducible assumption) | assumption))
                replace q5 := eq_true q5
                go_enter Tryd.func62, Tryd.ntmps62
                go_wp2
                go_ret
                exact ⟨by first | rfl | (simp; done) | (simp [*]; done), by repeat (first | exact Drawn0.refl _ | apply Drawn0.step)⟩
          · rw [if_neg c7] at H
            have c7b0 : decide (90 < (wrap64 (bt a0 0))) = false := decide_eq_false c7
            clear c7
            by_cases c10 : (wrap64 (bt a0 0)) > 122
            · rw [if_pos c10] at H
              have c10b0 : decide (122 < (wrap64 (bt a0 0))) = true := decide_eq_true c10
              clear c10
              obtain rfl := Option.some.inj H
              have p5 : 0 ≤ (0 : Int) := (by omega)
              have q5 : 0 < a0.size := (by have : (0 : Int) < (a0.size : Int) := of_decide_eq_true (by first | (with_reducible assumption) | assumption); omega)
              have hx5 : ∀ h : 0 < a0.size, ((a0[0]'h).toNat : Int) = bt a0 0 := bt_at a0 0
              clear p5
              have qi5 : (0 < (a0.size : Int)) = True := eq_true (of_decide_eq_true (by first | (with_reducible assumption) | assumption))
              replace q5 := eq_true q5
              go_enter Tryd.func62, Tryd.ntmps62
              go_wp2
              go_ret
              exact ⟨by first | rfl | (simp; done) | (simp [*]; done), by repeat (first | exact Drawn0.refl _ | apply Drawn0.step)⟩
            · rw [if_neg c10] at H
              have c10b0 : decide (122 < (wrap64 (bt a0 0))) = false := decide_eq_false c10
              clear c10
              obtain rfl := Option.some.inj H
              have p5 : 0 ≤ (0 : Int) := (by omega)
              have q5 : 0 < a0.size := (by have : (0 : Int) < (a0.size : Int) := of_decide_eq_true (by first | (with_reducible assumption) | assumption); omega)
              have hx5 : ∀ h : 0 < a0.size, ((a0[0]'h).toNat : Int) = bt a0 0 := bt_at a0 0
              clear p5
              have qi5 : (0 < (a0.size : Int)) = True := eq_true (of_decide_eq_true (by first | (with_reducible assumption) | assumption))
              replace q5 := eq_true q5
              go_enter Tryd.func62, Tryd.ntmps62
              go_wp2
              go_ret
              exact ⟨by first | rfl | (simp; done) | (simp [*]; done), by repeat (first | exact Drawn0.refl _ | apply Drawn0.step)⟩
      · rw [if_neg c4] at H
        exact absurd H (by simp)

/-! ### semantic_fetch: function 63 -/
def semantic_fetch.f (l0 : List ByteArray) (a1 : Int) (a2 : ByteArray) : Option (ByteArray) := if (l0.length : Int) ≤ a1 then (some a2) else (if 0 ≤ a1 then (if a1 < (l0.length : Int) then (some (rdOf ByteArray.empty l0 a1)) else (none)) else (none))
set_option maxHeartbeats 8000000 in
set_option maxRecDepth 100000 in
theorem semantic_fetch.calls (A0 : Option Addr) (c0 : Nat) (l0 : List ByteArray) (a1 : Int) (a2 : ByteArray) (r : ByteArray) (w : World) (hr0 : Kd.C Kd.string w A0 l0.length l0) (hc0 : l0.length ≤ c0) (h : semantic_fetch.f l0 a1 a2 = some r) :
    Calls Tryd.prog 63 #[.slice A0 l0.length c0, .int .i64 a1, .string a2] w fun e w' => e = .returned (.string r) ∧ Drawn0 w w' := by
  have HR0 := Aside0.mk hr0
  have HC0 := Aside0.mk hc0
  clear hr0 hc0
  have H : (if (l0.length : Int) ≤ a1 then (some a2) else (if 0 ≤ a1 then (if a1 < (l0.length : Int) then (some (rdOf ByteArray.empty l0 a1)) else (none)) else (none))) = some r := h
  clear h
  by_cases c4 : (l0.length : Int) ≤ a1
  · rw [if_pos c4] at H
    have c4b0 : decide ((l0.length : Int) ≤ a1) = true := decide_eq_true c4
    clear c4
    obtain rfl := Option.some.inj H
    go_enter Tryd.func63, Tryd.ntmps63
    go_wp2
    go_ret
    exact ⟨by first | rfl | (simp; done) | (simp [*]; done), by repeat (first | exact Drawn0.refl _ | apply Drawn0.step)⟩
  · rw [if_neg c4] at H
    have c4b0 : decide ((l0.length : Int) ≤ a1) = false := decide_eq_false c4
    clear c4
    by_cases c5 : 0 ≤ a1
    · rw [if_pos c5] at H
      have c5b0 : decide (0 ≤ a1) = true := decide_eq_true c5
      clear c5
      by_cases c6 : a1 < (l0.length : Int)
      · rw [if_pos c6] at H
        have c6b0 : decide (a1 < (l0.length : Int)) = true := decide_eq_true c6
        clear c6
        obtain rfl := Option.some.inj H
        have p122 : 0 ≤ (a1 : Int) := of_decide_eq_true (by first | (with_reducible assumption) | assumption)
        have q122 : a1 < (l0.length : Int) := of_decide_eq_true (by first | (with_reducible assumption) | assumption)
        obtain ⟨ad122, e122, hx122_0⟩ := Kd.at_string HR0.out a1 p122 q122
        cases e122
        replace p122 := eq_true p122
        replace q122 := eq_true q122
        go_enter Tryd.func63, Tryd.ntmps63
        go_wp2
        go_ret
        exact ⟨by first | rfl | (simp; done) | (simp [*]; done), by repeat (first | exact Drawn0.refl _ | apply Drawn0.step)⟩
      · rw [if_neg c6] at H
        exact absurd H (by simp)
    · rw [if_neg c5] at H
      exact absurd H (by simp)

end Go.Proofs.YtkcciinapkeaiaaDoor.Z
