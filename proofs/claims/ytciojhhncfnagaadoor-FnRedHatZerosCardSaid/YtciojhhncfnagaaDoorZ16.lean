-- Written by a program of this session (myprint.py).
import Derived.Test.YtciojhhncfnagaaDoorZ0
import Derived.Test.YtciojhhncfnagaaDoorZ1
import Derived.Test.YtciojhhncfnagaaDoorZ4
import Derived.Test.YtciojhhncfnagaaDoorZ6
import Derived.Test.YtciojhhncfnagaaDoorZ15
import Derived.Test.YtciojhhncfnagaaDoorGe
namespace Go.Proofs.YtciojhhncfnagaaDoor.Z
open Go.RowKit Go.Proofs.YtciojhhncfnagaaDoorW.PrintWords Go.Proofs.YtciojhhncfnagaaDoorW.PrintLast Go.Proofs.YtciojhhncfnagaaDoorW.PrintMore
attribute [local go_sem high] Go.Proofs.YtciojhhncfnagaaDoor.Ge.gtr_str
attribute [local go_sem] max2_int min2_int max_two min_two max_three min_three max_four min_four   -- for this text's walks alone
set_option linter.unusedVariables false
set_option linter.unusedSimpArgs false

/-! ### spec_rpmRuns: function 42 -/
mutual
def spec_rpmRuns.j1 : Nat → ByteArray → ByteArray → Bool → Option (Int × ByteArray × ByteArray)
  | 0, _, _, _ => none
  | k + 1, x0, x1, x7 => (spec_rpmRun.f k x0 x7).bind fun t244 => ((spec_rpmRun.f k x1 x7).bind fun t245 => (if 0 ≤ t244 then (if t244 ≤ (x0.size : Int) then (if 0 ≤ t245 then (if t245 ≤ (x1.size : Int) then ((spec_order.f (x0.extract 0 (t244 : Int).toNat) (x1.extract 0 (t245 : Int).toNat)).bind fun t246 => (if x7 = true then ((spec_orderNumbers.f k (x0.extract 0 (t244 : Int).toNat) (x1.extract 0 (t245 : Int).toNat)).bind fun t247 => (some (t247, x0.extract (t244 : Int).toNat x0.size, x1.extract (t245 : Int).toNat x1.size))) else (some (t246, x0.extract (t244 : Int).toNat x0.size, x1.extract (t245 : Int).toNat x1.size)))) else (none)) else (none)) else (none)) else (none)))
def spec_rpmRuns.j0 : Nat → ByteArray → ByteArray → Bool → Bool → Option (Int × ByteArray × ByteArray)
  | 0, _, _, _, _ => none
  | k + 1, x0, x1, x7, x13 => if x13 = true then (some (1, (⟨#[]⟩ : ByteArray), (⟨#[]⟩ : ByteArray))) else (if x7 = true then (spec_rpmRuns.j1 k x0 x1 x7) else (if 0 < (x1.size : Int) then ((spec_isDigit.f (bt x1 0)).bind fun t243 => (if t243 = true then (some ((-1), (⟨#[]⟩ : ByteArray), (⟨#[]⟩ : ByteArray))) else (spec_rpmRuns.j1 k x0 x1 x7))) else (none)))
end
def spec_rpmRuns.f (k : Nat) (a0 : ByteArray) (a1 : ByteArray) : Option (Int × ByteArray × ByteArray) := if 0 < (a0.size : Int) then ((spec_isDigit.f (bt a0 0)).bind fun t241 => (if t241 = true then (if 0 < (a1.size : Int) then ((spec_isDigit.f (bt a1 0)).bind fun t242 => (spec_rpmRuns.j0 k a0 a1 t241 (!t242))) else (none)) else (spec_rpmRuns.j0 k a0 a1 t241 false))) else (none)
theorem spec_rpmRuns.mono_l : ∀ k, (∀ y0 y1 y2, LeO (spec_rpmRuns.j1 k y0 y1 y2) (spec_rpmRuns.j1 (k + 1) y0 y1 y2)) ∧ (∀ y0 y1 y2 y3, LeO (spec_rpmRuns.j0 k y0 y1 y2 y3) (spec_rpmRuns.j0 (k + 1) y0 y1 y2 y3))
  | 0 => ⟨fun _ _ _ r h => by simp [spec_rpmRuns.j1] at h, fun _ _ _ _ r h => by simp [spec_rpmRuns.j0] at h⟩
  | k + 1 => by
    obtain ⟨ih0, ih1⟩ := spec_rpmRuns.mono_l k
    refine ⟨?_, ?_⟩
    · intro y0 y1 y2
      unfold spec_rpmRuns.j1
      repeat' first
      | (with_reducible exact ih0 _ _ _)
      | (with_reducible exact ih1 _ _ _ _)
      | (with_reducible exact spec_orderNumbers.mono _ _ _)
      | (with_reducible exact spec_rpmRun.mono _ _ _)
      | (with_reducible exact LeO.refl _)
      | (with_reducible exact LeO.none _)
      | (with_reducible refine LeO.ite ?_ ?_)
      | (with_reducible refine LeO.bind ?_ (fun _ => ?_))
      | exact ih0 _ _ _
      | exact ih1 _ _ _ _
      | exact spec_orderNumbers.mono _ _ _
      | exact spec_rpmRun.mono _ _ _
      | exact LeO.none _
      | refine LeO.ite ?_ ?_
      | refine LeO.bind ?_ (fun _ => ?_)
    · intro y0 y1 y2 y3
      unfold spec_rpmRuns.j0
      repeat' first
      | (with_reducible exact ih0 _ _ _)
      | (with_reducible exact ih1 _ _ _ _)
      | (with_reducible exact spec_orderNumbers.mono _ _ _)
      | (with_reducible exact spec_rpmRun.mono _ _ _)
      | (with_reducible exact LeO.refl _)
      | (with_reducible exact LeO.none _)
      | (with_reducible refine LeO.ite ?_ ?_)
      | (with_reducible refine LeO.bind ?_ (fun _ => ?_))
      | exact ih0 _ _ _
      | exact ih1 _ _ _ _
      | exact spec_orderNumbers.mono _ _ _
      | exact spec_rpmRun.mono _ _ _
      | exact LeO.none _
      | refine LeO.ite ?_ ?_
      | refine LeO.bind ?_ (fun _ => ?_)
theorem spec_rpmRuns.mono : ∀ a0 a1 k, LeO (spec_rpmRuns.f k a0 a1) (spec_rpmRuns.f (k + 1) a0 a1) := by
  intro a0 a1 k
  obtain ⟨ih0, ih1⟩ := spec_rpmRuns.mono_l k
  unfold spec_rpmRuns.f
  repeat' first
      | (with_reducible exact ih0 _ _ _)
      | (with_reducible exact ih1 _ _ _ _)
      | (with_reducible exact spec_orderNumbers.mono _ _ _)
      | (with_reducible exact spec_rpmRun.mono _ _ _)
      | (with_reducible exact LeO.refl _)
      | (with_reducible exact LeO.none _)
      | (with_reducible refine LeO.ite ?_ ?_)
      | (with_reducible refine LeO.bind ?_ (fun _ => ?_))
      | exact ih0 _ _ _
      | exact ih1 _ _ _ _
      | exact spec_orderNumbers.mono _ _ _
      | exact spec_rpmRun.mono _ _ _
      | exact LeO.none _
      | refine LeO.ite ?_ ?_
      | refine LeO.bind ?_ (fun _ => ?_)
set_option maxHeartbeats 8000000 in
set_option maxRecDepth 100000 in
theorem spec_rpmRuns.calls (k : Nat) (a0 : ByteArray) (a1 : ByteArray) (r1 : Int) (r2 : ByteArray) (r3 : ByteArray) (w : World) (h : spec_rpmRuns.f k a0 a1 = some (r1, r2, r3)) :
    Calls Tryd.prog 42 #[.string a0, .string a1] w fun e w' => e = .returned (.tuple #[.int .i64 r1, .string r2, .string r3]) ∧ Drawn0 w w' := by
  have H : (if 0 < (a0.size : Int) then ((spec_isDigit.f (bt a0 0)).bind fun t241 => (if t241 = true then (if 0 < (a1.size : Int) then ((spec_isDigit.f (bt a1 0)).bind fun t242 => (spec_rpmRuns.j0 k a0 a1 t241 (!t242))) else (none)) else (spec_rpmRuns.j0 k a0 a1 t241 false))) else (none)) = some (r1, r2, r3) := h
  clear h
  by_cases c3 : 0 < (a0.size : Int)
  · rw [if_pos c3] at H
    have c3b0 : decide (0 < (a0.size : Int)) = true := decide_eq_true c3
    have c3b1 : decide (0 < a0.size) = true := decide_eq_true (by omega)
    clear c3
    replace H := Option.bind_eq_some_iff.mp H
    obtain ⟨t241, A50, H⟩ := H
    replace H : (if t241 = true then (if 0 < (a1.size : Int) then ((spec_isDigit.f (bt a1 0)).bind fun t242 => (spec_rpmRuns.j0 k a0 a1 t241 (!t242))) else (none)) else (spec_rpmRuns.j0 k a0 a1 t241 false)) = some (r1, r2, r3) := H
    have A5 := Aside0.mk A50
    clear A50
    have HC6 := Aside0.mk H
    clear H
    have p4 : 0 ≤ (0 : Int) := (by omega)
    have q4 : 0 < a0.size := (by have : (0 : Int) < (a0.size : Int) := of_decide_eq_true (by first | (with_reducible assumption) | assumption); omega)
    have hx4 : ∀ h : 0 < a0.size, ((a0[0]'h).toNat : Int) = bt a0 0 := bt_at a0 0
    clear p4
    have qi4 : (0 < (a0.size : Int)) = True := eq_true (of_decide_eq_true (by first | (with_reducible assumption) | assumption))
    replace q4 := eq_true q4
    go_enter Tryd.func42, Tryd.ntmps42
    go_upto_block 0 with (first | (go_at_call 31; (with_reducible refine (spec_isDigit.calls (bt a0 0) t241 _ A5.out).mono ?_); rintro e w' ⟨rfl, ⟨nd, rfl⟩⟩; (try first | exact ⟨rfl, _, World.drewN_drewN _ _ _⟩ | exact ⟨rfl, _, Eq.trans (World.drewN_drewN _ _ _) (congrArg (World.drewN _) (Nat.add_assoc _ _ _))⟩)))
    repeat (go_quiet (first | (go_at_call 31; (with_reducible refine (spec_isDigit.calls (bt a0 0) t241 _ A5.out).mono ?_); rintro e w' ⟨rfl, ⟨nd, rfl⟩⟩; (try first | exact ⟨rfl, _, World.drewN_drewN _ _ _⟩ | exact ⟨rfl, _, Eq.trans (World.drewN_drewN _ _ _) (congrArg (World.drewN _) (Nat.add_assoc _ _ _))⟩))); go_upto_block 0 with (first | (go_at_call 31; (with_reducible refine (spec_isDigit.calls (bt a0 0) t241 _ A5.out).mono ?_); rintro e w' ⟨rfl, ⟨nd, rfl⟩⟩; (try first | exact ⟨rfl, _, World.drewN_drewN _ _ _⟩ | exact ⟨rfl, _, Eq.trans (World.drewN_drewN _ _ _) (congrArg (World.drewN _) (Nat.add_assoc _ _ _))⟩))))
    (try simp only [Act.put, List.setIfInBounds_toArray, List.set_cons_zero, List.set_cons_succ])
    go_cut [] (fun wc => ∃ (kq : Nat), Aside0 (spec_rpmRuns.j1 kq a0 a1 t241 = some (r1, r2, r3)) ∧ Aside0 (kq ≤ k) ∧ Drawn0 w wc)
    case first =>
      have H := HC6.out
      clear HC6
      have HC7 := Aside0.mk H
      clear H
      go_upto_region 2 with (fail)
      repeat (go_quiet (fail); go_upto_region 2 with (fail))
      go_cut [13] (fun v13 wc => ∃ (kq : Nat) (x13_6 : Bool), v13 = .bool x13_6 ∧ Aside0 (spec_rpmRuns.j0 kq a0 a1 t241 x13_6 = some (r1, r2, r3)) ∧ Aside0 (kq ≤ k) ∧ Drawn0 w wc)
      case first =>
        have H := HC7.out
        clear HC7
        by_cases c8 : t241 = true
        · subst c8
          have H1 : (if 0 < (a1.size : Int) then ((spec_isDigit.f (bt a1 0)).bind fun t242 => (spec_rpmRuns.j0 k a0 a1 true (!t242))) else (none)) = some (r1, r2, r3) := by rw [if_pos rfl] at H; exact H
          clear H
          have H := H1
          clear H1
          by_cases c9 : 0 < (a1.size : Int)
          · rw [if_pos c9] at H
            have c9b0 : decide (0 < (a1.size : Int)) = true := decide_eq_true c9
            have c9b1 : decide (0 < a1.size) = true := decide_eq_true (by omega)
            clear c9
            (first | rw [c9b0] | (simp only [i64_w, i32_w]; rw [c9b0]) | skip)
            replace H := Option.bind_eq_some_iff.mp H
            obtain ⟨t242, A110, H⟩ := H
            replace H : (spec_rpmRuns.j0 k a0 a1 true (!t242)) = some (r1, r2, r3) := H
            have A11 := Aside0.mk A110
            clear A110
            have H' := Aside0.mk H
            clear H
            have p10 : 0 ≤ (0 : Int) := (by omega)
            have q10 : 0 < a1.size := (by have : (0 : Int) < (a1.size : Int) := of_decide_eq_true (by first | (with_reducible assumption) | assumption); omega)
            have hx10 : ∀ h : 0 < a1.size, ((a1[0]'h).toNat : Int) = bt a1 0 := bt_at a1 0
            clear p10
            have qi10 : (0 < (a1.size : Int)) = True := eq_true (of_decide_eq_true (by first | (with_reducible assumption) | assumption))
            replace q10 := eq_true q10
            go_wp2_with (first | (go_at_call 31; (with_reducible refine (spec_isDigit.calls (bt a1 0) t242 _ A11.out).mono ?_); rintro e w' ⟨rfl, ⟨nd, rfl⟩⟩; (try first | exact ⟨rfl, _, World.drewN_drewN _ _ _⟩ | exact ⟨rfl, _, Eq.trans (World.drewN_drewN _ _ _) (congrArg (World.drewN _) (Nat.add_assoc _ _ _))⟩)))
            repeat (go_quiet (first | (go_at_call 31; (with_reducible refine (spec_isDigit.calls (bt a1 0) t242 _ A11.out).mono ?_); rintro e w' ⟨rfl, ⟨nd, rfl⟩⟩; (try first | exact ⟨rfl, _, World.drewN_drewN _ _ _⟩ | exact ⟨rfl, _, Eq.trans (World.drewN_drewN _ _ _) (congrArg (World.drewN _) (Nat.add_assoc _ _ _))⟩))); try go_wp2_with (first | (go_at_call 31; (with_reducible refine (spec_isDigit.calls (bt a1 0) t242 _ A11.out).mono ?_); rintro e w' ⟨rfl, ⟨nd, rfl⟩⟩; (try first | exact ⟨rfl, _, World.drewN_drewN _ _ _⟩ | exact ⟨rfl, _, Eq.trans (World.drewN_drewN _ _ _) (congrArg (World.drewN _) (Nat.add_assoc _ _ _))⟩))))
            go_meet
            case rel => exact ⟨_, (!t242), (by first | rfl | (simp; done) | (simp [*]; done)), H', ⟨by first | omega | exact Nat.le_refl _⟩, by repeat (first | exact Drawn0.refl _ | apply Drawn0.step)⟩
          · rw [if_neg c9] at H
            exact absurd H (by simp)
        · replace c8 := Bool.eq_false_iff.mpr c8
          subst c8
          have H1 : (spec_rpmRuns.j0 k a0 a1 false false) = some (r1, r2, r3) := by rw [if_neg (show ¬ (false = true) by decide)] at H; exact H
          clear H
          have H := H1
          clear H1
          have H' := Aside0.mk H
          clear H
          go_wp2
          repeat (go_quiet (fail); try go_wp2)
          go_meet
          case rel => exact ⟨_, (false), (by first | rfl | (simp; done) | (simp [*]; done)), H', ⟨by first | omega | exact Nat.le_refl _⟩, by repeat (first | exact Drawn0.refl _ | apply Drawn0.step)⟩
      case rest =>
        clear HC7
        try clear p1
        try clear q1
        try clear hx1
        try clear qi1
        try clear p2
        try clear c3
        try clear c3b0
        try clear c3b1
        try clear c4
        try clear p4
        try clear q4
        try clear hx4
        try clear qi4
        try clear c8
        try clear c9
        try clear c9b0
        try clear c9b1
        try clear p10
        try clear q10
        try clear hx10
        try clear qi10
        try clear p10
        try clear p4
        try clear q10
        try clear q4
        obtain ⟨kq, x13_6, rfl, HA, HJ6, ⟨mc6, rfl⟩⟩ := hcut
        cases kq with
        | zero => exact absurd HA.out (by simp [spec_rpmRuns.j0])
        | succ kj6 =>
          have H := HA.out
          clear HA
          simp only [spec_rpmRuns.j0] at H
          by_cases c12 : x13_6 = true
          · subst c12
            have H1 : (some (1, (⟨#[]⟩ : ByteArray), (⟨#[]⟩ : ByteArray))) = some (r1, r2, r3) := by rw [if_pos rfl] at H; exact H
            clear H
            have H := H1
            clear H1
            simp only [Option.some.injEq, Prod.mk.injEq] at H
            obtain ⟨rfl, rfl, rfl⟩ := H
            go_wp2
            repeat (go_quiet (fail); try go_wp2)
            go_ret3
            exact ⟨by first | rfl | (simp; done) | (simp [*]; done), by repeat (first | exact Drawn0.refl _ | apply Drawn0.step)⟩
          · replace c12 := Bool.eq_false_iff.mpr c12
            subst c12
            have H1 : (if t241 = true then (spec_rpmRuns.j1 kj6 a0 a1 t241) else (if 0 < (a1.size : Int) then ((spec_isDigit.f (bt a1 0)).bind fun t243 => (if t243 = true then (some ((-1), (⟨#[]⟩ : ByteArray), (⟨#[]⟩ : ByteArray))) else (spec_rpmRuns.j1 kj6 a0 a1 t241))) else (none))) = some (r1, r2, r3) := by rw [if_neg (show ¬ (false = true) by decide)] at H; exact H
            clear H
            have H := H1
            clear H1
            by_cases c13 : t241 = true
            · subst c13
              have H1 : (spec_rpmRuns.j1 kj6 a0 a1 true) = some (r1, r2, r3) := by rw [if_pos rfl] at H; exact H
              clear H
              have H := H1
              clear H1
              have H' := Aside0.mk H
              clear H
              go_wp2
              repeat (go_quiet (fail); try go_wp2)
              go_meet
              case rel => exact ⟨_, H', ⟨by have := HJ6.out; first | omega | exact Nat.le_refl _⟩, by repeat (first | exact Drawn0.refl _ | apply Drawn0.step)⟩
            · replace c13 := Bool.eq_false_iff.mpr c13
              subst c13
              have H1 : (if 0 < (a1.size : Int) then ((spec_isDigit.f (bt a1 0)).bind fun t243 => (if t243 = true then (some ((-1), (⟨#[]⟩ : ByteArray), (⟨#[]⟩ : ByteArray))) else (spec_rpmRuns.j1 kj6 a0 a1 false))) else (none)) = some (r1, r2, r3) := by rw [if_neg (show ¬ (false = true) by decide)] at H; exact H
              clear H
              have H := H1
              clear H1
              by_cases c14 : 0 < (a1.size : Int)
              · rw [if_pos c14] at H
                have c14b0 : decide (0 < (a1.size : Int)) = true := decide_eq_true c14
                have c14b1 : decide (0 < a1.size) = true := decide_eq_true (by omega)
                clear c14
                replace H := Option.bind_eq_some_iff.mp H
                obtain ⟨t243, A160, H⟩ := H
                replace H : (if t243 = true then (some ((-1), (⟨#[]⟩ : ByteArray), (⟨#[]⟩ : ByteArray))) else (spec_rpmRuns.j1 kj6 a0 a1 false)) = some (r1, r2, r3) := H
                have A16 := Aside0.mk A160
                clear A160
                by_cases c17 : t243 = true
                · subst c17
                  have H1 : (some ((-1), (⟨#[]⟩ : ByteArray), (⟨#[]⟩ : ByteArray))) = some (r1, r2, r3) := by rw [if_pos rfl] at H; exact H
                  clear H
                  have H := H1
                  clear H1
                  simp only [Option.some.injEq, Prod.mk.injEq] at H
                  obtain ⟨rfl, rfl, rfl⟩ := H
                  have p15 : 0 ≤ (0 : Int) := (by omega)
                  have q15 : 0 < a1.size := (by have : (0 : Int) < (a1.size : Int) := of_decide_eq_true (by first | (with_reducible assumption) | assumption); omega)
                  have hx15 : ∀ h : 0 < a1.size, ((a1[0]'h).toNat : Int) = bt a1 0 := bt_at a1 0
                  clear p15
                  have qi15 : (0 < (a1.size : Int)) = True := eq_true (of_decide_eq_true (by first | (with_reducible assumption) | assumption))
                  replace q15 := eq_true q15
                  go_wp2_with (first | (go_at_call 31; (with_reducible refine (spec_isDigit.calls (bt a1 0) true _ A16.out).mono ?_); rintro e w' ⟨rfl, ⟨nd, rfl⟩⟩; (try first | exact ⟨rfl, _, World.drewN_drewN _ _ _⟩ | exact ⟨rfl, _, Eq.trans (World.drewN_drewN _ _ _) (congrArg (World.drewN _) (Nat.add_assoc _ _ _))⟩)))
                  repeat (go_quiet (first | (go_at_call 31; (with_reducible refine (spec_isDigit.calls (bt a1 0) true _ A16.out).mono ?_); rintro e w' ⟨rfl, ⟨nd, rfl⟩⟩; (try first | exact ⟨rfl, _, World.drewN_drewN _ _ _⟩ | exact ⟨rfl, _, Eq.trans (World.drewN_drewN _ _ _) (congrArg (World.drewN _) (Nat.add_assoc _ _ _))⟩))); try go_wp2_with (first | (go_at_call 31; (with_reducible refine (spec_isDigit.calls (bt a1 0) true _ A16.out).mono ?_); rintro e w' ⟨rfl, ⟨nd, rfl⟩⟩; (try first | exact ⟨rfl, _, World.drewN_drewN _ _ _⟩ | exact ⟨rfl, _, Eq.trans (World.drewN_drewN _ _ _) (congrArg (World.drewN _) (Nat.add_assoc _ _ _))⟩))))
                  go_ret3
                  exact ⟨by first | rfl | (simp; done) | (simp [*]; done), by repeat (first | exact Drawn0.refl _ | apply Drawn0.step)⟩
                · replace c17 := Bool.eq_false_iff.mpr c17
                  subst c17
                  have H1 : (spec_rpmRuns.j1 kj6 a0 a1 false) = some (r1, r2, r3) := by rw [if_neg (show ¬ (false = true) by decide)] at H; exact H
                  clear H
                  have H := H1
                  clear H1
                  have H' := Aside0.mk H
                  clear H
                  have p15 : 0 ≤ (0 : Int) := (by omega)
                  have q15 : 0 < a1.size := (by have : (0 : Int) < (a1.size : Int) := of_decide_eq_true (by first | (with_reducible assumption) | assumption); omega)
                  have hx15 : ∀ h : 0 < a1.size, ((a1[0]'h).toNat : Int) = bt a1 0 := bt_at a1 0
                  clear p15
                  have qi15 : (0 < (a1.size : Int)) = True := eq_true (of_decide_eq_true (by first | (with_reducible assumption) | assumption))
                  replace q15 := eq_true q15
                  go_wp2_with (first | (go_at_call 31; (with_reducible refine (spec_isDigit.calls (bt a1 0) false _ A16.out).mono ?_); rintro e w' ⟨rfl, ⟨nd, rfl⟩⟩; (try first | exact ⟨rfl, _, World.drewN_drewN _ _ _⟩ | exact ⟨rfl, _, Eq.trans (World.drewN_drewN _ _ _) (congrArg (World.drewN _) (Nat.add_assoc _ _ _))⟩)))
                  repeat (go_quiet (first | (go_at_call 31; (with_reducible refine (spec_isDigit.calls (bt a1 0) false _ A16.out).mono ?_); rintro e w' ⟨rfl, ⟨nd, rfl⟩⟩; (try first | exact ⟨rfl, _, World.drewN_drewN _ _ _⟩ | exact ⟨rfl, _, Eq.trans (World.drewN_drewN _ _ _) (congrArg (World.drewN _) (Nat.add_assoc _ _ _))⟩))); try go_wp2_with (first | (go_at_call 31; (with_reducible refine (spec_isDigit.calls (bt a1 0) false _ A16.out).mono ?_); rintro e w' ⟨rfl, ⟨nd, rfl⟩⟩; (try first | exact ⟨rfl, _, World.drewN_drewN _ _ _⟩ | exact ⟨rfl, _, Eq.trans (World.drewN_drewN _ _ _) (congrArg (World.drewN _) (Nat.add_assoc _ _ _))⟩))))
                  go_meet
                  case rel => exact ⟨_, H', ⟨by have := HJ6.out; first | omega | exact Nat.le_refl _⟩, by repeat (first | exact Drawn0.refl _ | apply Drawn0.step)⟩
              · rw [if_neg c14] at H
                exact absurd H (by simp)
    case rest =>
      clear HC6
      try clear c1
      try clear p1
      try clear q1
      try clear hx1
      try clear qi1
      try clear p2
      try clear c3
      try clear c3b0
      try clear c3b1
      try clear c4
      try clear p4
      try clear q4
      try clear hx4
      try clear qi4
      try clear c6
      try clear c8
      try clear c9
      try clear c9b0
      try clear c9b1
      try clear p10
      try clear q10
      try clear hx10
      try clear qi10
      try clear c12
      try clear c13
      try clear c14
      try clear c14b0
      try clear c14b1
      try clear p15
      try clear q15
      try clear hx15
      try clear qi15
      try clear c17
      try clear p1
      try clear p10
      try clear p15
      try clear p2
      try clear p4
      try clear q1
      try clear q10
      try clear q15
      try clear q4
      obtain ⟨kq, HA, HJ5, ⟨mc5, rfl⟩⟩ := hcut
      cases kq with
      | zero => exact absurd HA.out (by simp [spec_rpmRuns.j1])
      | succ kj5 =>
        have H := HA.out
        clear HA
        simp only [spec_rpmRuns.j1] at H
        replace H := Option.bind_eq_some_iff.mp H
        obtain ⟨t244, A180, H⟩ := H
        replace H : ((spec_rpmRun.f kj5 a1 t241).bind fun t245 => (if 0 ≤ t244 then (if t244 ≤ (a0.size : Int) then (if 0 ≤ t245 then (if t245 ≤ (a1.size : Int) then ((spec_order.f (a0.extract 0 (t244 : Int).toNat) (a1.extract 0 (t245 : Int).toNat)).bind fun t246 => (if t241 = true then ((spec_orderNumbers.f kj5 (a0.extract 0 (t244 : Int).toNat) (a1.extract 0 (t245 : Int).toNat)).bind fun t247 => (some (t247, a0.extract (t244 : Int).toNat a0.size, a1.extract (t245 : Int).toNat a1.size))) else (some (t246, a0.extract (t244 : Int).toNat a0.size, a1.extract (t245 : Int).toNat a1.size)))) else (none)) else (none)) else (none)) else (none))) = some (r1, r2, r3) := H
        have A18 := Aside0.mk A180
        clear A180
        replace H := Option.bind_eq_some_iff.mp H
        obtain ⟨t245, A190, H⟩ := H
        replace H : (if 0 ≤ t244 then (if t244 ≤ (a0.size : Int) then (if 0 ≤ t245 then (if t245 ≤ (a1.size : Int) then ((spec_order.f (a0.extract 0 (t244 : Int).toNat) (a1.extract 0 (t245 : Int).toNat)).bind fun t246 => (if t241 = true then ((spec_orderNumbers.f kj5 (a0.extract 0 (t244 : Int).toNat) (a1.extract 0 (t245 : Int).toNat)).bind fun t247 => (some (t247, a0.extract (t244 : Int).toNat a0.size, a1.extract (t245 : Int).toNat a1.size))) else (some (t246, a0.extract (t244 : Int).toNat a0.size, a1.extract (t245 : Int).toNat a1.size)))) else (none)) else (none)) else (none)) else (none)) = some (r1, r2, r3) := H
        have A19 := Aside0.mk A190
        clear A190
        by_cases c20 : 0 ≤ t244
        · rw [if_pos c20] at H
          have c20b0 := eq_true c20
          have c20b1 : decide (0 ≤ t244) = true := decide_eq_true c20
          clear c20
          by_cases c21 : t244 ≤ (a0.size : Int)
          · rw [if_pos c21] at H
            have c21b0 := eq_true c21
            have c21b1 : decide (t244 ≤ (a0.size : Int)) = true := decide_eq_true c21
            clear c21
            by_cases c22 : 0 ≤ t245
            · rw [if_pos c22] at H
              have c22b0 := eq_true c22
              have c22b1 : decide (0 ≤ t245) = true := decide_eq_true c22
              clear c22
              by_cases c23 : t245 ≤ (a1.size : Int)
              · rw [if_pos c23] at H
                have c23b0 := eq_true c23
                have c23b1 : decide (t245 ≤ (a1.size : Int)) = true := decide_eq_true c23
                clear c23
                replace H := Option.bind_eq_some_iff.mp H
                obtain ⟨t246, A240, H⟩ := H
                replace H : (if t241 = true then ((spec_orderNumbers.f kj5 (a0.extract 0 (t244 : Int).toNat) (a1.extract 0 (t245 : Int).toNat)).bind fun t247 => (some (t247, a0.extract (t244 : Int).toNat a0.size, a1.extract (t245 : Int).toNat a1.size))) else (some (t246, a0.extract (t244 : Int).toNat a0.size, a1.extract (t245 : Int).toNat a1.size))) = some (r1, r2, r3) := H
                have A24 := Aside0.mk A240
                clear A240
                by_cases c25 : t241 = true
                · subst c25
                  have H1 : ((spec_orderNumbers.f kj5 (a0.extract 0 (t244 : Int).toNat) (a1.extract 0 (t245 : Int).toNat)).bind fun t247 => (some (t247, a0.extract (t244 : Int).toNat a0.size, a1.extract (t245 : Int).toNat a1.size))) = some (r1, r2, r3) := by rw [if_pos rfl] at H; exact H
                  clear H
                  have H := H1
                  clear H1
                  have c26b0 := eq_true (of_decide_eq_true (by first | (with_reducible assumption) | assumption) : 0 ≤ t244)
                  have c27b0 := eq_true (of_decide_eq_true (by first | (with_reducible assumption) | assumption) : t244 ≤ (a0.size : Int))
                  have c28b0 := eq_true (of_decide_eq_true (by first | (with_reducible assumption) | assumption) : 0 ≤ t245)
                  have c29b0 := eq_true (of_decide_eq_true (by first | (with_reducible assumption) | assumption) : t245 ≤ (a1.size : Int))
                  replace H := Option.bind_eq_some_iff.mp H
                  obtain ⟨t247, A300, H⟩ := H
                  replace H : (some (t247, a0.extract (t244 : Int).toNat a0.size, a1.extract (t245 : Int).toNat a1.size)) = some (r1, r2, r3) := H
                  have A30 := Aside0.mk A300
                  clear A300
                  have c31b0 := eq_true (of_decide_eq_true (by first | (with_reducible assumption) | assumption) : 0 ≤ t244)
                  have c32b0 := eq_true (of_decide_eq_true (by first | (with_reducible assumption) | assumption) : t244 ≤ (a0.size : Int))
                  have c33b0 := eq_true (of_decide_eq_true (by first | (with_reducible assumption) | assumption) : 0 ≤ t245)
                  have c34b0 := eq_true (of_decide_eq_true (by first | (with_reducible assumption) | assumption) : t245 ≤ (a1.size : Int))
                  simp only [Option.some.injEq, Prod.mk.injEq] at H
                  obtain ⟨rfl, rfl, rfl⟩ := H
                  go_wp2_with (first | (go_at_call 53; (with_reducible refine (spec_rpmRun.calls kj5 a0 true t244 _ A18.out).mono ?_); rintro e w' ⟨rfl, ⟨nd, rfl⟩⟩; (try first | exact ⟨rfl, _, World.drewN_drewN _ _ _⟩ | exact ⟨rfl, _, Eq.trans (World.drewN_drewN _ _ _) (congrArg (World.drewN _) (Nat.add_assoc _ _ _))⟩)) | (go_at_call 53; (with_reducible refine (spec_rpmRun.calls kj5 a1 true t245 _ A19.out).mono ?_); rintro e w' ⟨rfl, ⟨nd, rfl⟩⟩; (try first | exact ⟨rfl, _, World.drewN_drewN _ _ _⟩ | exact ⟨rfl, _, Eq.trans (World.drewN_drewN _ _ _) (congrArg (World.drewN _) (Nat.add_assoc _ _ _))⟩)) | (go_at_call 34; (with_reducible refine (spec_order.calls (a0.extract 0 (t244 : Int).toNat) (a1.extract 0 (t245 : Int).toNat) t246 _ A24.out).mono ?_); rintro e w' ⟨rfl, ⟨nd, rfl⟩⟩; (try first | exact ⟨rfl, _, World.drewN_drewN _ _ _⟩ | exact ⟨rfl, _, Eq.trans (World.drewN_drewN _ _ _) (congrArg (World.drewN _) (Nat.add_assoc _ _ _))⟩)) | (go_at_call 54; (with_reducible refine (spec_orderNumbers.calls kj5 (a0.extract 0 (t244 : Int).toNat) (a1.extract 0 (t245 : Int).toNat) t247 _ A30.out).mono ?_); rintro e w' ⟨rfl, ⟨nd, rfl⟩⟩; (try first | exact ⟨rfl, _, World.drewN_drewN _ _ _⟩ | exact ⟨rfl, _, Eq.trans (World.drewN_drewN _ _ _) (congrArg (World.drewN _) (Nat.add_assoc _ _ _))⟩)))
                  repeat (go_quiet (first | (go_at_call 53; (with_reducible refine (spec_rpmRun.calls kj5 a0 true t244 _ A18.out).mono ?_); rintro e w' ⟨rfl, ⟨nd, rfl⟩⟩; (try first | exact ⟨rfl, _, World.drewN_drewN _ _ _⟩ | exact ⟨rfl, _, Eq.trans (World.drewN_drewN _ _ _) (congrArg (World.drewN _) (Nat.add_assoc _ _ _))⟩)) | (go_at_call 53; (with_reducible refine (spec_rpmRun.calls kj5 a1 true t245 _ A19.out).mono ?_); rintro e w' ⟨rfl, ⟨nd, rfl⟩⟩; (try first | exact ⟨rfl, _, World.drewN_drewN _ _ _⟩ | exact ⟨rfl, _, Eq.trans (World.drewN_drewN _ _ _) (congrArg (World.drewN _) (Nat.add_assoc _ _ _))⟩)) | (go_at_call 34; (with_reducible refine (spec_order.calls (a0.extract 0 (t244 : Int).toNat) (a1.extract 0 (t245 : Int).toNat) t246 _ A24.out).mono ?_); rintro e w' ⟨rfl, ⟨nd, rfl⟩⟩; (try first | exact ⟨rfl, _, World.drewN_drewN _ _ _⟩ | exact ⟨rfl, _, Eq.trans (World.drewN_drewN _ _ _) (congrArg (World.drewN _) (Nat.add_assoc _ _ _))⟩)) | (go_at_call 54; (with_reducible refine (spec_orderNumbers.calls kj5 (a0.extract 0 (t244 : Int).toNat) (a1.extract 0 (t245 : Int).toNat) t247 _ A30.out).mono ?_); rintro e w' ⟨rfl, ⟨nd, rfl⟩⟩; (try first | exact ⟨rfl, _, World.drewN_drewN _ _ _⟩ | exact ⟨rfl, _, Eq.trans (World.drewN_drewN _ _ _) (congrArg (World.drewN _) (Nat.add_assoc _ _ _))⟩))); try go_wp2_with (first | (go_at_call 53; (with_reducible refine (spec_rpmRun.calls kj5 a0 true t244 _ A18.out).mono ?_); rintro e w' ⟨rfl, ⟨nd, rfl⟩⟩; (try first | exact ⟨rfl, _, World.drewN_drewN _ _ _⟩ | exact ⟨rfl, _, Eq.trans (World.drewN_drewN _ _ _) (congrArg (World.drewN _) (Nat.add_assoc _ _ _))⟩)) | (go_at_call 53; (with_reducible refine (spec_rpmRun.calls kj5 a1 true t245 _ A19.out).mono ?_); rintro e w' ⟨rfl, ⟨nd, rfl⟩⟩; (try first | exact ⟨rfl, _, World.drewN_drewN _ _ _⟩ | exact ⟨rfl, _, Eq.trans (World.drewN_drewN _ _ _) (congrArg (World.drewN _) (Nat.add_assoc _ _ _))⟩)) | (go_at_call 34; (with_reducible refine (spec_order.calls (a0.extract 0 (t244 : Int).toNat) (a1.extract 0 (t245 : Int).toNat) t246 _ A24.out).mono ?_); rintro e w' ⟨rfl, ⟨nd, rfl⟩⟩; (try first | exact ⟨rfl, _, World.drewN_drewN _ _ _⟩ | exact ⟨rfl, _, Eq.trans (World.drewN_drewN _ _ _) (congrArg (World.drewN _) (Nat.add_assoc _ _ _))⟩)) | (go_at_call 54; (with_reducible refine (spec_orderNumbers.calls kj5 (a0.extract 0 (t244 : Int).toNat) (a1.extract 0 (t245 : Int).toNat) t247 _ A30.out).mono ?_); rintro e w' ⟨rfl, ⟨nd, rfl⟩⟩; (try first | exact ⟨rfl, _, World.drewN_drewN _ _ _⟩ | exact ⟨rfl, _, Eq.trans (World.drewN_drewN _ _ _) (congrArg (World.drewN _) (Nat.add_assoc _ _ _))⟩))))
                  go_ret3
                  exact ⟨by first | rfl | (simp; done) | (simp [*]; done), by repeat (first | exact Drawn0.refl _ | apply Drawn0.step)⟩
                · replace c25 := Bool.eq_false_iff.mpr c25
                  subst c25
                  have H1 : (some (t246, a0.extract (t244 : Int).toNat a0.size, a1.extract (t245 : Int).toNat a1.size)) = some (r1, r2, r3) := by rw [if_neg (show ¬ (false = true) by decide)] at H; exact H
                  clear H
                  have H := H1
                  clear H1
                  have c35b0 := eq_true (of_decide_eq_true (by first | (with_reducible assumption) | assumption) : 0 ≤ t244)
                  have c36b0 := eq_true (of_decide_eq_true (by first | (with_reducible assumption) | assumption) : t244 ≤ (a0.size : Int))
                  have c37b0 := eq_true (of_decide_eq_true (by first | (with_reducible assumption) | assumption) : 0 ≤ t245)
                  have c38b0 := eq_true (of_decide_eq_true (by first | (with_reducible assumption) | assumption) : t245 ≤ (a1.size : Int))
                  simp only [Option.some.injEq, Prod.mk.injEq] at H
                  obtain ⟨rfl, rfl, rfl⟩ := H
                  go_wp2_with (first | (go_at_call 53; (with_reducible refine (spec_rpmRun.calls kj5 a0 false t244 _ A18.out).mono ?_); rintro e w' ⟨rfl, ⟨nd, rfl⟩⟩; (try first | exact ⟨rfl, _, World.drewN_drewN _ _ _⟩ | exact ⟨rfl, _, Eq.trans (World.drewN_drewN _ _ _) (congrArg (World.drewN _) (Nat.add_assoc _ _ _))⟩)) | (go_at_call 53; (with_reducible refine (spec_rpmRun.calls kj5 a1 false t245 _ A19.out).mono ?_); rintro e w' ⟨rfl, ⟨nd, rfl⟩⟩; (try first | exact ⟨rfl, _, World.drewN_drewN _ _ _⟩ | exact ⟨rfl, _, Eq.trans (World.drewN_drewN _ _ _) (congrArg (World.drewN _) (Nat.add_assoc _ _ _))⟩)) | (go_at_call 34; (with_reducible refine (spec_order.calls (a0.extract 0 (t244 : Int).toNat) (a1.extract 0 (t245 : Int).toNat) t246 _ A24.out).mono ?_); rintro e w' ⟨rfl, ⟨nd, rfl⟩⟩; (try first | exact ⟨rfl, _, World.drewN_drewN _ _ _⟩ | exact ⟨rfl, _, Eq.trans (World.drewN_drewN _ _ _) (congrArg (World.drewN _) (Nat.add_assoc _ _ _))⟩)))
                  repeat (go_quiet (first | (go_at_call 53; (with_reducible refine (spec_rpmRun.calls kj5 a0 false t244 _ A18.out).mono ?_); rintro e w' ⟨rfl, ⟨nd, rfl⟩⟩; (try first | exact ⟨rfl, _, World.drewN_drewN _ _ _⟩ | exact ⟨rfl, _, Eq.trans (World.drewN_drewN _ _ _) (congrArg (World.drewN _) (Nat.add_assoc _ _ _))⟩)) | (go_at_call 53; (with_reducible refine (spec_rpmRun.calls kj5 a1 false t245 _ A19.out).mono ?_); rintro e w' ⟨rfl, ⟨nd, rfl⟩⟩; (try first | exact ⟨rfl, _, World.drewN_drewN _ _ _⟩ | exact ⟨rfl, _, Eq.trans (World.drewN_drewN _ _ _) (congrArg (World.drewN _) (Nat.add_assoc _ _ _))⟩)) | (go_at_call 34; (with_reducible refine (spec_order.calls (a0.extract 0 (t244 : Int).toNat) (a1.extract 0 (t245 : Int).toNat) t246 _ A24.out).mono ?_); rintro e w' ⟨rfl, ⟨nd, rfl⟩⟩; (try first | exact ⟨rfl, _, World.drewN_drewN _ _ _⟩ | exact ⟨rfl, _, Eq.trans (World.drewN_drewN _ _ _) (congrArg (World.drewN _) (Nat.add_assoc _ _ _))⟩))); try go_wp2_with (first | (go_at_call 53; (with_reducible refine (spec_rpmRun.calls kj5 a0 false t244 _ A18.out).mono ?_); rintro e w' ⟨rfl, ⟨nd, rfl⟩⟩; (try first | exact ⟨rfl, _, World.drewN_drewN _ _ _⟩ | exact ⟨rfl, _, Eq.trans (World.drewN_drewN _ _ _) (congrArg (World.drewN _) (Nat.add_assoc _ _ _))⟩)) | (go_at_call 53; (with_reducible refine (spec_rpmRun.calls kj5 a1 false t245 _ A19.out).mono ?_); rintro e w' ⟨rfl, ⟨nd, rfl⟩⟩; (try first | exact ⟨rfl, _, World.drewN_drewN _ _ _⟩ | exact ⟨rfl, _, Eq.trans (World.drewN_drewN _ _ _) (congrArg (World.drewN _) (Nat.add_assoc _ _ _))⟩)) | (go_at_call 34; (with_reducible refine (spec_order.calls (a0.extract 0 (t244 : Int).toNat) (a1.extract 0 (t245 : Int).toNat) t246 _ A24.out).mono ?_); rintro e w' ⟨rfl, ⟨nd, rfl⟩⟩; (try first | exact ⟨rfl, _, World.drewN_drewN _ _ _⟩ | exact ⟨rfl, _, Eq.trans (World.drewN_drewN _ _ _) (congrArg (World.drewN _) (Nat.add_assoc _ _ _))⟩))))
                  go_ret3
                  exact ⟨by first | rfl | (simp; done) | (simp [*]; done), by repeat (first | exact Drawn0.refl _ | apply Drawn0.step)⟩
              · rw [if_neg c23] at H
                exact absurd H (by simp)
            · rw [if_neg c22] at H
              exact absurd H (by simp)
          · rw [if_neg c21] at H
            exact absurd H (by simp)
        · rw [if_neg c20] at H
          exact absurd H (by simp)
  · rw [if_neg c3] at H
    exact absurd H (by simp)

/-! ### spec_RedHatParts: function 29 -/
mutual
def spec_RedHatParts.j0 : Nat → ByteArray → ByteArray → Bool → Option (Int)
  | 0, _, _, _ => none
  | k + 1, x0, x1, x12 => if x12 = true then ((spec_orderInts.f (x0.size : Int) (x1.size : Int)).bind fun t248 => (some t248)) else (spec_RedHatParts.l0 k x0 x1)
def spec_RedHatParts.l0 : Nat → ByteArray → ByteArray → Option (Int)
  | 0, _, _ => none
  | k + 1, x0, x1 => (spec_rpmSkip.f k x0).bind fun t249 => ((spec_rpmSkip.f k x1).bind fun t250 => ((spec_rpmMark.f t249).bind fun t251 => ((spec_rpmMark.f t250).bind fun t252 => ((spec_orderInts.f t251 t252).bind fun t253 => (if t253 = 0 then (spec_RedHatParts.j2 k t249 t250 t251 t253 (t251 == 0)) else (spec_RedHatParts.j2 k t249 t250 t251 t253 true))))))
def spec_RedHatParts.j2 : Nat → ByteArray → ByteArray → Int → Int → Bool → Option (Int)
  | 0, _, _, _, _, _ => none
  | k + 1, x0, x1, x5, x6, x38 => if x38 = true then (some x6) else (if x5 < 2 then (if 1 ≤ (x0.size : Int) then (if 1 ≤ (x1.size : Int) then (spec_RedHatParts.l0 k (x0.extract 1 x0.size) (x1.extract 1 x1.size)) else (none)) else (none)) else ((spec_rpmRuns.f k x0 x1).bind fun bt254 => (if bt254.1 = 0 then (spec_RedHatParts.l0 k bt254.2.1 bt254.2.2) else (some bt254.1))))
end
def spec_RedHatParts.f (k : Nat) (a0 : ByteArray) (a1 : ByteArray) : Option (Int) := if a0.toList = ([] : List UInt8) then (spec_RedHatParts.j0 k a0 a1 true) else (spec_RedHatParts.j0 k a0 a1 (a1.toList.isEmpty))
theorem spec_RedHatParts.mono_l : ∀ k, (∀ y0 y1 y2, LeO (spec_RedHatParts.j0 k y0 y1 y2) (spec_RedHatParts.j0 (k + 1) y0 y1 y2)) ∧ (∀ y0 y1, LeO (spec_RedHatParts.l0 k y0 y1) (spec_RedHatParts.l0 (k + 1) y0 y1)) ∧ (∀ y0 y1 y2 y3 y4, LeO (spec_RedHatParts.j2 k y0 y1 y2 y3 y4) (spec_RedHatParts.j2 (k + 1) y0 y1 y2 y3 y4))
  | 0 => ⟨fun _ _ _ r h => by simp [spec_RedHatParts.j0] at h, fun _ _ r h => by simp [spec_RedHatParts.l0] at h, fun _ _ _ _ _ r h => by simp [spec_RedHatParts.j2] at h⟩
  | k + 1 => by
    obtain ⟨ih0, ih1, ih2⟩ := spec_RedHatParts.mono_l k
    refine ⟨?_, ?_, ?_⟩
    · intro y0 y1 y2
      unfold spec_RedHatParts.j0
      repeat' first
      | (with_reducible exact ih0 _ _ _)
      | (with_reducible exact ih1 _ _)
      | (with_reducible exact ih2 _ _ _ _ _)
      | (with_reducible exact spec_rpmRuns.mono _ _ _)
      | (with_reducible exact spec_rpmSkip.mono _ _)
      | (with_reducible exact LeO.refl _)
      | (with_reducible exact LeO.none _)
      | (with_reducible refine LeO.ite ?_ ?_)
      | (with_reducible refine LeO.bind ?_ (fun _ => ?_))
      | exact ih0 _ _ _
      | exact ih1 _ _
      | exact ih2 _ _ _ _ _
      | exact spec_rpmRuns.mono _ _ _
      | exact spec_rpmSkip.mono _ _
      | exact LeO.none _
      | refine LeO.ite ?_ ?_
      | refine LeO.bind ?_ (fun _ => ?_)
    · intro y0 y1
      unfold spec_RedHatParts.l0
      repeat' first
      | (with_reducible exact ih0 _ _ _)
      | (with_reducible exact ih1 _ _)
      | (with_reducible exact ih2 _ _ _ _ _)
      | (with_reducible exact spec_rpmRuns.mono _ _ _)
      | (with_reducible exact spec_rpmSkip.mono _ _)
      | (with_reducible exact LeO.refl _)
      | (with_reducible exact LeO.none _)
      | (with_reducible refine LeO.ite ?_ ?_)
      | (with_reducible refine LeO.bind ?_ (fun _ => ?_))
      | exact ih0 _ _ _
      | exact ih1 _ _
      | exact ih2 _ _ _ _ _
      | exact spec_rpmRuns.mono _ _ _
      | exact spec_rpmSkip.mono _ _
      | exact LeO.none _
      | refine LeO.ite ?_ ?_
      | refine LeO.bind ?_ (fun _ => ?_)
    · intro y0 y1 y2 y3 y4
      unfold spec_RedHatParts.j2
      repeat' first
      | (with_reducible exact ih0 _ _ _)
      | (with_reducible exact ih1 _ _)
      | (with_reducible exact ih2 _ _ _ _ _)
      | (with_reducible exact spec_rpmRuns.mono _ _ _)
      | (with_reducible exact spec_rpmSkip.mono _ _)
      | (with_reducible exact LeO.refl _)
      | (with_reducible exact LeO.none _)
      | (with_reducible refine LeO.ite ?_ ?_)
      | (with_reducible refine LeO.bind ?_ (fun _ => ?_))
      | exact ih0 _ _ _
      | exact ih1 _ _
      | exact ih2 _ _ _ _ _
      | exact spec_rpmRuns.mono _ _ _
      | exact spec_rpmSkip.mono _ _
      | exact LeO.none _
      | refine LeO.ite ?_ ?_
      | refine LeO.bind ?_ (fun _ => ?_)
theorem spec_RedHatParts.mono : ∀ a0 a1 k, LeO (spec_RedHatParts.f k a0 a1) (spec_RedHatParts.f (k + 1) a0 a1) := by
  intro a0 a1 k
  obtain ⟨ih0, ih1, ih2⟩ := spec_RedHatParts.mono_l k
  unfold spec_RedHatParts.f
  repeat' first
      | (with_reducible exact ih0 _ _ _)
      | (with_reducible exact ih1 _ _)
      | (with_reducible exact ih2 _ _ _ _ _)
      | (with_reducible exact spec_rpmRuns.mono _ _ _)
      | (with_reducible exact spec_rpmSkip.mono _ _)
      | (with_reducible exact LeO.refl _)
      | (with_reducible exact LeO.none _)
      | (with_reducible refine LeO.ite ?_ ?_)
      | (with_reducible refine LeO.bind ?_ (fun _ => ?_))
      | exact ih0 _ _ _
      | exact ih1 _ _
      | exact ih2 _ _ _ _ _
      | exact spec_rpmRuns.mono _ _ _
      | exact spec_rpmSkip.mono _ _
      | exact LeO.none _
      | refine LeO.ite ?_ ?_
      | refine LeO.bind ?_ (fun _ => ?_)
set_option maxHeartbeats 8000000 in
set_option maxRecDepth 100000 in
theorem spec_RedHatParts.calls (k : Nat) (a0 : ByteArray) (a1 : ByteArray) (r : Int) (w : World) (h : spec_RedHatParts.f k a0 a1 = some r) :
    Calls Tryd.prog 29 #[.string a0, .string a1] w fun e w' => e = .returned (.int .i64 r) ∧ Drawn0 w w' := by
  have H : (if a0.toList = ([] : List UInt8) then (spec_RedHatParts.j0 k a0 a1 true) else (spec_RedHatParts.j0 k a0 a1 (a1.toList.isEmpty))) = some r := h
  clear h
  have HC3 := Aside0.mk H
  clear H
  go_enter Tryd.func29, Tryd.ntmps29
  go_upto_region 1 with (fail)
  repeat (go_quiet (fail); go_upto_region 1 with (fail))
  go_cut [12] (fun v12 wc => ∃ (kq : Nat) (x12_2 : Bool), v12 = .bool x12_2 ∧ Aside0 (spec_RedHatParts.j0 kq a0 a1 x12_2 = some r) ∧ Aside0 (kq ≤ k) ∧ Drawn0 w wc)
  case first =>
    have H := HC3.out
    clear HC3
    by_cases c4 : a0.toList = ([] : List UInt8)
    · rw [if_pos c4] at H
      have c4b0 : (a0.toList.isEmpty) = true := by simpa using c4
      have c4b1 : (!a0.toList.isEmpty) = false := by simpa using c4
      clear c4
      (first | rw [c4b0] | (simp only [i64_w, i32_w]; rw [c4b0]) | skip)
      have H' := Aside0.mk H
      clear H
      go_wp2
      repeat (go_quiet (fail); try go_wp2)
      go_meet
      case rel => exact ⟨_, (true), (by first | rfl | (simp; done) | (simp [*]; done)), H', ⟨by first | omega | exact Nat.le_refl _⟩, by repeat (first | exact Drawn0.refl _ | apply Drawn0.step)⟩
    · rw [if_neg c4] at H
      have c4b0 : (a0.toList.isEmpty) = false := by simpa using c4
      have c4b1 : (!a0.toList.isEmpty) = true := by simpa using c4
      (first | rw [c4b0] | (simp only [i64_w, i32_w]; rw [c4b0]) | skip)
      have H' := Aside0.mk H
      clear H
      go_wp2
      repeat (go_quiet (fail); try go_wp2)
      go_meet
      case rel => exact ⟨_, ((a1.toList.isEmpty)), (by first | rfl | (simp; done) | (simp [*]; done)), H', ⟨by first | omega | exact Nat.le_refl _⟩, by repeat (first | exact Drawn0.refl _ | apply Drawn0.step)⟩
  case rest =>
    clear HC3
    try clear c2
    try clear p2
    try clear c4
    try clear c4b0
    try clear c4b1
    obtain ⟨kq, x12_2, rfl, HA, HJ2, ⟨mc2, rfl⟩⟩ := hcut
    cases kq with
    | zero => exact absurd HA.out (by simp [spec_RedHatParts.j0])
    | succ kj2 =>
      have H := HA.out
      clear HA
      simp only [spec_RedHatParts.j0] at H
      by_cases c5 : x12_2 = true
      · subst c5
        have H1 : ((spec_orderInts.f (a0.size : Int) (a1.size : Int)).bind fun t248 => (some t248)) = some r := by rw [if_pos rfl] at H; exact H
        clear H
        have H := H1
        clear H1
        replace H := Option.bind_eq_some_iff.mp H
        obtain ⟨t248, A60, H⟩ := H
        replace H : (some t248) = some r := H
        have A6 := Aside0.mk A60
        clear A60
        obtain rfl := Option.some.inj H
        go_wp2_with (first | (go_at_call 33; (with_reducible refine (spec_orderInts.calls (a0.size : Int) (a1.size : Int) t248 _ A6.out).mono ?_); rintro e w' ⟨rfl, ⟨nd, rfl⟩⟩; (try first | exact ⟨rfl, _, World.drewN_drewN _ _ _⟩ | exact ⟨rfl, _, Eq.trans (World.drewN_drewN _ _ _) (congrArg (World.drewN _) (Nat.add_assoc _ _ _))⟩)))
        repeat (go_quiet (first | (go_at_call 33; (with_reducible refine (spec_orderInts.calls (a0.size : Int) (a1.size : Int) t248 _ A6.out).mono ?_); rintro e w' ⟨rfl, ⟨nd, rfl⟩⟩; (try first | exact ⟨rfl, _, World.drewN_drewN _ _ _⟩ | exact ⟨rfl, _, Eq.trans (World.drewN_drewN _ _ _) (congrArg (World.drewN _) (Nat.add_assoc _ _ _))⟩))); try go_wp2_with (first | (go_at_call 33; (with_reducible refine (spec_orderInts.calls (a0.size : Int) (a1.size : Int) t248 _ A6.out).mono ?_); rintro e w' ⟨rfl, ⟨nd, rfl⟩⟩; (try first | exact ⟨rfl, _, World.drewN_drewN _ _ _⟩ | exact ⟨rfl, _, Eq.trans (World.drewN_drewN _ _ _) (congrArg (World.drewN _) (Nat.add_assoc _ _ _))⟩))))
        go_ret
        exact ⟨by first | rfl | (simp; done) | (simp [*]; done), by repeat (first | exact Drawn0.refl _ | apply Drawn0.step)⟩
      · replace c5 := Bool.eq_false_iff.mpr c5
        subst c5
        have H1 : (spec_RedHatParts.l0 kj2 a0 a1) = some r := by rw [if_neg (show ¬ (false = true) by decide)] at H; exact H
        clear H
        have H := H1
        clear H1
        have H' := Aside0.mk H
        clear H
        go_wp2
        repeat (go_quiet (fail); try go_wp2)
        go_loopg [0, 1] kj2 (fun kq v0 v1 w' => ∃ (x0_2 : ByteArray) (x1_2 : ByteArray), v0 = .string x0_2 ∧ v1 = .string x1_2 ∧ Aside0 (spec_RedHatParts.l0 kq x0_2 x1_2 = some r) ∧ Aside0 (kq ≤ kj2) ∧ Drawn0 w w')
        case atStart => exact ⟨(a0), (a1), (by first | rfl | (simp; done) | (simp [*]; done)), (by first | rfl | (simp; done) | (simp [*]; done)), H', ⟨Nat.le_refl _⟩, by repeat (first | exact Drawn0.refl _ | apply Drawn0.step)⟩
        case round =>
          clear H'
          try clear c2
          try clear p2
          try clear c4
          try clear c4b0
          try clear c4b1
          try clear c5
          try clear p2
          obtain ⟨x0_2, x1_2, rfl, rfl, HA, HK2, ⟨m2, rfl⟩⟩ := hrel
          cases gk with
          | zero => exact absurd HA.out (by simp [spec_RedHatParts.l0])
          | succ k2 =>
            have H := HA.out
            clear HA
            simp only [spec_RedHatParts.l0] at H
            replace H := Option.bind_eq_some_iff.mp H
            obtain ⟨t249, A70, H⟩ := H
            replace H : ((spec_rpmSkip.f k2 x1_2).bind fun t250 => ((spec_rpmMark.f t249).bind fun t251 => ((spec_rpmMark.f t250).bind fun t252 => ((spec_orderInts.f t251 t252).bind fun t253 => (if t253 = 0 then (spec_RedHatParts.j2 k2 t249 t250 t251 t253 (t251 == 0)) else (spec_RedHatParts.j2 k2 t249 t250 t251 t253 true)))))) = some r := H
            have A7 := Aside0.mk A70
            clear A70
            replace H := Option.bind_eq_some_iff.mp H
            obtain ⟨t250, A80, H⟩ := H
            replace H : ((spec_rpmMark.f t249).bind fun t251 => ((spec_rpmMark.f t250).bind fun t252 => ((spec_orderInts.f t251 t252).bind fun t253 => (if t253 = 0 then (spec_RedHatParts.j2 k2 t249 t250 t251 t253 (t251 == 0)) else (spec_RedHatParts.j2 k2 t249 t250 t251 t253 true))))) = some r := H
            have A8 := Aside0.mk A80
            clear A80
            replace H := Option.bind_eq_some_iff.mp H
            obtain ⟨t251, A90, H⟩ := H
            replace H : ((spec_rpmMark.f t250).bind fun t252 => ((spec_orderInts.f t251 t252).bind fun t253 => (if t253 = 0 then (spec_RedHatParts.j2 k2 t249 t250 t251 t253 (t251 == 0)) else (spec_RedHatParts.j2 k2 t249 t250 t251 t253 true)))) = some r := H
            have A9 := Aside0.mk A90
            clear A90
            replace H := Option.bind_eq_some_iff.mp H
            obtain ⟨t252, A100, H⟩ := H
            replace H : ((spec_orderInts.f t251 t252).bind fun t253 => (if t253 = 0 then (spec_RedHatParts.j2 k2 t249 t250 t251 t253 (t251 == 0)) else (spec_RedHatParts.j2 k2 t249 t250 t251 t253 true))) = some r := H
            have A10 := Aside0.mk A100
            clear A100
            replace H := Option.bind_eq_some_iff.mp H
            obtain ⟨t253, A110, H⟩ := H
            replace H : (if t253 = 0 then (spec_RedHatParts.j2 k2 t249 t250 t251 t253 (t251 == 0)) else (spec_RedHatParts.j2 k2 t249 t250 t251 t253 true)) = some r := H
            have A11 := Aside0.mk A110
            clear A110
            have HC12 := Aside0.mk H
            clear H
            go_upto_region 9 with (first | (go_at_call 40; (with_reducible refine (spec_rpmSkip.calls k2 x0_2 t249 _ A7.out).mono ?_); rintro e w' ⟨rfl, ⟨nd, rfl⟩⟩; (try first | exact ⟨rfl, _, World.drewN_drewN _ _ _⟩ | exact ⟨rfl, _, Eq.trans (World.drewN_drewN _ _ _) (congrArg (World.drewN _) (Nat.add_assoc _ _ _))⟩)) | (go_at_call 40; (with_reducible refine (spec_rpmSkip.calls k2 x1_2 t250 _ A8.out).mono ?_); rintro e w' ⟨rfl, ⟨nd, rfl⟩⟩; (try first | exact ⟨rfl, _, World.drewN_drewN _ _ _⟩ | exact ⟨rfl, _, Eq.trans (World.drewN_drewN _ _ _) (congrArg (World.drewN _) (Nat.add_assoc _ _ _))⟩)) | (go_at_call 41; (with_reducible refine (spec_rpmMark.calls t249 t251 _ A9.out).mono ?_); rintro e w' ⟨rfl, ⟨nd, rfl⟩⟩; (try first | exact ⟨rfl, _, World.drewN_drewN _ _ _⟩ | exact ⟨rfl, _, Eq.trans (World.drewN_drewN _ _ _) (congrArg (World.drewN _) (Nat.add_assoc _ _ _))⟩)) | (go_at_call 41; (with_reducible refine (spec_rpmMark.calls t250 t252 _ A10.out).mono ?_); rintro e w' ⟨rfl, ⟨nd, rfl⟩⟩; (try first | exact ⟨rfl, _, World.drewN_drewN _ _ _⟩ | exact ⟨rfl, _, Eq.trans (World.drewN_drewN _ _ _) (congrArg (World.drewN _) (Nat.add_assoc _ _ _))⟩)) | (go_at_call 33; (with_reducible refine (spec_orderInts.calls t251 t252 t253 _ A11.out).mono ?_); rintro e w' ⟨rfl, ⟨nd, rfl⟩⟩; (try first | exact ⟨rfl, _, World.drewN_drewN _ _ _⟩ | exact ⟨rfl, _, Eq.trans (World.drewN_drewN _ _ _) (congrArg (World.drewN _) (Nat.add_assoc _ _ _))⟩)))
            repeat (go_quiet (first | (go_at_call 40; (with_reducible refine (spec_rpmSkip.calls k2 x0_2 t249 _ A7.out).mono ?_); rintro e w' ⟨rfl, ⟨nd, rfl⟩⟩; (try first | exact ⟨rfl, _, World.drewN_drewN _ _ _⟩ | exact ⟨rfl, _, Eq.trans (World.drewN_drewN _ _ _) (congrArg (World.drewN _) (Nat.add_assoc _ _ _))⟩)) | (go_at_call 40; (with_reducible refine (spec_rpmSkip.calls k2 x1_2 t250 _ A8.out).mono ?_); rintro e w' ⟨rfl, ⟨nd, rfl⟩⟩; (try first | exact ⟨rfl, _, World.drewN_drewN _ _ _⟩ | exact ⟨rfl, _, Eq.trans (World.drewN_drewN _ _ _) (congrArg (World.drewN _) (Nat.add_assoc _ _ _))⟩)) | (go_at_call 41; (with_reducible refine (spec_rpmMark.calls t249 t251 _ A9.out).mono ?_); rintro e w' ⟨rfl, ⟨nd, rfl⟩⟩; (try first | exact ⟨rfl, _, World.drewN_drewN _ _ _⟩ | exact ⟨rfl, _, Eq.trans (World.drewN_drewN _ _ _) (congrArg (World.drewN _) (Nat.add_assoc _ _ _))⟩)) | (go_at_call 41; (with_reducible refine (spec_rpmMark.calls t250 t252 _ A10.out).mono ?_); rintro e w' ⟨rfl, ⟨nd, rfl⟩⟩; (try first | exact ⟨rfl, _, World.drewN_drewN _ _ _⟩ | exact ⟨rfl, _, Eq.trans (World.drewN_drewN _ _ _) (congrArg (World.drewN _) (Nat.add_assoc _ _ _))⟩)) | (go_at_call 33; (with_reducible refine (spec_orderInts.calls t251 t252 t253 _ A11.out).mono ?_); rintro e w' ⟨rfl, ⟨nd, rfl⟩⟩; (try first | exact ⟨rfl, _, World.drewN_drewN _ _ _⟩ | exact ⟨rfl, _, Eq.trans (World.drewN_drewN _ _ _) (congrArg (World.drewN _) (Nat.add_assoc _ _ _))⟩))); go_upto_region 9 with (first | (go_at_call 40; (with_reducible refine (spec_rpmSkip.calls k2 x0_2 t249 _ A7.out).mono ?_); rintro e w' ⟨rfl, ⟨nd, rfl⟩⟩; (try first | exact ⟨rfl, _, World.drewN_drewN _ _ _⟩ | exact ⟨rfl, _, Eq.trans (World.drewN_drewN _ _ _) (congrArg (World.drewN _) (Nat.add_assoc _ _ _))⟩)) | (go_at_call 40; (with_reducible refine (spec_rpmSkip.calls k2 x1_2 t250 _ A8.out).mono ?_); rintro e w' ⟨rfl, ⟨nd, rfl⟩⟩; (try first | exact ⟨rfl, _, World.drewN_drewN _ _ _⟩ | exact ⟨rfl, _, Eq.trans (World.drewN_drewN _ _ _) (congrArg (World.drewN _) (Nat.add_assoc _ _ _))⟩)) | (go_at_call 41; (with_reducible refine (spec_rpmMark.calls t249 t251 _ A9.out).mono ?_); rintro e w' ⟨rfl, ⟨nd, rfl⟩⟩; (try first | exact ⟨rfl, _, World.drewN_drewN _ _ _⟩ | exact ⟨rfl, _, Eq.trans (World.drewN_drewN _ _ _) (congrArg (World.drewN _) (Nat.add_assoc _ _ _))⟩)) | (go_at_call 41; (with_reducible refine (spec_rpmMark.calls t250 t252 _ A10.out).mono ?_); rintro e w' ⟨rfl, ⟨nd, rfl⟩⟩; (try first | exact ⟨rfl, _, World.drewN_drewN _ _ _⟩ | exact ⟨rfl, _, Eq.trans (World.drewN_drewN _ _ _) (congrArg (World.drewN _) (Nat.add_assoc _ _ _))⟩)) | (go_at_call 33; (with_reducible refine (spec_orderInts.calls t251 t252 t253 _ A11.out).mono ?_); rintro e w' ⟨rfl, ⟨nd, rfl⟩⟩; (try first | exact ⟨rfl, _, World.drewN_drewN _ _ _⟩ | exact ⟨rfl, _, Eq.trans (World.drewN_drewN _ _ _) (congrArg (World.drewN _) (Nat.add_assoc _ _ _))⟩))))
            (try simp only [Act.put, List.setIfInBounds_toArray, List.set_cons_zero, List.set_cons_succ])
            go_cut [38] (fun v38 wc => ∃ (kq : Nat) (x38_11 : Bool), v38 = .bool x38_11 ∧ Aside0 (spec_RedHatParts.j2 kq t249 t250 t251 t253 x38_11 = some r) ∧ Aside0 (kq ≤ k2) ∧ Drawn0 w wc)
            case first =>
              have H := HC12.out
              clear HC12
              by_cases c13 : t253 = 0
              · rw [if_pos c13] at H
                have c13b0 : (t253 == 0) = true := beq_iff_eq.mpr c13
                have c13b1 : (t253 != 0) = false := bne_eq_false_iff_eq.mpr c13
                clear c13
                (first | rw [c13b0] | (simp only [i64_w, i32_w]; rw [c13b0]) | skip)
                have H' := Aside0.mk H
                clear H
                go_wp2
                repeat (go_quiet (fail); try go_wp2)
                go_meet
                case rel => exact ⟨_, ((t251 == 0)), (by first | rfl | (simp; done) | (simp [*]; done)), H', ⟨by have := HJ2.out; have := HK2.out; first | omega | exact Nat.le_refl _⟩, by repeat (first | exact Drawn0.refl _ | apply Drawn0.step)⟩
              · rw [if_neg c13] at H
                have c13b0 : (t253 == 0) = false := beq_eq_false_iff_ne.mpr c13
                have c13b1 : (t253 != 0) = true := bne_iff_ne.mpr c13
                (first | rw [c13b0] | (simp only [i64_w, i32_w]; rw [c13b0]) | skip)
                have H' := Aside0.mk H
                clear H
                go_wp2
                repeat (go_quiet (fail); try go_wp2)
                go_meet
                case rel => exact ⟨_, (true), (by first | rfl | (simp; done) | (simp [*]; done)), H', ⟨by have := HJ2.out; have := HK2.out; first | omega | exact Nat.le_refl _⟩, by repeat (first | exact Drawn0.refl _ | apply Drawn0.step)⟩
            case rest =>
              clear HC12
              try clear c1
              try clear c2
              try clear p2
              try clear c4
              try clear c4b0
              try clear c4b1
              try clear c5
              try clear c13
              try clear c13b0
              try clear c13b1
              try clear p2
              obtain ⟨kq, x38_11, rfl, HA, HJ11, ⟨mc11, rfl⟩⟩ := hcut
              cases kq with
              | zero => exact absurd HA.out (by simp [spec_RedHatParts.j2])
              | succ kj11 =>
                have H := HA.out
                clear HA
                simp only [spec_RedHatParts.j2] at H
                by_cases c14 : x38_11 = true
                · subst c14
                  have H1 : (some t253) = some r := by rw [if_pos rfl] at H; exact H
                  clear H
                  have H := H1
                  clear H1
                  obtain rfl := Option.some.inj H
                  go_wp2
                  repeat (go_quiet (fail); try go_wp2)
                  go_ret
                  exact ⟨by first | rfl | (simp; done) | (simp [*]; done), by repeat (first | exact Drawn0.refl _ | apply Drawn0.step)⟩
                · replace c14 := Bool.eq_false_iff.mpr c14
                  subst c14
                  have H1 : (if t251 < 2 then (if 1 ≤ (t249.size : Int) then (if 1 ≤ (t250.size : Int) then (spec_RedHatParts.l0 kj11 (t249.extract 1 t249.size) (t250.extract 1 t250.size)) else (none)) else (none)) else ((spec_rpmRuns.f kj11 t249 t250).bind fun bt254 => (if bt254.1 = 0 then (spec_RedHatParts.l0 kj11 bt254.2.1 bt254.2.2) else (some bt254.1)))) = some r := by rw [if_neg (show ¬ (false = true) by decide)] at H; exact H
                  clear H
                  have H := H1
                  clear H1
                  by_cases c15 : t251 < 2
                  · rw [if_pos c15] at H
                    have c15b0 : decide (t251 < 2) = true := decide_eq_true c15
                    clear c15
                    by_cases c16 : 1 ≤ (t249.size : Int)
                    · rw [if_pos c16] at H
                      have c16b0 := eq_true c16
                      have c16b1 : decide (1 ≤ (t249.size : Int)) = true := decide_eq_true c16
                      clear c16
                      by_cases c17 : 1 ≤ (t250.size : Int)
                      · rw [if_pos c17] at H
                        have c17b0 := eq_true c17
                        have c17b1 : decide (1 ≤ (t250.size : Int)) = true := decide_eq_true c17
                        clear c17
                        have H' := Aside0.mk H
                        clear H
                        go_wp2
                        repeat (go_quiet (fail); try go_wp2)
                        go_roundg kj11
                        case measure => have := HJ2.out; have := HK2.out; have := HJ11.out; omega
                        case rel => exact ⟨(t249.extract 1 t249.size), (t250.extract 1 t250.size), (by first | rfl | (simp; done) | (simp [*]; done)), (by first | rfl | (simp; done) | (simp [*]; done)), H', ⟨by have := HJ2.out; have := HK2.out; have := HJ11.out; omega⟩, by repeat (first | exact Drawn0.refl _ | apply Drawn0.step)⟩
                      · rw [if_neg c17] at H
                        exact absurd H (by simp)
                    · rw [if_neg c16] at H
                      exact absurd H (by simp)
                  · rw [if_neg c15] at H
                    have c15b0 : decide (t251 < 2) = false := decide_eq_false c15
                    clear c15
                    replace H := Option.bind_eq_some_iff.mp H
                    obtain ⟨⟨t254, t255, t256⟩, A180, H⟩ := H
                    replace H : (if t254 = 0 then (spec_RedHatParts.l0 kj11 t255 t256) else (some t254)) = some r := H
                    have A18 := Aside0.mk A180
                    clear A180
                    by_cases c19 : t254 = 0
                    · rw [if_pos c19] at H
                      have c19b0 : (t254 == 0) = true := beq_iff_eq.mpr c19
                      have c19b1 : (t254 != 0) = false := bne_eq_false_iff_eq.mpr c19
                      clear c19
                      have H' := Aside0.mk H
                      clear H
                      go_wp2_with (first | (go_at_call 42; (with_reducible refine (spec_rpmRuns.calls kj11 t249 t250 t254 t255 t256 _ A18.out).mono ?_); rintro e w' ⟨rfl, ⟨nd, rfl⟩⟩; (try first | exact ⟨rfl, _, World.drewN_drewN _ _ _⟩ | exact ⟨rfl, _, Eq.trans (World.drewN_drewN _ _ _) (congrArg (World.drewN _) (Nat.add_assoc _ _ _))⟩)))
                      repeat (go_quiet (first | (go_at_call 42; (with_reducible refine (spec_rpmRuns.calls kj11 t249 t250 t254 t255 t256 _ A18.out).mono ?_); rintro e w' ⟨rfl, ⟨nd, rfl⟩⟩; (try first | exact ⟨rfl, _, World.drewN_drewN _ _ _⟩ | exact ⟨rfl, _, Eq.trans (World.drewN_drewN _ _ _) (congrArg (World.drewN _) (Nat.add_assoc _ _ _))⟩))); try go_wp2_with (first | (go_at_call 42; (with_reducible refine (spec_rpmRuns.calls kj11 t249 t250 t254 t255 t256 _ A18.out).mono ?_); rintro e w' ⟨rfl, ⟨nd, rfl⟩⟩; (try first | exact ⟨rfl, _, World.drewN_drewN _ _ _⟩ | exact ⟨rfl, _, Eq.trans (World.drewN_drewN _ _ _) (congrArg (World.drewN _) (Nat.add_assoc _ _ _))⟩))))
                      go_roundg kj11
                      case measure => have := HJ2.out; have := HK2.out; have := HJ11.out; omega
                      case rel => exact ⟨(t255), (t256), (by first | rfl | (simp; done) | (simp [*]; done)), (by first | rfl | (simp; done) | (simp [*]; done)), H', ⟨by have := HJ2.out; have := HK2.out; have := HJ11.out; omega⟩, by repeat (first | exact Drawn0.refl _ | apply Drawn0.step)⟩
                    · rw [if_neg c19] at H
                      have c19b0 : (t254 == 0) = false := beq_eq_false_iff_ne.mpr c19
                      have c19b1 : (t254 != 0) = true := bne_iff_ne.mpr c19
                      obtain rfl := Option.some.inj H
                      go_wp2_with (first | (go_at_call 42; (with_reducible refine (spec_rpmRuns.calls kj11 t249 t250 t254 t255 t256 _ A18.out).mono ?_); rintro e w' ⟨rfl, ⟨nd, rfl⟩⟩; (try first | exact ⟨rfl, _, World.drewN_drewN _ _ _⟩ | exact ⟨rfl, _, Eq.trans (World.drewN_drewN _ _ _) (congrArg (World.drewN _) (Nat.add_assoc _ _ _))⟩)))
                      repeat (go_quiet (first | (go_at_call 42; (with_reducible refine (spec_rpmRuns.calls kj11 t249 t250 t254 t255 t256 _ A18.out).mono ?_); rintro e w' ⟨rfl, ⟨nd, rfl⟩⟩; (try first | exact ⟨rfl, _, World.drewN_drewN _ _ _⟩ | exact ⟨rfl, _, Eq.trans (World.drewN_drewN _ _ _) (congrArg (World.drewN _) (Nat.add_assoc _ _ _))⟩))); try go_wp2_with (first | (go_at_call 42; (with_reducible refine (spec_rpmRuns.calls kj11 t249 t250 t254 t255 t256 _ A18.out).mono ?_); rintro e w' ⟨rfl, ⟨nd, rfl⟩⟩; (try first | exact ⟨rfl, _, World.drewN_drewN _ _ _⟩ | exact ⟨rfl, _, Eq.trans (World.drewN_drewN _ _ _) (congrArg (World.drewN _) (Nat.add_assoc _ _ _))⟩))))
                      go_ret
                      exact ⟨by first | rfl | (simp; done) | (simp [*]; done), by repeat (first | exact Drawn0.refl _ | apply Drawn0.step)⟩

/-! ### spec_RedHatCompare: function 19 -/
def spec_RedHatCompare.f (k : Nat) (a0 : ByteArray) (a1 : ByteArray) : Option (Int × Bool) := (spec_RedHatParse.f k a0).bind fun bt257 => ((spec_RedHatParse.f k a1).bind fun bt260 => ((spec_RedHatParts.f k bt257.1 bt260.1).bind fun t265 => (if t265 = 0 then ((spec_RedHatParts.f k bt257.2.1 bt260.2.1).bind fun t266 => (if t266 = 0 then ((spec_RedHatParts.f k bt257.2.2 bt260.2.2).bind fun t267 => (some (t267, true))) else (some (t266, true)))) else (some (t265, true)))))
theorem spec_RedHatCompare.mono : ∀ a0 a1 k, LeO (spec_RedHatCompare.f k a0 a1) (spec_RedHatCompare.f (k + 1) a0 a1) := by
  intro a0 a1 k
  unfold spec_RedHatCompare.f
  repeat' first
      | (with_reducible exact spec_RedHatParse.mono _ _)
      | (with_reducible exact spec_RedHatParts.mono _ _ _)
      | (with_reducible exact LeO.refl _)
      | (with_reducible exact LeO.none _)
      | (with_reducible refine LeO.ite ?_ ?_)
      | (with_reducible refine LeO.bind ?_ (fun _ => ?_))
      | exact spec_RedHatParse.mono _ _
      | exact spec_RedHatParts.mono _ _ _
      | exact LeO.none _
      | refine LeO.ite ?_ ?_
      | refine LeO.bind ?_ (fun _ => ?_)
set_option maxHeartbeats 8000000 in
set_option maxRecDepth 100000 in
theorem spec_RedHatCompare.calls (k : Nat) (a0 : ByteArray) (a1 : ByteArray) (r1 : Int) (r2 : Bool) (w : World) (h : spec_RedHatCompare.f k a0 a1 = some (r1, r2)) :
    Calls Tryd.prog 19 #[.string a0, .string a1] w fun e w' => e = .returned (.tuple #[.int .i64 r1, .bool r2]) ∧ Below w.heap.size w w' := by
  have hu51 := Tryd.underlying51
  have HB := Aside0.mk (Below.refl w.heap.size w)
  have H : ((spec_RedHatParse.f k a0).bind fun bt257 => ((spec_RedHatParse.f k a1).bind fun bt260 => ((spec_RedHatParts.f k bt257.1 bt260.1).bind fun t265 => (if t265 = 0 then ((spec_RedHatParts.f k bt257.2.1 bt260.2.1).bind fun t266 => (if t266 = 0 then ((spec_RedHatParts.f k bt257.2.2 bt260.2.2).bind fun t267 => (some (t267, true))) else (some (t266, true)))) else (some (t265, true)))))) = some (r1, r2) := h
  clear h
  replace H := Option.bind_eq_some_iff.mp H
  obtain ⟨⟨t257, t258, t259⟩, A30, H⟩ := H
  replace H : ((spec_RedHatParse.f k a1).bind fun bt260 => ((spec_RedHatParts.f k t257 bt260.1).bind fun t265 => (if t265 = 0 then ((spec_RedHatParts.f k t258 bt260.2.1).bind fun t266 => (if t266 = 0 then ((spec_RedHatParts.f k t259 bt260.2.2).bind fun t267 => (some (t267, true))) else (some (t266, true)))) else (some (t265, true))))) = some (r1, r2) := H
  have A3 := Aside0.mk A30
  clear A30
  replace H := Option.bind_eq_some_iff.mp H
  obtain ⟨⟨t260, t261, t262⟩, A40, H⟩ := H
  replace H : ((spec_RedHatParts.f k t257 t260).bind fun t265 => (if t265 = 0 then ((spec_RedHatParts.f k t258 t261).bind fun t266 => (if t266 = 0 then ((spec_RedHatParts.f k t259 t262).bind fun t267 => (some (t267, true))) else (some (t266, true)))) else (some (t265, true)))) = some (r1, r2) := H
  have A4 := Aside0.mk A40
  clear A40
  replace H := Option.bind_eq_some_iff.mp H
  obtain ⟨t265, A50, H⟩ := H
  replace H : (if t265 = 0 then ((spec_RedHatParts.f k t258 t261).bind fun t266 => (if t266 = 0 then ((spec_RedHatParts.f k t259 t262).bind fun t267 => (some (t267, true))) else (some (t266, true)))) else (some (t265, true))) = some (r1, r2) := H
  have A5 := Aside0.mk A50
  clear A50
  by_cases c6 : t265 = 0
  · rw [if_pos c6] at H
    have c6b0 : (t265 == 0) = true := beq_iff_eq.mpr c6
    have c6b1 : (t265 != 0) = false := bne_eq_false_iff_eq.mpr c6
    clear c6
    replace H := Option.bind_eq_some_iff.mp H
    obtain ⟨t266, A70, H⟩ := H
    replace H : (if t266 = 0 then ((spec_RedHatParts.f k t259 t262).bind fun t267 => (some (t267, true))) else (some (t266, true))) = some (r1, r2) := H
    have A7 := Aside0.mk A70
    clear A70
    by_cases c8 : t266 = 0
    · rw [if_pos c8] at H
      have c8b0 : (t266 == 0) = true := beq_iff_eq.mpr c8
      have c8b1 : (t266 != 0) = false := bne_eq_false_iff_eq.mpr c8
      clear c8
      replace H := Option.bind_eq_some_iff.mp H
      obtain ⟨t267, A90, H⟩ := H
      replace H : (some (t267, true)) = some (r1, r2) := H
      have A9 := Aside0.mk A90
      clear A90
      simp only [Option.some.injEq, Prod.mk.injEq] at H
      obtain ⟨rfl, rfl⟩ := H
      go_enter Tryd.func19, Tryd.ntmps19
      go_wp2_with (first | ((with_reducible refine gate_callee (f := 28) rfl ?_); refine goesL_ (some 9) rfl rfl Tryd.func28 (by kernel_rfl) rfl #[.string a0] rfl (by (try simp only [List.map_toArray, List.map_cons, List.map_nil]); first | done | rfl | (simp only [List.length_drop, List.length_take]; rfl)) ?_; (with_reducible refine (spec_RedHatParse.calls k a0 t257 t258 t259 _ A3.out).mono ?_); rintro e w10 ⟨rfl, hb⟩; refine ⟨_, rfl, ?_⟩; have n0_ := Aside0.mk (below_step (by repeat (first | (with_reducible first | exact HB.out | apply below_alloc | apply pw_below_drewN | apply below_drew1) | exact HB.out)) hb); clear HB; have HB := n0_; clear n0_; (try clear hb); (try clear hb2); (try clear hk); (try clear hi)) | ((with_reducible refine gate_callee (f := 28) rfl ?_); refine goesL_ (some 11) rfl rfl Tryd.func28 (by kernel_rfl) rfl #[.string a1] rfl (by (try simp only [List.map_toArray, List.map_cons, List.map_nil]); first | done | rfl | (simp only [List.length_drop, List.length_take]; rfl)) ?_; (with_reducible refine (spec_RedHatParse.calls k a1 t260 t261 t262 _ A4.out).mono ?_); rintro e w11 ⟨rfl, hb⟩; refine ⟨_, rfl, ?_⟩; have n0_ := Aside0.mk (below_step (by repeat (first | (with_reducible first | exact HB.out | apply below_alloc | apply pw_below_drewN | apply below_drew1) | exact HB.out)) hb); clear HB; have HB := n0_; clear n0_; (try clear hb); (try clear hb2); (try clear hk); (try clear hi)) | ((with_reducible refine gate_dst (N := 6) rfl ?_); refine box_event ?hg (N := 6) ?hd (cs := #[.string (⟨#[]⟩ : ByteArray), .string (⟨#[]⟩ : ByteArray), .string (⟨#[]⟩ : ByteArray)]) (t := 51) ?hr ?_; (case hd => rfl); (case hg => rfl); (case hr => first | (go_simp; done) | (go_simp; rfl)); intro gb263 hg w12 hbox hb; have n0_ := Aside0.mk (below_step (by repeat (first | (with_reducible first | exact HB.out | apply below_alloc | apply pw_below_drewN | apply below_drew1) | exact HB.out)) hb); have n1_ := Aside0.mk (hbox); have n2_ := Aside0.mk ((by rw [hg]; exact (below_size (by repeat (first | (with_reducible first | exact HB.out | apply below_alloc | apply pw_below_drewN | apply below_drew1) | exact HB.out))) : w.heap.size ≤ gb263)); have n3_ := Aside0.mk ((by rw [hg]; exact (below_size (by repeat (first | (with_reducible first | exact HB.out | apply below_alloc | apply pw_below_drewN | apply below_drew1) | exact HB.out))) : w.heap.size ≤ gb263)); clear HB; have HB := n0_; have BK263 := n1_; have GW263 := n2_; have GE263 := n3_; clear n0_ n1_ n2_ n3_; clear hb hbox hg) | ((with_reducible refine gate_dst (N := 7) rfl ?_); refine box_event ?hg (N := 7) ?hd (cs := #[.string (⟨#[]⟩ : ByteArray), .string (⟨#[]⟩ : ByteArray), .string (⟨#[]⟩ : ByteArray)]) (t := 51) ?hr ?_; (case hd => rfl); (case hg => rfl); (case hr => first | (go_simp; done) | (go_simp; rfl)); intro gb264 hg w13 hbox hb; have n0_ := Aside0.mk (blk_below (g := gb263) (o := .cells #[.string (⟨#[]⟩ : ByteArray), .string (⟨#[]⟩ : ByteArray), .string (⟨#[]⟩ : ByteArray)] 51 (0, 0)) (by (with_reducible repeat (first | refine blk_drewN ?_ _ | refine blk_drew ?_ | refine blk_alloc ?_ _)); exact BK263.out) hb); have n1_ := Aside0.mk (below_step (by repeat (first | (with_reducible first | exact HB.out | apply below_alloc | apply pw_below_drewN | apply below_drew1 | refine below_set ?_ GE263.out) | exact HB.out)) hb); have n2_ := Aside0.mk (hbox); have n3_ := Aside0.mk ((by rw [hg]; exact (below_size (by repeat (first | (with_reducible first | exact HB.out | apply below_alloc | apply pw_below_drewN | apply below_drew1 | refine below_set ?_ GE263.out) | exact HB.out))) : w.heap.size ≤ gb264)); have n4_ := Aside0.mk ((by rw [hg]; exact (below_size (by repeat (first | (with_reducible first | exact HB.out | apply below_alloc | apply pw_below_drewN | apply below_drew1 | refine below_set ?_ GE263.out) | exact HB.out))) : w.heap.size ≤ gb264)); have n5_ := Aside0.mk ((by rw [hg]; exact Nat.ne_of_lt (blk_lt (g := gb263) (o := .cells #[.string (⟨#[]⟩ : ByteArray), .string (⟨#[]⟩ : ByteArray), .string (⟨#[]⟩ : ByteArray)] 51 (0, 0)) (by (with_reducible repeat (first | refine blk_drewN ?_ _ | refine blk_drew ?_ | refine blk_alloc ?_ _)); exact BK263.out)) : gb263 ≠ gb264)); have n6_ := Aside0.mk ((by rw [hg]; exact Nat.ne_of_gt (blk_lt (g := gb263) (o := .cells #[.string (⟨#[]⟩ : ByteArray), .string (⟨#[]⟩ : ByteArray), .string (⟨#[]⟩ : ByteArray)] 51 (0, 0)) (by (with_reducible repeat (first | refine blk_drewN ?_ _ | refine blk_drew ?_ | refine blk_alloc ?_ _)); exact BK263.out)) : gb264 ≠ gb263)); clear BK263; clear HB; have BK263 := n0_; have HB := n1_; have BK264 := n2_; have GW264 := n3_; have GE264 := n4_; have NB263_264 := n5_; have NB264_263 := n6_; clear n0_ n1_ n2_ n3_ n4_ n5_ n6_; clear hb hbox hg; have hnb14 := NB263_264.out; have hnc14 := NB264_263.out; have hcz15_0 : w13.cell? ⟨gb263, 0, none⟩ = some (.string (⟨#[]⟩ : ByteArray)) := (blk_cell BK263.out 0).trans rfl; have hcz15_1 : w13.cell? ⟨gb263, 1, none⟩ = some (.string (⟨#[]⟩ : ByteArray)) := (blk_cell BK263.out 1).trans rfl; have hcz15_2 : w13.cell? ⟨gb263, 2, none⟩ = some (.string (⟨#[]⟩ : ByteArray)) := (blk_cell BK263.out 2).trans rfl; have hfz15_0 := blk_frozen BK263.out 0; have hfz15_1 := blk_frozen BK263.out 1; have hfz15_2 := blk_frozen BK263.out 2; have hcz16_0 : w13.cell? ⟨gb264, 0, none⟩ = some (.string (⟨#[]⟩ : ByteArray)) := (blk_cell BK264.out 0).trans rfl; have hcz16_1 : w13.cell? ⟨gb264, 1, none⟩ = some (.string (⟨#[]⟩ : ByteArray)) := (blk_cell BK264.out 1).trans rfl; have hcz16_2 : w13.cell? ⟨gb264, 2, none⟩ = some (.string (⟨#[]⟩ : ByteArray)) := (blk_cell BK264.out 2).trans rfl; have hfz16_0 := blk_frozen BK264.out 0; have hfz16_1 := blk_frozen BK264.out 1; have hfz16_2 := blk_frozen BK264.out 2) | ((with_reducible refine gate_callee (f := 29) rfl ?_); refine goesL_ (some 16) rfl rfl Tryd.func29 (by kernel_rfl) rfl #[.string t257, .string t260] rfl (by (try simp only [List.map_toArray, List.map_cons, List.map_nil]); first | done | rfl | (simp only [List.length_drop, List.length_take]; rfl)) ?_; (with_reducible refine (spec_RedHatParts.calls k t257 t260 t265 _ A5.out).mono ?_); rintro e w' ⟨rfl, ⟨nd, rfl⟩⟩; refine ⟨_, rfl, ?_⟩) | ((with_reducible refine gate_callee (f := 29) rfl ?_); refine goesL_ (some 23) rfl rfl Tryd.func29 (by kernel_rfl) rfl #[.string t258, .string t261] rfl (by (try simp only [List.map_toArray, List.map_cons, List.map_nil]); first | done | rfl | (simp only [List.length_drop, List.length_take]; rfl)) ?_; (with_reducible refine (spec_RedHatParts.calls k t258 t261 t266 _ A7.out).mono ?_); rintro e w' ⟨rfl, ⟨nd, rfl⟩⟩; refine ⟨_, rfl, ?_⟩) | ((with_reducible refine gate_callee (f := 29) rfl ?_); refine goesL_ (some 30) rfl rfl Tryd.func29 (by kernel_rfl) rfl #[.string t259, .string t262] rfl (by (try simp only [List.map_toArray, List.map_cons, List.map_nil]); first | done | rfl | (simp only [List.length_drop, List.length_take]; rfl)) ?_; (with_reducible refine (spec_RedHatParts.calls k t259 t262 t267 _ A9.out).mono ?_); rintro e w' ⟨rfl, ⟨nd, rfl⟩⟩; refine ⟨_, rfl, ?_⟩))
      go_ret2
      exact ⟨by first | rfl | (simp [errW_none, errW_some] <;> rfl) | (simp [*, errW_none, errW_some] <;> rfl), by repeat (first | (with_reducible first | exact HB.out | apply below_alloc | apply pw_below_drewN | apply below_drew1 | refine below_set ?_ GE263.out | refine below_set ?_ GE264.out) | exact HB.out)⟩
    · rw [if_neg c8] at H
      have c8b0 : (t266 == 0) = false := beq_eq_false_iff_ne.mpr c8
      have c8b1 : (t266 != 0) = true := bne_iff_ne.mpr c8
      simp only [Option.some.injEq, Prod.mk.injEq] at H
      obtain ⟨rfl, rfl⟩ := H
      go_enter Tryd.func19, Tryd.ntmps19
      go_wp2_with (first | ((with_reducible refine gate_callee (f := 28) rfl ?_); refine goesL_ (some 9) rfl rfl Tryd.func28 (by kernel_rfl) rfl #[.string a0] rfl (by (try simp only [List.map_toArray, List.map_cons, List.map_nil]); first | done | rfl | (simp only [List.length_drop, List.length_take]; rfl)) ?_; (with_reducible refine (spec_RedHatParse.calls k a0 t257 t258 t259 _ A3.out).mono ?_); rintro e w17 ⟨rfl, hb⟩; refine ⟨_, rfl, ?_⟩; have n0_ := Aside0.mk (below_step (by repeat (first | (with_reducible first | exact HB.out | apply below_alloc | apply pw_below_drewN | apply below_drew1) | exact HB.out)) hb); clear HB; have HB := n0_; clear n0_; (try clear hb); (try clear hb2); (try clear hk); (try clear hi)) | ((with_reducible refine gate_callee (f := 28) rfl ?_); refine goesL_ (some 11) rfl rfl Tryd.func28 (by kernel_rfl) rfl #[.string a1] rfl (by (try simp only [List.map_toArray, List.map_cons, List.map_nil]); first | done | rfl | (simp only [List.length_drop, List.length_take]; rfl)) ?_; (with_reducible refine (spec_RedHatParse.calls k a1 t260 t261 t262 _ A4.out).mono ?_); rintro e w18 ⟨rfl, hb⟩; refine ⟨_, rfl, ?_⟩; have n0_ := Aside0.mk (below_step (by repeat (first | (with_reducible first | exact HB.out | apply below_alloc | apply pw_below_drewN | apply below_drew1) | exact HB.out)) hb); clear HB; have HB := n0_; clear n0_; (try clear hb); (try clear hb2); (try clear hk); (try clear hi)) | ((with_reducible refine gate_dst (N := 6) rfl ?_); refine box_event ?hg (N := 6) ?hd (cs := #[.string (⟨#[]⟩ : ByteArray), .string (⟨#[]⟩ : ByteArray), .string (⟨#[]⟩ : ByteArray)]) (t := 51) ?hr ?_; (case hd => rfl); (case hg => rfl); (case hr => first | (go_simp; done) | (go_simp; rfl)); intro gb263 hg w19 hbox hb; have n0_ := Aside0.mk (below_step (by repeat (first | (with_reducible first | exact HB.out | apply below_alloc | apply pw_below_drewN | apply below_drew1) | exact HB.out)) hb); have n1_ := Aside0.mk (hbox); have n2_ := Aside0.mk ((by rw [hg]; exact (below_size (by repeat (first | (with_reducible first | exact HB.out | apply below_alloc | apply pw_below_drewN | apply below_drew1) | exact HB.out))) : w.heap.size ≤ gb263)); have n3_ := Aside0.mk ((by rw [hg]; exact (below_size (by repeat (first | (with_reducible first | exact HB.out | apply below_alloc | apply pw_below_drewN | apply below_drew1) | exact HB.out))) : w.heap.size ≤ gb263)); clear HB; have HB := n0_; have BK263 := n1_; have GW263 := n2_; have GE263 := n3_; clear n0_ n1_ n2_ n3_; clear hb hbox hg) | ((with_reducible refine gate_dst (N := 7) rfl ?_); refine box_event ?hg (N := 7) ?hd (cs := #[.string (⟨#[]⟩ : ByteArray), .string (⟨#[]⟩ : ByteArray), .string (⟨#[]⟩ : ByteArray)]) (t := 51) ?hr ?_; (case hd => rfl); (case hg => rfl); (case hr => first | (go_simp; done) | (go_simp; rfl)); intro gb264 hg w20 hbox hb; have n0_ := Aside0.mk (blk_below (g := gb263) (o := .cells #[.string (⟨#[]⟩ : ByteArray), .string (⟨#[]⟩ : ByteArray), .string (⟨#[]⟩ : ByteArray)] 51 (0, 0)) (by (with_reducible repeat (first | refine blk_drewN ?_ _ | refine blk_drew ?_ | refine blk_alloc ?_ _)); exact BK263.out) hb); have n1_ := Aside0.mk (below_step (by repeat (first | (with_reducible first | exact HB.out | apply below_alloc | apply pw_below_drewN | apply below_drew1 | refine below_set ?_ GE263.out) | exact HB.out)) hb); have n2_ := Aside0.mk (hbox); have n3_ := Aside0.mk ((by rw [hg]; exact (below_size (by repeat (first | (with_reducible first | exact HB.out | apply below_alloc | apply pw_below_drewN | apply below_drew1 | refine below_set ?_ GE263.out) | exact HB.out))) : w.heap.size ≤ gb264)); have n4_ := Aside0.mk ((by rw [hg]; exact (below_size (by repeat (first | (with_reducible first | exact HB.out | apply below_alloc | apply pw_below_drewN | apply below_drew1 | refine below_set ?_ GE263.out) | exact HB.out))) : w.heap.size ≤ gb264)); have n5_ := Aside0.mk ((by rw [hg]; exact Nat.ne_of_lt (blk_lt (g := gb263) (o := .cells #[.string (⟨#[]⟩ : ByteArray), .string (⟨#[]⟩ : ByteArray), .string (⟨#[]⟩ : ByteArray)] 51 (0, 0)) (by (with_reducible repeat (first | refine blk_drewN ?_ _ | refine blk_drew ?_ | refine blk_alloc ?_ _)); exact BK263.out)) : gb263 ≠ gb264)); have n6_ := Aside0.mk ((by rw [hg]; exact Nat.ne_of_gt (blk_lt (g := gb263) (o := .cells #[.string (⟨#[]⟩ : ByteArray), .string (⟨#[]⟩ : ByteArray), .string (⟨#[]⟩ : ByteArray)] 51 (0, 0)) (by (with_reducible repeat (first | refine blk_drewN ?_ _ | refine blk_drew ?_ | refine blk_alloc ?_ _)); exact BK263.out)) : gb264 ≠ gb263)); clear BK263; clear HB; have BK263 := n0_; have HB := n1_; have BK264 := n2_; have GW264 := n3_; have GE264 := n4_; have NB263_264 := n5_; have NB264_263 := n6_; clear n0_ n1_ n2_ n3_ n4_ n5_ n6_; clear hb hbox hg; have hnb21 := NB263_264.out; have hnc21 := NB264_263.out; have hcz22_0 : w20.cell? ⟨gb263, 0, none⟩ = some (.string (⟨#[]⟩ : ByteArray)) := (blk_cell BK263.out 0).trans rfl; have hcz22_1 : w20.cell? ⟨gb263, 1, none⟩ = some (.string (⟨#[]⟩ : ByteArray)) := (blk_cell BK263.out 1).trans rfl; have hcz22_2 : w20.cell? ⟨gb263, 2, none⟩ = some (.string (⟨#[]⟩ : ByteArray)) := (blk_cell BK263.out 2).trans rfl; have hfz22_0 := blk_frozen BK263.out 0; have hfz22_1 := blk_frozen BK263.out 1; have hfz22_2 := blk_frozen BK263.out 2; have hcz23_0 : w20.cell? ⟨gb264, 0, none⟩ = some (.string (⟨#[]⟩ : ByteArray)) := (blk_cell BK264.out 0).trans rfl; have hcz23_1 : w20.cell? ⟨gb264, 1, none⟩ = some (.string (⟨#[]⟩ : ByteArray)) := (blk_cell BK264.out 1).trans rfl; have hcz23_2 : w20.cell? ⟨gb264, 2, none⟩ = some (.string (⟨#[]⟩ : ByteArray)) := (blk_cell BK264.out 2).trans rfl; have hfz23_0 := blk_frozen BK264.out 0; have hfz23_1 := blk_frozen BK264.out 1; have hfz23_2 := blk_frozen BK264.out 2) | ((with_reducible refine gate_callee (f := 29) rfl ?_); refine goesL_ (some 16) rfl rfl Tryd.func29 (by kernel_rfl) rfl #[.string t257, .string t260] rfl (by (try simp only [List.map_toArray, List.map_cons, List.map_nil]); first | done | rfl | (simp only [List.length_drop, List.length_take]; rfl)) ?_; (with_reducible refine (spec_RedHatParts.calls k t257 t260 t265 _ A5.out).mono ?_); rintro e w' ⟨rfl, ⟨nd, rfl⟩⟩; refine ⟨_, rfl, ?_⟩) | ((with_reducible refine gate_callee (f := 29) rfl ?_); refine goesL_ (some 23) rfl rfl Tryd.func29 (by kernel_rfl) rfl #[.string t258, .string t261] rfl (by (try simp only [List.map_toArray, List.map_cons, List.map_nil]); first | done | rfl | (simp only [List.length_drop, List.length_take]; rfl)) ?_; (with_reducible refine (spec_RedHatParts.calls k t258 t261 t266 _ A7.out).mono ?_); rintro e w' ⟨rfl, ⟨nd, rfl⟩⟩; refine ⟨_, rfl, ?_⟩))
      go_ret2
      exact ⟨by first | rfl | (simp [errW_none, errW_some] <;> rfl) | (simp [*, errW_none, errW_some] <;> rfl), by repeat (first | (with_reducible first | exact HB.out | apply below_alloc | apply pw_below_drewN | apply below_drew1 | refine below_set ?_ GE263.out | refine below_set ?_ GE264.out) | exact HB.out)⟩
  · rw [if_neg c6] at H
    have c6b0 : (t265 == 0) = false := beq_eq_false_iff_ne.mpr c6
    have c6b1 : (t265 != 0) = true := bne_iff_ne.mpr c6
    simp only [Option.some.injEq, Prod.mk.injEq] at H
    obtain ⟨rfl, rfl⟩ := H
    go_enter Tryd.func19, Tryd.ntmps19
    go_wp2_with (first | ((with_reducible refine gate_callee (f := 28) rfl ?_); refine goesL_ (some 9) rfl rfl Tryd.func28 (by kernel_rfl) rfl #[.string a0] rfl (by (try simp only [List.map_toArray, List.map_cons, List.map_nil]); first | done | rfl | (simp only [List.length_drop, List.length_take]; rfl)) ?_; (with_reducible refine (spec_RedHatParse.calls k a0 t257 t258 t259 _ A3.out).mono ?_); rintro e w24 ⟨rfl, hb⟩; refine ⟨_, rfl, ?_⟩; have n0_ := Aside0.mk (below_step (by repeat (first | (with_reducible first | exact HB.out | apply below_alloc | apply pw_below_drewN | apply below_drew1) | exact HB.out)) hb); clear HB; have HB := n0_; clear n0_; (try clear hb); (try clear hb2); (try clear hk); (try clear hi)) | ((with_reducible refine gate_callee (f := 28) rfl ?_); refine goesL_ (some 11) rfl rfl Tryd.func28 (by kernel_rfl) rfl #[.string a1] rfl (by (try simp only [List.map_toArray, List.map_cons, List.map_nil]); first | done | rfl | (simp only [List.length_drop, List.length_take]; rfl)) ?_; (with_reducible refine (spec_RedHatParse.calls k a1 t260 t261 t262 _ A4.out).mono ?_); rintro e w25 ⟨rfl, hb⟩; refine ⟨_, rfl, ?_⟩; have n0_ := Aside0.mk (below_step (by repeat (first | (with_reducible first | exact HB.out | apply below_alloc | apply pw_below_drewN | apply below_drew1) | exact HB.out)) hb); clear HB; have HB := n0_; clear n0_; (try clear hb); (try clear hb2); (try clear hk); (try clear hi)) | ((with_reducible refine gate_dst (N := 6) rfl ?_); refine box_event ?hg (N := 6) ?hd (cs := #[.string (⟨#[]⟩ : ByteArray), .string (⟨#[]⟩ : ByteArray), .string (⟨#[]⟩ : ByteArray)]) (t := 51) ?hr ?_; (case hd => rfl); (case hg => rfl); (case hr => first | (go_simp; done) | (go_simp; rfl)); intro gb263 hg w26 hbox hb; have n0_ := Aside0.mk (below_step (by repeat (first | (with_reducible first | exact HB.out | apply below_alloc | apply pw_below_drewN | apply below_drew1) | exact HB.out)) hb); have n1_ := Aside0.mk (hbox); have n2_ := Aside0.mk ((by rw [hg]; exact (below_size (by repeat (first | (with_reducible first | exact HB.out | apply below_alloc | apply pw_below_drewN | apply below_drew1) | exact HB.out))) : w.heap.size ≤ gb263)); have n3_ := Aside0.mk ((by rw [hg]; exact (below_size (by repeat (first | (with_reducible first | exact HB.out | apply below_alloc | apply pw_below_drewN | apply below_drew1) | exact HB.out))) : w.heap.size ≤ gb263)); clear HB; have HB := n0_; have BK263 := n1_; have GW263 := n2_; have GE263 := n3_; clear n0_ n1_ n2_ n3_; clear hb hbox hg) | ((with_reducible refine gate_dst (N := 7) rfl ?_); refine box_event ?hg (N := 7) ?hd (cs := #[.string (⟨#[]⟩ : ByteArray), .string (⟨#[]⟩ : ByteArray), .string (⟨#[]⟩ : ByteArray)]) (t := 51) ?hr ?_; (case hd => rfl); (case hg => rfl); (case hr => first | (go_simp; done) | (go_simp; rfl)); intro gb264 hg w27 hbox hb; have n0_ := Aside0.mk (blk_below (g := gb263) (o := .cells #[.string (⟨#[]⟩ : ByteArray), .string (⟨#[]⟩ : ByteArray), .string (⟨#[]⟩ : ByteArray)] 51 (0, 0)) (by (with_reducible repeat (first | refine blk_drewN ?_ _ | refine blk_drew ?_ | refine blk_alloc ?_ _)); exact BK263.out) hb); have n1_ := Aside0.mk (below_step (by repeat (first | (with_reducible first | exact HB.out | apply below_alloc | apply pw_below_drewN | apply below_drew1 | refine below_set ?_ GE263.out) | exact HB.out)) hb); have n2_ := Aside0.mk (hbox); have n3_ := Aside0.mk ((by rw [hg]; exact (below_size (by repeat (first | (with_reducible first | exact HB.out | apply below_alloc | apply pw_below_drewN | apply below_drew1 | refine below_set ?_ GE263.out) | exact HB.out))) : w.heap.size ≤ gb264)); have n4_ := Aside0.mk ((by rw [hg]; exact (below_size (by repeat (first | (with_reducible first | exact HB.out | apply below_alloc | apply pw_below_drewN | apply below_drew1 | refine below_set ?_ GE263.out) | exact HB.out))) : w.heap.size ≤ gb264)); have n5_ := Aside0.mk ((by rw [hg]; exact Nat.ne_of_lt (blk_lt (g := gb263) (o := .cells #[.string (⟨#[]⟩ : ByteArray), .string (⟨#[]⟩ : ByteArray), .string (⟨#[]⟩ : ByteArray)] 51 (0, 0)) (by (with_reducible repeat (first | refine blk_drewN ?_ _ | refine blk_drew ?_ | refine blk_alloc ?_ _)); exact BK263.out)) : gb263 ≠ gb264)); have n6_ := Aside0.mk ((by rw [hg]; exact Nat.ne_of_gt (blk_lt (g := gb263) (o := .cells #[.string (⟨#[]⟩ : ByteArray), .string (⟨#[]⟩ : ByteArray), .string (⟨#[]⟩ : ByteArray)] 51 (0, 0)) (by (with_reducible repeat (first | refine blk_drewN ?_ _ | refine blk_drew ?_ | refine blk_alloc ?_ _)); exact BK263.out)) : gb264 ≠ gb263)); clear BK263; clear HB; have BK263 := n0_; have HB := n1_; have BK264 := n2_; have GW264 := n3_; have GE264 := n4_; have NB263_264 := n5_; have NB264_263 := n6_; clear n0_ n1_ n2_ n3_ n4_ n5_ n6_; clear hb hbox hg; have hnb28 := NB263_264.out; have hnc28 := NB264_263.out; have hcz29_0 : w27.cell? ⟨gb263, 0, none⟩ = some (.string (⟨#[]⟩ : ByteArray)) := (blk_cell BK263.out 0).trans rfl; have hcz29_1 : w27.cell? ⟨gb263, 1, none⟩ = some (.string (⟨#[]⟩ : ByteArray)) := (blk_cell BK263.out 1).trans rfl; have hcz29_2 : w27.cell? ⟨gb263, 2, none⟩ = some (.string (⟨#[]⟩ : ByteArray)) := (blk_cell BK263.out 2).trans rfl; have hfz29_0 := blk_frozen BK263.out 0; have hfz29_1 := blk_frozen BK263.out 1; have hfz29_2 := blk_frozen BK263.out 2; have hcz30_0 : w27.cell? ⟨gb264, 0, none⟩ = some (.string (⟨#[]⟩ : ByteArray)) := (blk_cell BK264.out 0).trans rfl; have hcz30_1 : w27.cell? ⟨gb264, 1, none⟩ = some (.string (⟨#[]⟩ : ByteArray)) := (blk_cell BK264.out 1).trans rfl; have hcz30_2 : w27.cell? ⟨gb264, 2, none⟩ = some (.string (⟨#[]⟩ : ByteArray)) := (blk_cell BK264.out 2).trans rfl; have hfz30_0 := blk_frozen BK264.out 0; have hfz30_1 := blk_frozen BK264.out 1; have hfz30_2 := blk_frozen BK264.out 2) | ((with_reducible refine gate_callee (f := 29) rfl ?_); refine goesL_ (some 16) rfl rfl Tryd.func29 (by kernel_rfl) rfl #[.string t257, .string t260] rfl (by (try simp only [List.map_toArray, List.map_cons, List.map_nil]); first | done | rfl | (simp only [List.length_drop, List.length_take]; rfl)) ?_; (with_reducible refine (spec_RedHatParts.calls k t257 t260 t265 _ A5.out).mono ?_); rintro e w' ⟨rfl, ⟨nd, rfl⟩⟩; refine ⟨_, rfl, ?_⟩))
    go_ret2
    exact ⟨by first | rfl | (simp [errW_none, errW_some] <;> rfl) | (simp [*, errW_none, errW_some] <;> rfl), by repeat (first | (with_reducible first | exact HB.out | apply below_alloc | apply pw_below_drewN | apply below_drew1 | refine below_set ?_ GE263.out | refine below_set ?_ GE264.out) | exact HB.out)⟩

/-! ### semantic_RedHatVersion_CompareStr: function 30 -/
def semantic_RedHatVersion_CompareStr.f (k : Nat) (a0_0 : ByteArray) (a0_1 : ByteArray) (a0_2 : ByteArray) (a1 : ByteArray) : Option (Int × Option Int) := (semantic_ParseRedHatVersion.f k a1).bind fun bt269 => ((semantic_RedHatVersion_compare.f a0_0 a0_1 a0_2 bt269.1 bt269.2.1 bt269.2.2).bind fun t272 => (some (t272, none)))
theorem semantic_RedHatVersion_CompareStr.mono : ∀ a0 a1 a2 a3 k, LeO (semantic_RedHatVersion_CompareStr.f k a0 a1 a2 a3) (semantic_RedHatVersion_CompareStr.f (k + 1) a0 a1 a2 a3) := by
  intro a0 a1 a2 a3 k
  unfold semantic_RedHatVersion_CompareStr.f
  repeat' first
      | (with_reducible exact semantic_ParseRedHatVersion.mono _ _)
      | (with_reducible exact LeO.refl _)
      | (with_reducible exact LeO.none _)
      | (with_reducible refine LeO.ite ?_ ?_)
      | (with_reducible refine LeO.bind ?_ (fun _ => ?_))
      | exact semantic_ParseRedHatVersion.mono _ _
      | exact LeO.none _
      | refine LeO.ite ?_ ?_
      | refine LeO.bind ?_ (fun _ => ?_)
set_option maxHeartbeats 8000000 in
set_option maxRecDepth 100000 in
theorem semantic_RedHatVersion_CompareStr.calls (k : Nat) (a0_0 : ByteArray) (a0_1 : ByteArray) (a0_2 : ByteArray) (a1 : ByteArray) (r1 : Int) (r2 : Option Int) (w : World) (h : semantic_RedHatVersion_CompareStr.f k a0_0 a0_1 a0_2 a1 = some (r1, r2)) :
    Calls Tryd.prog 30 #[.agg #[.string a0_0, .string a0_1, .string a0_2], .string a1] w fun e w' => e = .returned (.tuple #[.int .i64 r1, errW r2]) ∧ Below w.heap.size w w' := by
  have hu47 := Tryd.underlying47
  have HB := Aside0.mk (Below.refl w.heap.size w)
  have H : ((semantic_ParseRedHatVersion.f k a1).bind fun bt269 => ((semantic_RedHatVersion_compare.f a0_0 a0_1 a0_2 bt269.1 bt269.2.1 bt269.2.2).bind fun t272 => (some (t272, none)))) = some (r1, r2) := h
  clear h
  replace H := Option.bind_eq_some_iff.mp H
  obtain ⟨⟨t269, t270, t271⟩, A30, H⟩ := H
  replace H : ((semantic_RedHatVersion_compare.f a0_0 a0_1 a0_2 t269 t270 t271).bind fun t272 => (some (t272, none))) = some (r1, r2) := H
  have A3 := Aside0.mk A30
  clear A30
  replace H := Option.bind_eq_some_iff.mp H
  obtain ⟨t272, A40, H⟩ := H
  replace H : (some (t272, none)) = some (r1, r2) := H
  have A4 := Aside0.mk A40
  clear A40
  simp only [Option.some.injEq, Prod.mk.injEq] at H
  obtain ⟨rfl, rfl⟩ := H
  go_enter Tryd.func30, Tryd.ntmps30
  try go_wp2_with (first | ((with_reducible refine gate_dst (N := 2) rfl ?_); refine box_event ?hg (N := 2) ?hd (cs := #[.string a0_0, .string a0_1, .string a0_2]) (t := 47) ?hr ?_; (case hd => rfl); (case hg => rfl); (case hr => first | (go_simp; done) | (go_simp; rfl)); intro gb268 hg w5 hbox hb; have n0_ := Aside0.mk (below_step (by repeat (first | (with_reducible first | exact HB.out | apply below_alloc | apply pw_below_drewN | apply below_drew1) | exact HB.out)) hb); have n1_ := Aside0.mk (hbox); have n2_ := Aside0.mk ((by rw [hg]; exact (below_size (by repeat (first | (with_reducible first | exact HB.out | apply below_alloc | apply pw_below_drewN | apply below_drew1) | exact HB.out))) : w.heap.size ≤ gb268)); have n3_ := Aside0.mk ((by rw [hg]; exact (below_size (by repeat (first | (with_reducible first | exact HB.out | apply below_alloc | apply pw_below_drewN | apply below_drew1) | exact HB.out))) : w.heap.size ≤ gb268)); clear HB; have HB := n0_; have BK268 := n1_; have GW268 := n2_; have GE268 := n3_; clear n0_ n1_ n2_ n3_; clear hb hbox hg))
  have n0_ := Aside0.mk (blk_drew BK268.out)
  have n1_ := Aside0.mk (below_drew1 HB.out)
  clear BK268
  clear HB
  have BK268 := n0_
  have HB := n1_
  clear n0_ n1_
  refine start_ (n := 6) (S := fun w' => w'.cell? ⟨gb268, 0, none⟩ = some (.string a0_0) ∧ w'.cell? ⟨gb268, 1, none⟩ = some (.string a0_1) ∧ w'.cell? ⟨gb268, 2, none⟩ = some (.string a0_2)) (ds := []) #[false, false, false, false, false, false] (by kernel_rfl) rfl rfl ⟨(blk_cell BK268.out 0).trans rfl, (blk_cell BK268.out 1).trans rfl, (blk_cell BK268.out 2).trans rfl⟩ (fun hHeld => ?_)
  generalize w5.drew = w6 at BK268 HB hHeld ⊢
  refine pure_ (i := 1) (N := some 7) (v := ?_) (a' := ?_) #[false, true, false, false, false, false] rfl rfl (by kernel_rfl) (fun _ _ _ h => h) (Or.inl ⟨by rfl, ?_⟩) ?_ ?_
  rotate_left
  · intro w'
    go_simp
    with_reducible rfl
  rotate_left
  · simp only [Act.put, List.setIfInBounds_toArray, List.set_cons_zero, List.set_cons_succ, i64_w, i32_w]
    rfl
  refine take_ (i := 0) (N := some 6) (v := ?_) (a' := ?_) #[true, true, false, false, false, false] rfl rfl (by kernel_rfl) (fun _ _ _ h => h) (Or.inl ⟨by rfl, ?_⟩) hHeld ?_ ?_
  rotate_left
  · rintro w' ⟨s0, s1, s2⟩
    go_simp
    with_reducible rfl
  rotate_left
  · simp only [Act.put, List.setIfInBounds_toArray, List.set_cons_zero, List.set_cons_succ, i64_w, i32_w]
    rfl
  refine one_ (i := 2) (N := some 8) #[true, true, true, false, false, false] rfl rfl (by kernel_rfl) (by decide) (fun K hK => ?_)
  refine goes_ Tryd.func25 (by kernel_rfl) rfl #[.string a1] (by rfl) rfl rfl (by (try simp only [List.map_toArray, List.map_cons, List.map_nil]); first | done | rfl | (simp only [List.length_drop, List.length_take]; rfl)) ?_
  with_reducible refine (semantic_ParseRedHatVersion.calls k a1 t269 t270 t271 _ A3.out).mono ?_
  rintro e w7 ⟨rfl, hb⟩
  refine ⟨_, rfl, ?_⟩
  have n0_ := Aside0.mk (blk_below (g := gb268) (o := .cells #[.string a0_0, .string a0_1, .string a0_2] 47 (0, 0)) (by (with_reducible repeat (first | refine blk_drewN ?_ _ | refine blk_drew ?_ | refine blk_alloc ?_ _)); exact BK268.out) hb)
  have n1_ := Aside0.mk (below_step (by repeat (first | (with_reducible first | exact HB.out | apply below_alloc | apply pw_below_drewN | apply below_drew1 | refine below_set ?_ GE268.out) | exact HB.out)) hb)
  clear BK268
  clear HB
  have BK268 := n0_
  have HB := n1_
  clear n0_ n1_
  (try clear hb)
  (try clear hb2)
  (try clear hk)
  (try clear hi)
  refine hK.out _ _ ⟨(blk_cell BK268.out 0).trans rfl, (blk_cell BK268.out 1).trans rfl, (blk_cell BK268.out 2).trans rfl⟩ (fun hHeld => ?_)
  clear hK K
  refine norm_ (a' := ?_) ?_ ?_
  rotate_left
  · show Act.put _ (some 8) _ = _
    simp only [Act.put, List.setIfInBounds_toArray, List.set_cons_zero, List.set_cons_succ, i64_w, i32_w]
    rfl
  refine one_ (i := 3) (N := some 9) #[true, true, true, true, false, false] rfl rfl (by kernel_rfl) (by decide) (fun K hK => ?_)
  refine goes_ Tryd.func37 (by kernel_rfl) rfl #[.agg #[.string a0_0, .string a0_1, .string a0_2], .agg #[.string t269, .string t270, .string t271]] (by rfl) rfl rfl (by (try simp only [List.map_toArray, List.map_cons, List.map_nil]); first | done | rfl | (simp only [List.length_drop, List.length_take]; rfl)) ?_
  with_reducible refine (semantic_RedHatVersion_compare.calls a0_0 a0_1 a0_2 t269 t270 t271 t272 _ A4.out).mono ?_
  rintro e w8 ⟨rfl, hb⟩
  refine ⟨_, rfl, ?_⟩
  have n0_ := Aside0.mk (blk_below (g := gb268) (o := .cells #[.string a0_0, .string a0_1, .string a0_2] 47 (0, 0)) (by (with_reducible repeat (first | refine blk_drewN ?_ _ | refine blk_drew ?_ | refine blk_alloc ?_ _)); exact BK268.out) hb)
  have n1_ := Aside0.mk (below_step (by repeat (first | (with_reducible first | exact HB.out | apply below_alloc | apply pw_below_drewN | apply below_drew1 | refine below_set ?_ GE268.out) | exact HB.out)) hb)
  clear BK268
  clear HB
  have BK268 := n0_
  have HB := n1_
  clear n0_ n1_
  (try clear hb)
  (try clear hb2)
  (try clear hk)
  (try clear hi)
  refine hK.out _ _ ⟨(blk_cell BK268.out 0).trans rfl, (blk_cell BK268.out 1).trans rfl, (blk_cell BK268.out 2).trans rfl⟩ (fun hHeld => ?_)
  clear hK K
  refine norm_ (a' := ?_) ?_ ?_
  rotate_left
  · show Act.put _ (some 9) _ = _
    simp only [Act.put, List.setIfInBounds_toArray, List.set_cons_zero, List.set_cons_succ, i64_w, i32_w]
    rfl
  refine pure_ (i := 4) (N := some 4) (v := ?_) (a' := ?_) #[true, true, true, true, true, false] rfl rfl (by kernel_rfl) (fun _ _ _ h => h) (Or.inl ⟨by rfl, ?_⟩) ?_ ?_
  rotate_left
  · intro w'
    go_simp
    with_reducible rfl
  rotate_left
  · simp only [Act.put, List.setIfInBounds_toArray, List.set_cons_zero, List.set_cons_succ, i64_w, i32_w]
    rfl
  refine pure_ (i := 5) (N := some 5) (v := ?_) (a' := ?_) #[true, true, true, true, true, true] rfl rfl (by kernel_rfl) (fun _ _ _ h => h) (Or.inl ⟨by rfl, ?_⟩) ?_ ?_
  rotate_left
  · intro w'
    go_simp
    with_reducible rfl
  rotate_left
  · simp only [Act.put, List.setIfInBounds_toArray, List.set_cons_zero, List.set_cons_succ, i64_w, i32_w]
    rfl
  refine done_ (by kernel_rfl) ?_
  try go_wp2
  go_ret2
  exact ⟨by first | rfl | (simp [errW_none, errW_some] <;> rfl) | (simp [*, errW_none, errW_some] <;> rfl), by repeat (first | (with_reducible first | exact HB.out | apply below_alloc | apply pw_below_drewN | apply below_drew1 | refine below_set ?_ GE268.out) | exact HB.out)⟩

/-! ### impl_RedHatCompareText: function 20 -/
def impl_RedHatCompareText.f (k : Nat) (a0 : ByteArray) (a1 : ByteArray) : Option (Int × Bool) := (semantic_ParseRedHatVersion.f k a0).bind fun bt273 => ((semantic_RedHatVersion_CompareStr.f k bt273.1 bt273.2.1 bt273.2.2 a1).bind fun bt276 => (if bt276.2.isNone = true then (some (bt276.1, true)) else (some (bt276.1, false))))
theorem impl_RedHatCompareText.mono : ∀ a0 a1 k, LeO (impl_RedHatCompareText.f k a0 a1) (impl_RedHatCompareText.f (k + 1) a0 a1) := by
  intro a0 a1 k
  unfold impl_RedHatCompareText.f
  repeat' first
      | (with_reducible exact semantic_ParseRedHatVersion.mono _ _)
      | (with_reducible exact semantic_RedHatVersion_CompareStr.mono _ _ _ _ _)
      | (with_reducible exact LeO.refl _)
      | (with_reducible exact LeO.none _)
      | (with_reducible refine LeO.ite ?_ ?_)
      | (with_reducible refine LeO.bind ?_ (fun _ => ?_))
      | exact semantic_ParseRedHatVersion.mono _ _
      | exact semantic_RedHatVersion_CompareStr.mono _ _ _ _ _
      | exact LeO.none _
      | refine LeO.ite ?_ ?_
      | refine LeO.bind ?_ (fun _ => ?_)
set_option maxHeartbeats 8000000 in
set_option maxRecDepth 100000 in
theorem impl_RedHatCompareText.calls (k : Nat) (a0 : ByteArray) (a1 : ByteArray) (r1 : Int) (r2 : Bool) (w : World) (h : impl_RedHatCompareText.f k a0 a1 = some (r1, r2)) :
    Calls Tryd.prog 20 #[.string a0, .string a1] w fun e w' => e = .returned (.tuple #[.int .i64 r1, .bool r2]) ∧ Below w.heap.size w w' := by
  have hu44 := Tryd.underlying44
  have HB := Aside0.mk (Below.refl w.heap.size w)
  have H : ((semantic_ParseRedHatVersion.f k a0).bind fun bt273 => ((semantic_RedHatVersion_CompareStr.f k bt273.1 bt273.2.1 bt273.2.2 a1).bind fun bt276 => (if bt276.2.isNone = true then (some (bt276.1, true)) else (some (bt276.1, false))))) = some (r1, r2) := h
  clear h
  replace H := Option.bind_eq_some_iff.mp H
  obtain ⟨⟨t273, t274, t275⟩, A30, H⟩ := H
  replace H : ((semantic_RedHatVersion_CompareStr.f k t273 t274 t275 a1).bind fun bt276 => (if bt276.2.isNone = true then (some (bt276.1, true)) else (some (bt276.1, false)))) = some (r1, r2) := H
  have A3 := Aside0.mk A30
  clear A30
  replace H := Option.bind_eq_some_iff.mp H
  obtain ⟨⟨t276, t277⟩, A40, H⟩ := H
  replace H : (if t277.isNone = true then (some (t276, true)) else (some (t276, false))) = some (r1, r2) := H
  have A4 := Aside0.mk A40
  clear A40
  rcases t277 with _ | q278
  · have H1 : (some (t276, true)) = some (r1, r2) := by rw [if_pos (show (none : Option Int).isNone = true by rfl)] at H; exact H
    clear H
    have H := H1
    clear H1
    try simp only [errW_none, errW_some]
    simp only [Option.some.injEq, Prod.mk.injEq] at H
    obtain ⟨rfl, rfl⟩ := H
    go_enter Tryd.func20, Tryd.ntmps20
    go_wp2_with (first | (go_at_call 25; (with_reducible refine (semantic_ParseRedHatVersion.calls k a0 t273 t274 t275 _ A3.out).mono ?_); rintro e w5 ⟨rfl, hb⟩; have n0_ := Aside0.mk (below_step (by repeat (first | (with_reducible first | exact HB.out | apply below_alloc | apply pw_below_drewN | apply below_drew1) | exact HB.out)) hb); clear HB; have HB := n0_; clear n0_; (try clear hb); (try clear hb2); (try clear hk); (try clear hi)) | (go_at_call 30; (with_reducible refine (semantic_RedHatVersion_CompareStr.calls k t273 t274 t275 a1 t276 none _ A4.out).mono ?_); rintro e w6 ⟨rfl, hb⟩; have n0_ := Aside0.mk (below_step (by repeat (first | (with_reducible first | exact HB.out | apply below_alloc | apply pw_below_drewN | apply below_drew1) | exact HB.out)) hb); clear HB; have HB := n0_; clear n0_; (try clear hb); (try clear hb2); (try clear hk); (try clear hi); (try simp only [errW_none, errW_some])))
    repeat (go_quiet (first | (go_at_call 25; (with_reducible refine (semantic_ParseRedHatVersion.calls k a0 t273 t274 t275 _ A3.out).mono ?_); rintro e w5 ⟨rfl, hb⟩; have n0_ := Aside0.mk (below_step (by repeat (first | (with_reducible first | exact HB.out | apply below_alloc | apply pw_below_drewN | apply below_drew1) | exact HB.out)) hb); clear HB; have HB := n0_; clear n0_; (try clear hb); (try clear hb2); (try clear hk); (try clear hi)) | (go_at_call 30; (with_reducible refine (semantic_RedHatVersion_CompareStr.calls k t273 t274 t275 a1 t276 none _ A4.out).mono ?_); rintro e w6 ⟨rfl, hb⟩; have n0_ := Aside0.mk (below_step (by repeat (first | (with_reducible first | exact HB.out | apply below_alloc | apply pw_below_drewN | apply below_drew1) | exact HB.out)) hb); clear HB; have HB := n0_; clear n0_; (try clear hb); (try clear hb2); (try clear hk); (try clear hi); (try simp only [errW_none, errW_some]))); try go_wp2_with (first | (go_at_call 25; (with_reducible refine (semantic_ParseRedHatVersion.calls k a0 t273 t274 t275 _ A3.out).mono ?_); rintro e w5 ⟨rfl, hb⟩; have n0_ := Aside0.mk (below_step (by repeat (first | (with_reducible first | exact HB.out | apply below_alloc | apply pw_below_drewN | apply below_drew1) | exact HB.out)) hb); clear HB; have HB := n0_; clear n0_; (try clear hb); (try clear hb2); (try clear hk); (try clear hi)) | (go_at_call 30; (with_reducible refine (semantic_RedHatVersion_CompareStr.calls k t273 t274 t275 a1 t276 none _ A4.out).mono ?_); rintro e w6 ⟨rfl, hb⟩; have n0_ := Aside0.mk (below_step (by repeat (first | (with_reducible first | exact HB.out | apply below_alloc | apply pw_below_drewN | apply below_drew1) | exact HB.out)) hb); clear HB; have HB := n0_; clear n0_; (try clear hb); (try clear hb2); (try clear hk); (try clear hi); (try simp only [errW_none, errW_some]))))
    go_ret2
    exact ⟨by first | rfl | (simp [errW_none, errW_some] <;> rfl) | (simp [*, errW_none, errW_some] <;> rfl), by repeat (first | (with_reducible first | exact HB.out | apply below_alloc | apply pw_below_drewN | apply below_drew1) | exact HB.out)⟩
  · have H1 : (some (t276, false)) = some (r1, r2) := by rw [if_neg (show ¬ (some q278).isNone = true by simp)] at H; exact H
    clear H
    have H := H1
    clear H1
    try simp only [errW_none, errW_some]
    simp only [Option.some.injEq, Prod.mk.injEq] at H
    obtain ⟨rfl, rfl⟩ := H
    go_enter Tryd.func20, Tryd.ntmps20
    go_wp2_with (first | (go_at_call 25; (with_reducible refine (semantic_ParseRedHatVersion.calls k a0 t273 t274 t275 _ A3.out).mono ?_); rintro e w7 ⟨rfl, hb⟩; have n0_ := Aside0.mk (below_step (by repeat (first | (with_reducible first | exact HB.out | apply below_alloc | apply pw_below_drewN | apply below_drew1) | exact HB.out)) hb); clear HB; have HB := n0_; clear n0_; (try clear hb); (try clear hb2); (try clear hk); (try clear hi)) | (go_at_call 30; (with_reducible refine (semantic_RedHatVersion_CompareStr.calls k t273 t274 t275 a1 t276 (some q278) _ A4.out).mono ?_); rintro e w8 ⟨rfl, hb⟩; have n0_ := Aside0.mk (below_step (by repeat (first | (with_reducible first | exact HB.out | apply below_alloc | apply pw_below_drewN | apply below_drew1) | exact HB.out)) hb); clear HB; have HB := n0_; clear n0_; (try clear hb); (try clear hb2); (try clear hk); (try clear hi); (try simp only [errW_none, errW_some])))
    repeat (go_quiet (first | (go_at_call 25; (with_reducible refine (semantic_ParseRedHatVersion.calls k a0 t273 t274 t275 _ A3.out).mono ?_); rintro e w7 ⟨rfl, hb⟩; have n0_ := Aside0.mk (below_step (by repeat (first | (with_reducible first | exact HB.out | apply below_alloc | apply pw_below_drewN | apply below_drew1) | exact HB.out)) hb); clear HB; have HB := n0_; clear n0_; (try clear hb); (try clear hb2); (try clear hk); (try clear hi)) | (go_at_call 30; (with_reducible refine (semantic_RedHatVersion_CompareStr.calls k t273 t274 t275 a1 t276 (some q278) _ A4.out).mono ?_); rintro e w8 ⟨rfl, hb⟩; have n0_ := Aside0.mk (below_step (by repeat (first | (with_reducible first | exact HB.out | apply below_alloc | apply pw_below_drewN | apply below_drew1) | exact HB.out)) hb); clear HB; have HB := n0_; clear n0_; (try clear hb); (try clear hb2); (try clear hk); (try clear hi); (try simp only [errW_none, errW_some]))); try go_wp2_with (first | (go_at_call 25; (with_reducible refine (semantic_ParseRedHatVersion.calls k a0 t273 t274 t275 _ A3.out).mono ?_); rintro e w7 ⟨rfl, hb⟩; have n0_ := Aside0.mk (below_step (by repeat (first | (with_reducible first | exact HB.out | apply below_alloc | apply pw_below_drewN | apply below_drew1) | exact HB.out)) hb); clear HB; have HB := n0_; clear n0_; (try clear hb); (try clear hb2); (try clear hk); (try clear hi)) | (go_at_call 30; (with_reducible refine (semantic_RedHatVersion_CompareStr.calls k t273 t274 t275 a1 t276 (some q278) _ A4.out).mono ?_); rintro e w8 ⟨rfl, hb⟩; have n0_ := Aside0.mk (below_step (by repeat (first | (with_reducible first | exact HB.out | apply below_alloc | apply pw_below_drewN | apply below_drew1) | exact HB.out)) hb); clear HB; have HB := n0_; clear n0_; (try clear hb); (try clear hb2); (try clear hk); (try clear hi); (try simp only [errW_none, errW_some]))))
    go_ret2
    exact ⟨by first | rfl | (simp [errW_none, errW_some] <;> rfl) | (simp [*, errW_none, errW_some] <;> rfl), by repeat (first | (with_reducible first | exact HB.out | apply below_alloc | apply pw_below_drewN | apply below_drew1) | exact HB.out)⟩

/-! ### laws_turned: function 21 -/
def laws_turned.f (a0 : Int) (a1 : Int) : Option (Bool) := if a0 = (wrap64 (-a1)) then (if a0 ≥ (-1) then (some (decide (a0 ≤ 1))) else (some false)) else (some false)
set_option maxHeartbeats 8000000 in
set_option maxRecDepth 100000 in
theorem laws_turned.calls (a0 : Int) (a1 : Int) (r : Bool) (w : World) (h : laws_turned.f a0 a1 = some r) :
    Calls Tryd.prog 21 #[.int .i64 a0, .int .i64 a1] w fun e w' => e = .returned (.bool r) ∧ Drawn0 w w' := by
  have H : (if a0 = (wrap64 (-a1)) then (if a0 ≥ (-1) then (some (decide (a0 ≤ 1))) else (some false)) else (some false)) = some r := h
  clear h
  by_cases c3 : a0 = (wrap64 (-a1))
  · rw [if_pos c3] at H
    have c3b0 : (a0 == (wrap64 (-a1))) = true := beq_iff_eq.mpr c3
    have c3b1 : (a0 != (wrap64 (-a1))) = false := bne_eq_false_iff_eq.mpr c3
    clear c3
    by_cases c4 : a0 ≥ (-1)
    · rw [if_pos c4] at H
      have c4b0 : decide ((-1) ≤ a0) = true := decide_eq_true c4
      clear c4
      obtain rfl := Option.some.inj H
      go_enter Tryd.func21, Tryd.ntmps21
      go_wp2
      go_ret
      exact ⟨by first | rfl | (simp; done) | (simp [*]; done), by repeat (first | exact Drawn0.refl _ | apply Drawn0.step)⟩
    · rw [if_neg c4] at H
      have c4b0 : decide ((-1) ≤ a0) = false := decide_eq_false c4
      clear c4
      obtain rfl := Option.some.inj H
      go_enter Tryd.func21, Tryd.ntmps21
      go_wp2
      go_ret
      exact ⟨by first | rfl | (simp; done) | (simp [*]; done), by repeat (first | exact Drawn0.refl _ | apply Drawn0.step)⟩
  · rw [if_neg c3] at H
    have c3b0 : (a0 == (wrap64 (-a1))) = false := beq_eq_false_iff_ne.mpr c3
    have c3b1 : (a0 != (wrap64 (-a1))) = true := bne_iff_ne.mpr c3
    obtain rfl := Option.some.inj H
    go_enter Tryd.func21, Tryd.ntmps21
    go_wp2
    go_ret
    exact ⟨by first | rfl | (simp; done) | (simp [*]; done), by repeat (first | exact Drawn0.refl _ | apply Drawn0.step)⟩

end Go.Proofs.YtciojhhncfnagaaDoor.Z
