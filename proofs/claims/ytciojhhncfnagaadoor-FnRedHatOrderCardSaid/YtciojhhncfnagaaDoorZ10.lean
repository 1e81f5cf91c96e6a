-- Written by a program of this session (myprint.py).
import Derived.Test.YtciojhhncfnagaaDoorZ0
import Derived.Test.YtciojhhncfnagaaDoorZ1
import Derived.Test.YtciojhhncfnagaaDoorZ7
import Derived.Test.YtciojhhncfnagaaDoorZ9
import Derived.Test.YtciojhhncfnagaaDoorGe
namespace Go.Proofs.YtciojhhncfnagaaDoor.Z
open Go.RowKit Go.Proofs.YtciojhhncfnagaaDoorW.PrintWords Go.Proofs.YtciojhhncfnagaaDoorW.PrintLast Go.Proofs.YtciojhhncfnagaaDoorW.PrintMore
attribute [local go_sem high] Go.Proofs.YtciojhhncfnagaaDoor.Ge.gtr_str
attribute [local go_sem] max2_int min2_int max_two min_two max_three min_three max_four min_four   -- for this text's walks alone
set_option linter.unusedVariables false
set_option linter.unusedSimpArgs false

/-! ### laws_FnRedHatOrder: function 4 -/
mutual
def laws_FnRedHatOrder.j0 : Nat → ByteArray → ByteArray → ByteArray → Bool → Option (Bool)
  | 0, _, _, _, _ => none
  | k + 1, x0, x1, x2, x27 => if x27 = true then (some true) else ((laws_short.f k (([x0, x1, x2] : List ByteArray))).bind fun t184 => (if t184 = true then ((laws_plain.f k x0 (⟨#[46, 95, 43, 45, 126, 94, 58]⟩ : ByteArray)).bind fun t185 => (if t185 = true then ((laws_plain.f k x1 (⟨#[46, 95, 43, 45, 126, 94, 58]⟩ : ByteArray)).bind fun t186 => (if t186 = true then ((laws_plain.f k x2 (⟨#[46, 95, 43, 45, 126, 94, 58]⟩ : ByteArray)).bind fun t187 => (if t187 = true then ((spec_RedHatKnown.f x0).bind fun t188 => (if t188 = true then ((spec_RedHatKnown.f x1).bind fun t189 => (if t189 = true then ((spec_RedHatKnown.f x2).bind fun t190 => (laws_FnRedHatOrder.j1 k x0 x1 x2 (!t190))) else (laws_FnRedHatOrder.j1 k x0 x1 x2 true))) else (laws_FnRedHatOrder.j1 k x0 x1 x2 true))) else (laws_FnRedHatOrder.j1 k x0 x1 x2 true))) else (laws_FnRedHatOrder.j1 k x0 x1 x2 true))) else (laws_FnRedHatOrder.j1 k x0 x1 x2 true))) else (laws_FnRedHatOrder.j1 k x0 x1 x2 true)))
def laws_FnRedHatOrder.j1 : Nat → ByteArray → ByteArray → ByteArray → Bool → Option (Bool)
  | 0, _, _, _, _ => none
  | k + 1, x0, x1, x2, x63 => if x63 = true then (some true) else ((impl_RedHatCompare.f k x0 x1).bind fun bt191 => ((impl_RedHatCompare.f k x1 x2).bind fun bt193 => ((impl_RedHatCompare.f k x0 x2).bind fun bt195 => ((impl_RedHatCompare.f k x0 x0).bind fun bt197 => (if bt191.2 = true then (if bt193.2 = true then (if bt195.2 = true then (if bt197.2 = true then (if bt197.1 = 0 then ((laws_chained.f k bt191.1 bt193.1 bt195.1).bind fun t199 => (some t199)) else (some false)) else (some false)) else (some false)) else (some false)) else (some false))))))
end
def laws_FnRedHatOrder.f (k : Nat) (a0 : ByteArray) (a1 : ByteArray) (a2 : ByteArray) : Option (Bool) := if (a0.size : Int) > 2147483647 then (laws_FnRedHatOrder.j0 k a0 a1 a2 true) else (if (a1.size : Int) > 2147483647 then (laws_FnRedHatOrder.j0 k a0 a1 a2 true) else (laws_FnRedHatOrder.j0 k a0 a1 a2 (decide ((a2.size : Int) > 2147483647))))
theorem laws_FnRedHatOrder.mono_l : ∀ k, (∀ y0 y1 y2 y3, LeO (laws_FnRedHatOrder.j0 k y0 y1 y2 y3) (laws_FnRedHatOrder.j0 (k + 1) y0 y1 y2 y3)) ∧ (∀ y0 y1 y2 y3, LeO (laws_FnRedHatOrder.j1 k y0 y1 y2 y3) (laws_FnRedHatOrder.j1 (k + 1) y0 y1 y2 y3))
  | 0 => ⟨fun _ _ _ _ r h => by simp [laws_FnRedHatOrder.j0] at h, fun _ _ _ _ r h => by simp [laws_FnRedHatOrder.j1] at h⟩
  | k + 1 => by
    obtain ⟨ih0, ih1⟩ := laws_FnRedHatOrder.mono_l k
    refine ⟨?_, ?_⟩
    · intro y0 y1 y2 y3
      unfold laws_FnRedHatOrder.j0
      repeat' first
      | (with_reducible exact ih0 _ _ _ _)
      | (with_reducible exact ih1 _ _ _ _)
      | (with_reducible exact impl_RedHatCompare.mono _ _ _)
      | (with_reducible exact laws_chained.mono _ _ _ _)
      | (with_reducible exact laws_plain.mono _ _ _)
      | (with_reducible exact laws_short.mono _ _)
      | (with_reducible exact LeO.refl _)
      | (with_reducible exact LeO.none _)
      | (with_reducible refine LeO.ite ?_ ?_)
      | (with_reducible refine LeO.bind ?_ (fun _ => ?_))
      | exact ih0 _ _ _ _
      | exact ih1 _ _ _ _
      | exact impl_RedHatCompare.mono _ _ _
      | exact laws_chained.mono _ _ _ _
      | exact laws_plain.mono _ _ _
      | exact laws_short.mono _ _
      | exact LeO.none _
      | refine LeO.ite ?_ ?_
      | refine LeO.bind ?_ (fun _ => ?_)
    · intro y0 y1 y2 y3
      unfold laws_FnRedHatOrder.j1
      repeat' first
      | (with_reducible exact ih0 _ _ _ _)
      | (with_reducible exact ih1 _ _ _ _)
      | (with_reducible exact impl_RedHatCompare.mono _ _ _)
      | (with_reducible exact laws_chained.mono _ _ _ _)
      | (with_reducible exact laws_plain.mono _ _ _)
      | (with_reducible exact laws_short.mono _ _)
      | (with_reducible exact LeO.refl _)
      | (with_reducible exact LeO.none _)
      | (with_reducible refine LeO.ite ?_ ?_)
      | (with_reducible refine LeO.bind ?_ (fun _ => ?_))
      | exact ih0 _ _ _ _
      | exact ih1 _ _ _ _
      | exact impl_RedHatCompare.mono _ _ _
      | exact laws_chained.mono _ _ _ _
      | exact laws_plain.mono _ _ _
      | exact laws_short.mono _ _
      | exact LeO.none _
      | refine LeO.ite ?_ ?_
      | refine LeO.bind ?_ (fun _ => ?_)
theorem laws_FnRedHatOrder.mono : ∀ a0 a1 a2 k, LeO (laws_FnRedHatOrder.f k a0 a1 a2) (laws_FnRedHatOrder.f (k + 1) a0 a1 a2) := by
  intro a0 a1 a2 k
  obtain ⟨ih0, ih1⟩ := laws_FnRedHatOrder.mono_l k
  unfold laws_FnRedHatOrder.f
  repeat' first
      | (with_reducible exact ih0 _ _ _ _)
      | (with_reducible exact ih1 _ _ _ _)
      | (with_reducible exact impl_RedHatCompare.mono _ _ _)
      | (with_reducible exact laws_chained.mono _ _ _ _)
      | (with_reducible exact laws_plain.mono _ _ _)
      | (with_reducible exact laws_short.mono _ _)
      | (with_reducible exact LeO.refl _)
      | (with_reducible exact LeO.none _)
      | (with_reducible refine LeO.ite ?_ ?_)
      | (with_reducible refine LeO.bind ?_ (fun _ => ?_))
      | exact ih0 _ _ _ _
      | exact ih1 _ _ _ _
      | exact impl_RedHatCompare.mono _ _ _
      | exact laws_chained.mono _ _ _ _
      | exact laws_plain.mono _ _ _
      | exact laws_short.mono _ _
      | exact LeO.none _
      | refine LeO.ite ?_ ?_
      | refine LeO.bind ?_ (fun _ => ?_)
set_option maxHeartbeats 8000000 in
set_option maxRecDepth 100000 in
theorem laws_FnRedHatOrder.calls (k : Nat) (a0 : ByteArray) (a1 : ByteArray) (a2 : ByteArray) (r : Bool) (w : World) (h : laws_FnRedHatOrder.f k a0 a1 a2 = some r) :
    Calls Tryd.prog 4 #[.string a0, .string a1, .string a2] w fun e w' => e = .returned (.bool r) ∧ Below w.heap.size w w' := by
  have HB := Aside0.mk (Below.refl w.heap.size w)
  have H : (if (a0.size : Int) > 2147483647 then (laws_FnRedHatOrder.j0 k a0 a1 a2 true) else (if (a1.size : Int) > 2147483647 then (laws_FnRedHatOrder.j0 k a0 a1 a2 true) else (laws_FnRedHatOrder.j0 k a0 a1 a2 (decide ((a2.size : Int) > 2147483647))))) = some r := h
  clear h
  have HC4 := Aside0.mk H
  clear H
  go_enter Tryd.func4, Tryd.ntmps4
  go_upto_region 1 with (fail)
  go_cut [27] (fun v27 wc => ∃ (kq : Nat) (x27_3 : Bool), v27 = .bool x27_3 ∧ Aside0 (laws_FnRedHatOrder.j0 kq a0 a1 a2 x27_3 = some r) ∧ Aside0 (kq ≤ k) ∧ Aside0 (Below w.heap.size w wc))
  case first =>
    have H := HC4.out
    clear HC4
    by_cases c5 : (a0.size : Int) > 2147483647
    · rw [if_pos c5] at H
      have c5b0 : decide (2147483647 < (a0.size : Int)) = true := decide_eq_true c5
      have c5b1 : decide (2147483647 < a0.size) = true := decide_eq_true (by omega)
      clear c5
      (first | rw [c5b0] | (simp only [i64_w, i32_w]; rw [c5b0]) | skip)
      have H' := Aside0.mk H
      clear H
      go_wp2
      go_meet
      case rel => exact ⟨_, (true), (by first | rfl | (simp; done) | (simp [*]; done)), H', ⟨by first | omega | exact Nat.le_refl _⟩, ⟨by repeat (first | (with_reducible first | exact HB.out | apply below_alloc | apply pw_below_drewN | apply below_drew1) | exact HB.out)⟩⟩
    · rw [if_neg c5] at H
      have c5b0 : decide (2147483647 < (a0.size : Int)) = false := decide_eq_false c5
      have c5b1 : decide (2147483647 < a0.size) = false := decide_eq_false (by omega)
      clear c5
      (first | rw [c5b0] | (simp only [i64_w, i32_w]; rw [c5b0]) | skip)
      by_cases c6 : (a1.size : Int) > 2147483647
      · rw [if_pos c6] at H
        have c6b0 : decide (2147483647 < (a1.size : Int)) = true := decide_eq_true c6
        have c6b1 : decide (2147483647 < a1.size) = true := decide_eq_true (by omega)
        clear c6
        have H' := Aside0.mk H
        clear H
        go_wp2
        go_meet
        case rel => exact ⟨_, (true), (by first | rfl | (simp; done) | (simp [*]; done)), H', ⟨by first | omega | exact Nat.le_refl _⟩, ⟨by repeat (first | (with_reducible first | exact HB.out | apply below_alloc | apply pw_below_drewN | apply below_drew1) | exact HB.out)⟩⟩
      · rw [if_neg c6] at H
        have c6b0 : decide (2147483647 < (a1.size : Int)) = false := decide_eq_false c6
        have c6b1 : decide (2147483647 < a1.size) = false := decide_eq_false (by omega)
        clear c6
        have H' := Aside0.mk H
        clear H
        go_wp2
        go_meet
        case rel => exact ⟨_, (decide ((a2.size : Int) > 2147483647)), (by first | rfl | (simp; done) | (simp [*]; done)), H', ⟨by first | omega | exact Nat.le_refl _⟩, ⟨by repeat (first | (with_reducible first | exact HB.out | apply below_alloc | apply pw_below_drewN | apply below_drew1) | exact HB.out)⟩⟩
  case rest =>
    clear HC4
    try clear p2
    try clear c4
    try clear c5
    try clear c5b0
    try clear c5b1
    try clear c6
    try clear c6b0
    try clear c6b1
    obtain ⟨kq, x27_3, rfl, HA, HJ3, HB⟩ := hcut
    cases kq with
    | zero => exact absurd HA.out (by simp [laws_FnRedHatOrder.j0])
    | succ kj3 =>
      have H := HA.out
      clear HA
      simp only [laws_FnRedHatOrder.j0] at H
      by_cases c7 : x27_3 = true
      · subst c7
        have H1 : (some true) = some r := by rw [if_pos rfl] at H; exact H
        clear H
        have H := H1
        clear H1
        obtain rfl := Option.some.inj H
        go_wp2
        go_ret
        exact ⟨by first | rfl | (simp [errW_none, errW_some] <;> rfl) | (simp [*, errW_none, errW_some] <;> rfl), by repeat (first | (with_reducible first | exact HB.out | apply below_alloc | apply pw_below_drewN | apply below_drew1) | exact HB.out)⟩
      · replace c7 := Bool.eq_false_iff.mpr c7
        subst c7
        have H1 : ((laws_short.f kj3 (([a0, a1, a2] : List ByteArray))).bind fun t184 => (if t184 = true then ((laws_plain.f kj3 a0 (⟨#[46, 95, 43, 45, 126, 94, 58]⟩ : ByteArray)).bind fun t185 => (if t185 = true then ((laws_plain.f kj3 a1 (⟨#[46, 95, 43, 45, 126, 94, 58]⟩ : ByteArray)).bind fun t186 => (if t186 = true then ((laws_plain.f kj3 a2 (⟨#[46, 95, 43, 45, 126, 94, 58]⟩ : ByteArray)).bind fun t187 => (if t187 = true then ((spec_RedHatKnown.f a0).bind fun t188 => (if t188 = true then ((spec_RedHatKnown.f a1).bind fun t189 => (if t189 = true then ((spec_RedHatKnown.f a2).bind fun t190 => (laws_FnRedHatOrder.j1 kj3 a0 a1 a2 (!t190))) else (laws_FnRedHatOrder.j1 kj3 a0 a1 a2 true))) else (laws_FnRedHatOrder.j1 kj3 a0 a1 a2 true))) else (laws_FnRedHatOrder.j1 kj3 a0 a1 a2 true))) else (laws_FnRedHatOrder.j1 kj3 a0 a1 a2 true))) else (laws_FnRedHatOrder.j1 kj3 a0 a1 a2 true))) else (laws_FnRedHatOrder.j1 kj3 a0 a1 a2 true))) = some r := by rw [if_neg (show ¬ (false = true) by decide)] at H; exact H
        clear H
        have H := H1
        clear H1
        have HC8 := Aside0.mk H
        clear H
        go_upto_region 3 with (fail)
        go_cut [63] (fun v63 wc => ∃ (kq : Nat) (x63_7 : Bool), v63 = .bool x63_7 ∧ Aside0 (laws_FnRedHatOrder.j1 kq a0 a1 a2 x63_7 = some r) ∧ Aside0 (kq ≤ kj3) ∧ Aside0 (Below w.heap.size w wc))
        case first =>
          have H := HC8.out
          clear HC8
          obtain ⟨y181, hy181⟩ : ∃ y_ : List ByteArray, y_ = (([a0, a1, a2] : List ByteArray)) := ⟨_, rfl⟩
          replace H : ((laws_short.f kj3 y181).bind fun t184 => (if t184 = true then ((laws_plain.f kj3 a0 (⟨#[46, 95, 43, 45, 126, 94, 58]⟩ : ByteArray)).bind fun t185 => (if t185 = true then ((laws_plain.f kj3 a1 (⟨#[46, 95, 43, 45, 126, 94, 58]⟩ : ByteArray)).bind fun t186 => (if t186 = true then ((laws_plain.f kj3 a2 (⟨#[46, 95, 43, 45, 126, 94, 58]⟩ : ByteArray)).bind fun t187 => (if t187 = true then ((spec_RedHatKnown.f a0).bind fun t188 => (if t188 = true then ((spec_RedHatKnown.f a1).bind fun t189 => (if t189 = true then ((spec_RedHatKnown.f a2).bind fun t190 => (laws_FnRedHatOrder.j1 kj3 a0 a1 a2 (!t190))) else (laws_FnRedHatOrder.j1 kj3 a0 a1 a2 true))) else (laws_FnRedHatOrder.j1 kj3 a0 a1 a2 true))) else (laws_FnRedHatOrder.j1 kj3 a0 a1 a2 true))) else (laws_FnRedHatOrder.j1 kj3 a0 a1 a2 true))) else (laws_FnRedHatOrder.j1 kj3 a0 a1 a2 true))) else (laws_FnRedHatOrder.j1 kj3 a0 a1 a2 true))) = some r := by first | (rw [hy181]; with_reducible exact H) | (have H2_ := (Option.bind_some _ _).symm.trans H; rw [hy181]; with_reducible exact H2_) | (have H2_ := (Option.bind_some _ _).symm.trans H; with_reducible exact H2_) | with_reducible exact H | (rw [hy181]; exact H) | exact H
          have Ny181 := Aside0.mk hy181
          clear hy181
          replace H := Option.bind_eq_some_iff.mp H
          obtain ⟨t184, A90, H⟩ := H
          replace H : (if t184 = true then ((laws_plain.f kj3 a0 (⟨#[46, 95, 43, 45, 126, 94, 58]⟩ : ByteArray)).bind fun t185 => (if t185 = true then ((laws_plain.f kj3 a1 (⟨#[46, 95, 43, 45, 126, 94, 58]⟩ : ByteArray)).bind fun t186 => (if t186 = true then ((laws_plain.f kj3 a2 (⟨#[46, 95, 43, 45, 126, 94, 58]⟩ : ByteArray)).bind fun t187 => (if t187 = true then ((spec_RedHatKnown.f a0).bind fun t188 => (if t188 = true then ((spec_RedHatKnown.f a1).bind fun t189 => (if t189 = true then ((spec_RedHatKnown.f a2).bind fun t190 => (laws_FnRedHatOrder.j1 kj3 a0 a1 a2 (!t190))) else (laws_FnRedHatOrder.j1 kj3 a0 a1 a2 true))) else (laws_FnRedHatOrder.j1 kj3 a0 a1 a2 true))) else (laws_FnRedHatOrder.j1 kj3 a0 a1 a2 true))) else (laws_FnRedHatOrder.j1 kj3 a0 a1 a2 true))) else (laws_FnRedHatOrder.j1 kj3 a0 a1 a2 true))) else (laws_FnRedHatOrder.j1 kj3 a0 a1 a2 true)) = some r := H
          have A9 := Aside0.mk A90
          clear A90
          by_cases c10 : t184 = true
          · subst c10
            have H1 : ((laws_plain.f kj3 a0 (⟨#[46, 95, 43, 45, 126, 94, 58]⟩ : ByteArray)).bind fun t185 => (if t185 = true then ((laws_plain.f kj3 a1 (⟨#[46, 95, 43, 45, 126, 94, 58]⟩ : ByteArray)).bind fun t186 => (if t186 = true then ((laws_plain.f kj3 a2 (⟨#[46, 95, 43, 45, 126, 94, 58]⟩ : ByteArray)).bind fun t187 => (if t187 = true then ((spec_RedHatKnown.f a0).bind fun t188 => (if t188 = true then ((spec_RedHatKnown.f a1).bind fun t189 => (if t189 = true then ((spec_RedHatKnown.f a2).bind fun t190 => (laws_FnRedHatOrder.j1 kj3 a0 a1 a2 (!t190))) else (laws_FnRedHatOrder.j1 kj3 a0 a1 a2 true))) else (laws_FnRedHatOrder.j1 kj3 a0 a1 a2 true))) else (laws_FnRedHatOrder.j1 kj3 a0 a1 a2 true))) else (laws_FnRedHatOrder.j1 kj3 a0 a1 a2 true))) else (laws_FnRedHatOrder.j1 kj3 a0 a1 a2 true))) = some r := by rw [if_pos rfl] at H; exact H
            clear H
            have H := H1
            clear H1
            replace H := Option.bind_eq_some_iff.mp H
            obtain ⟨t185, A110, H⟩ := H
            replace H : (if t185 = true then ((laws_plain.f kj3 a1 (⟨#[46, 95, 43, 45, 126, 94, 58]⟩ : ByteArray)).bind fun t186 => (if t186 = true then ((laws_plain.f kj3 a2 (⟨#[46, 95, 43, 45, 126, 94, 58]⟩ : ByteArray)).bind fun t187 => (if t187 = true then ((spec_RedHatKnown.f a0).bind fun t188 => (if t188 = true then ((spec_RedHatKnown.f a1).bind fun t189 => (if t189 = true then ((spec_RedHatKnown.f a2).bind fun t190 => (laws_FnRedHatOrder.j1 kj3 a0 a1 a2 (!t190))) else (laws_FnRedHatOrder.j1 kj3 a0 a1 a2 true))) else (laws_FnRedHatOrder.j1 kj3 a0 a1 a2 true))) else (laws_FnRedHatOrder.j1 kj3 a0 a1 a2 true))) else (laws_FnRedHatOrder.j1 kj3 a0 a1 a2 true))) else (laws_FnRedHatOrder.j1 kj3 a0 a1 a2 true)) = some r := H
            have A11 := Aside0.mk A110
            clear A110
            by_cases c12 : t185 = true
            · subst c12
              have H1 : ((laws_plain.f kj3 a1 (⟨#[46, 95, 43, 45, 126, 94, 58]⟩ : ByteArray)).bind fun t186 => (if t186 = true then ((laws_plain.f kj3 a2 (⟨#[46, 95, 43, 45, 126, 94, 58]⟩ : ByteArray)).bind fun t187 => (if t187 = true then ((spec_RedHatKnown.f a0).bind fun t188 => (if t188 = true then ((spec_RedHatKnown.f a1).bind fun t189 => (if t189 = true then ((spec_RedHatKnown.f a2).bind fun t190 => (laws_FnRedHatOrder.j1 kj3 a0 a1 a2 (!t190))) else (laws_FnRedHatOrder.j1 kj3 a0 a1 a2 true))) else (laws_FnRedHatOrder.j1 kj3 a0 a1 a2 true))) else (laws_FnRedHatOrder.j1 kj3 a0 a1 a2 true))) else (laws_FnRedHatOrder.j1 kj3 a0 a1 a2 true))) = some r := by rw [if_pos rfl] at H; exact H
              clear H
              have H := H1
              clear H1
              replace H := Option.bind_eq_some_iff.mp H
              obtain ⟨t186, A130, H⟩ := H
              replace H : (if t186 = true then ((laws_plain.f kj3 a2 (⟨#[46, 95, 43, 45, 126, 94, 58]⟩ : ByteArray)).bind fun t187 => (if t187 = true then ((spec_RedHatKnown.f a0).bind fun t188 => (if t188 = true then ((spec_RedHatKnown.f a1).bind fun t189 => (if t189 = true then ((spec_RedHatKnown.f a2).bind fun t190 => (laws_FnRedHatOrder.j1 kj3 a0 a1 a2 (!t190))) else (laws_FnRedHatOrder.j1 kj3 a0 a1 a2 true))) else (laws_FnRedHatOrder.j1 kj3 a0 a1 a2 true))) else (laws_FnRedHatOrder.j1 kj3 a0 a1 a2 true))) else (laws_FnRedHatOrder.j1 kj3 a0 a1 a2 true)) = some r := H
              have A13 := Aside0.mk A130
              clear A130
              by_cases c14 : t186 = true
              · subst c14
                have H1 : ((laws_plain.f kj3 a2 (⟨#[46, 95, 43, 45, 126, 94, 58]⟩ : ByteArray)).bind fun t187 => (if t187 = true then ((spec_RedHatKnown.f a0).bind fun t188 => (if t188 = true then ((spec_RedHatKnown.f a1).bind fun t189 => (if t189 = true then ((spec_RedHatKnown.f a2).bind fun t190 => (laws_FnRedHatOrder.j1 kj3 a0 a1 a2 (!t190))) else (laws_FnRedHatOrder.j1 kj3 a0 a1 a2 true))) else (laws_FnRedHatOrder.j1 kj3 a0 a1 a2 true))) else (laws_FnRedHatOrder.j1 kj3 a0 a1 a2 true))) = some r := by rw [if_pos rfl] at H; exact H
                clear H
                have H := H1
                clear H1
                replace H := Option.bind_eq_some_iff.mp H
                obtain ⟨t187, A150, H⟩ := H
                replace H : (if t187 = true then ((spec_RedHatKnown.f a0).bind fun t188 => (if t188 = true then ((spec_RedHatKnown.f a1).bind fun t189 => (if t189 = true then ((spec_RedHatKnown.f a2).bind fun t190 => (laws_FnRedHatOrder.j1 kj3 a0 a1 a2 (!t190))) else (laws_FnRedHatOrder.j1 kj3 a0 a1 a2 true))) else (laws_FnRedHatOrder.j1 kj3 a0 a1 a2 true))) else (laws_FnRedHatOrder.j1 kj3 a0 a1 a2 true)) = some r := H
                have A15 := Aside0.mk A150
                clear A150
                by_cases c16 : t187 = true
                · subst c16
                  have H1 : ((spec_RedHatKnown.f a0).bind fun t188 => (if t188 = true then ((spec_RedHatKnown.f a1).bind fun t189 => (if t189 = true then ((spec_RedHatKnown.f a2).bind fun t190 => (laws_FnRedHatOrder.j1 kj3 a0 a1 a2 (!t190))) else (laws_FnRedHatOrder.j1 kj3 a0 a1 a2 true))) else (laws_FnRedHatOrder.j1 kj3 a0 a1 a2 true))) = some r := by rw [if_pos rfl] at H; exact H
                  clear H
                  have H := H1
                  clear H1
                  replace H := Option.bind_eq_some_iff.mp H
                  obtain ⟨t188, A170, H⟩ := H
                  replace H : (if t188 = true then ((spec_RedHatKnown.f a1).bind fun t189 => (if t189 = true then ((spec_RedHatKnown.f a2).bind fun t190 => (laws_FnRedHatOrder.j1 kj3 a0 a1 a2 (!t190))) else (laws_FnRedHatOrder.j1 kj3 a0 a1 a2 true))) else (laws_FnRedHatOrder.j1 kj3 a0 a1 a2 true)) = some r := H
                  have A17 := Aside0.mk A170
                  clear A170
                  by_cases c18 : t188 = true
                  · subst c18
                    have H1 : ((spec_RedHatKnown.f a1).bind fun t189 => (if t189 = true then ((spec_RedHatKnown.f a2).bind fun t190 => (laws_FnRedHatOrder.j1 kj3 a0 a1 a2 (!t190))) else (laws_FnRedHatOrder.j1 kj3 a0 a1 a2 true))) = some r := by rw [if_pos rfl] at H; exact H
                    clear H
                    have H := H1
                    clear H1
                    replace H := Option.bind_eq_some_iff.mp H
                    obtain ⟨t189, A190, H⟩ := H
                    replace H : (if t189 = true then ((spec_RedHatKnown.f a2).bind fun t190 => (laws_FnRedHatOrder.j1 kj3 a0 a1 a2 (!t190))) else (laws_FnRedHatOrder.j1 kj3 a0 a1 a2 true)) = some r := H
                    have A19 := Aside0.mk A190
                    clear A190
                    by_cases c20 : t189 = true
                    · subst c20
                      have H1 : ((spec_RedHatKnown.f a2).bind fun t190 => (laws_FnRedHatOrder.j1 kj3 a0 a1 a2 (!t190))) = some r := by rw [if_pos rfl] at H; exact H
                      clear H
                      have H := H1
                      clear H1
                      replace H := Option.bind_eq_some_iff.mp H
                      obtain ⟨t190, A210, H⟩ := H
                      replace H : (laws_FnRedHatOrder.j1 kj3 a0 a1 a2 (!t190)) = some r := H
                      have A21 := Aside0.mk A210
                      clear A210
                      have H' := Aside0.mk H
                      clear H
                      go_wp2_with (first | ((with_reducible refine gate_dst (N := 31) rfl ?_); (try (refine gate_guard (by rfl) ?_; dsimp only)); refine Kd.R_lit Kd.string _ 9 ?hg (N := 31) ?hd (xs := ([a0, a1, a2] : List ByteArray)) (inner := [.string a0, .string a1, .string a2]) (ok := fun _ => True) (okp := fun _ => True) ?hr ?hp (fun _ hk => hk) trivial (Below.refl _ _) (Nat.le_refl _) (by simp) ?_; (case hd => rfl); (case hg => rfl); (case hr => first | (go_simp; done) | (go_simp; rfl)); (case hp => exact (Reps.one (show Kd.M Kd.string _ _ _ a0 [.string a0] from rfl) (Reps.one (show Kd.M Kd.string _ _ _ a1 [.string a1] from rfl) (Reps.one (show Kd.M Kd.string _ _ _ a2 [.string a2] from rfl) (Reps.none _ _))))); intro v182 w22 ho23 hb hg_ hnew_; clear hg_ hnew_; (first | rw [← Ny181.out] at ho23 | (simp only [Int.reduceToNat] at ho23; rw [← Ny181.out] at ho23)); have n0_ := Aside0.mk (Kd.R_lower ho23 (below_size (by repeat (first | (with_reducible first | exact HB.out | apply below_alloc | apply pw_below_drewN | apply below_drew1) | exact HB.out)))); have n1_ := Aside0.mk (below_step (by repeat (first | (with_reducible first | exact HB.out | apply below_alloc | apply pw_below_drewN | apply below_drew1) | exact HB.out)) hb); clear HB; have HO183 := n0_; have HB := n1_; clear n0_ n1_; clear hb ho23; obtain ⟨Ao24, co24, eo24⟩ := Kd.R_slice HO183.out; subst eo24) | ((with_reducible refine gate_callee (f := 8) rfl ?_); refine goesL_ (some 32) rfl rfl Tryd.func8 (by kernel_rfl) rfl #[.slice Ao24 y181.length co24] rfl (by (try simp only [List.map_toArray, List.map_cons, List.map_nil]); first | done | rfl | (simp only [List.length_drop, List.length_take]; rfl)) ?_; (with_reducible refine (laws_short.calls kj3 _ _ y181 true _ ?side1 ?side2 A9.out).mono ?_); (case side1 => repeat (first | exact (Kd.R_reads' HO183.out).2.2 | (with_reducible refine Kd.C_alloc ?_ _) | (with_reducible refine Kd.C_drewN ?_ _) | (with_reducible refine Kd.C_drew ?_))); (case side2 => exact (Kd.R_reads' HO183.out).2.1); rintro e w' ⟨rfl, ⟨nd, rfl⟩⟩; refine ⟨_, rfl, ?_⟩) | (go_at_call 9; (with_reducible refine (laws_plain.calls kj3 a0 (⟨#[46, 95, 43, 45, 126, 94, 58]⟩ : ByteArray) true _ A11.out).mono ?_); rintro e w' ⟨rfl, ⟨nd, rfl⟩⟩) | (go_at_call 9; (with_reducible refine (laws_plain.calls kj3 a1 (⟨#[46, 95, 43, 45, 126, 94, 58]⟩ : ByteArray) true _ A13.out).mono ?_); rintro e w' ⟨rfl, ⟨nd, rfl⟩⟩) | (go_at_call 9; (with_reducible refine (laws_plain.calls kj3 a2 (⟨#[46, 95, 43, 45, 126, 94, 58]⟩ : ByteArray) true _ A15.out).mono ?_); rintro e w' ⟨rfl, ⟨nd, rfl⟩⟩) | (go_at_call 14; (with_reducible refine (spec_RedHatKnown.calls a0 true _ A17.out).mono ?_); rintro e w' ⟨rfl, ⟨nd, rfl⟩⟩) | (go_at_call 14; (with_reducible refine (spec_RedHatKnown.calls a1 true _ A19.out).mono ?_); rintro e w' ⟨rfl, ⟨nd, rfl⟩⟩) | (go_at_call 14; (with_reducible refine (spec_RedHatKnown.calls a2 t190 _ A21.out).mono ?_); rintro e w' ⟨rfl, ⟨nd, rfl⟩⟩))
                      go_meet
                      case rel => exact ⟨_, (!t190), (by first | rfl | (simp; done) | (simp [*]; done)), H', ⟨by have := HJ3.out; first | omega | exact Nat.le_refl _⟩, ⟨by repeat (first | (with_reducible first | exact HB.out | apply below_alloc | apply pw_below_drewN | apply below_drew1) | exact HB.out)⟩⟩
                    · replace c20 := Bool.eq_false_iff.mpr c20
                      subst c20
                      have H1 : (laws_FnRedHatOrder.j1 kj3 a0 a1 a2 true) = some r := by rw [if_neg (show ¬ (false = true) by decide)] at H; exact H
                      clear H
                      have H := H1
                      clear H1
                      have H' := Aside0.mk H
                      clear H
                      go_wp2_with (first | ((with_reducible refine gate_dst (N := 31) rfl ?_); (try (refine gate_guard (by rfl) ?_; dsimp only)); refine Kd.R_lit Kd.string _ 9 ?hg (N := 31) ?hd (xs := ([a0, a1, a2] : List ByteArray)) (inner := [.string a0, .string a1, .string a2]) (ok := fun _ => True) (okp := fun _ => True) ?hr ?hp (fun _ hk => hk) trivial (Below.refl _ _) (Nat.le_refl _) (by simp) ?_; (case hd => rfl); (case hg => rfl); (case hr => first | (go_simp; done) | (go_simp; rfl)); (case hp => exact (Reps.one (show Kd.M Kd.string _ _ _ a0 [.string a0] from rfl) (Reps.one (show Kd.M Kd.string _ _ _ a1 [.string a1] from rfl) (Reps.one (show Kd.M Kd.string _ _ _ a2 [.string a2] from rfl) (Reps.none _ _))))); intro v182 w25 ho26 hb hg_ hnew_; clear hg_ hnew_; (first | rw [← Ny181.out] at ho26 | (simp only [Int.reduceToNat] at ho26; rw [← Ny181.out] at ho26)); have n0_ := Aside0.mk (Kd.R_lower ho26 (below_size (by repeat (first | (with_reducible first | exact HB.out | apply below_alloc | apply pw_below_drewN | apply below_drew1) | exact HB.out)))); have n1_ := Aside0.mk (below_step (by repeat (first | (with_reducible first | exact HB.out | apply below_alloc | apply pw_below_drewN | apply below_drew1) | exact HB.out)) hb); clear HB; have HO183 := n0_; have HB := n1_; clear n0_ n1_; clear hb ho26; obtain ⟨Ao27, co27, eo27⟩ := Kd.R_slice HO183.out; subst eo27) | ((with_reducible refine gate_callee (f := 8) rfl ?_); refine goesL_ (some 32) rfl rfl Tryd.func8 (by kernel_rfl) rfl #[.slice Ao27 y181.length co27] rfl (by (try simp only [List.map_toArray, List.map_cons, List.map_nil]); first | done | rfl | (simp only [List.length_drop, List.length_take]; rfl)) ?_; (with_reducible refine (laws_short.calls kj3 _ _ y181 true _ ?side1 ?side2 A9.out).mono ?_); (case side1 => repeat (first | exact (Kd.R_reads' HO183.out).2.2 | (with_reducible refine Kd.C_alloc ?_ _) | (with_reducible refine Kd.C_drewN ?_ _) | (with_reducible refine Kd.C_drew ?_))); (case side2 => exact (Kd.R_reads' HO183.out).2.1); rintro e w' ⟨rfl, ⟨nd, rfl⟩⟩; refine ⟨_, rfl, ?_⟩) | (go_at_call 9; (with_reducible refine (laws_plain.calls kj3 a0 (⟨#[46, 95, 43, 45, 126, 94, 58]⟩ : ByteArray) true _ A11.out).mono ?_); rintro e w' ⟨rfl, ⟨nd, rfl⟩⟩) | (go_at_call 9; (with_reducible refine (laws_plain.calls kj3 a1 (⟨#[46, 95, 43, 45, 126, 94, 58]⟩ : ByteArray) true _ A13.out).mono ?_); rintro e w' ⟨rfl, ⟨nd, rfl⟩⟩) | (go_at_call 9; (with_reducible refine (laws_plain.calls kj3 a2 (⟨#[46, 95, 43, 45, 126, 94, 58]⟩ : ByteArray) true _ A15.out).mono ?_); rintro e w' ⟨rfl, ⟨nd, rfl⟩⟩) | (go_at_call 14; (with_reducible refine (spec_RedHatKnown.calls a0 true _ A17.out).mono ?_); rintro e w' ⟨rfl, ⟨nd, rfl⟩⟩) | (go_at_call 14; (with_reducible refine (spec_RedHatKnown.calls a1 false _ A19.out).mono ?_); rintro e w' ⟨rfl, ⟨nd, rfl⟩⟩))
                      go_meet
                      case rel => exact ⟨_, (true), (by first | rfl | (simp; done) | (simp [*]; done)), H', ⟨by have := HJ3.out; first | omega | exact Nat.le_refl _⟩, ⟨by repeat (first | (with_reducible first | exact HB.out | apply below_alloc | apply pw_below_drewN | apply below_drew1) | exact HB.out)⟩⟩
                  · replace c18 := Bool.eq_false_iff.mpr c18
                    subst c18
                    have H1 : (laws_FnRedHatOrder.j1 kj3 a0 a1 a2 true) = some r := by rw [if_neg (show ¬ (false = true) by decide)] at H; exact H
                    clear H
                    have H := H1
                    clear H1
                    have H' := Aside0.mk H
                    clear H
                    go_wp2_with (first | ((with_reducible refine gate_dst (N := 31) rfl ?_); (try (refine gate_guard (by rfl) ?_; dsimp only)); refine Kd.R_lit Kd.string _ 9 ?hg (N := 31) ?hd (xs := ([a0, a1, a2] : List ByteArray)) (inner := [.string a0, .string a1, .string a2]) (ok := fun _ => True) (okp := fun _ => True) ?hr ?hp (fun _ hk => hk) trivial (Below.refl _ _) (Nat.le_refl _) (by simp) ?_; (case hd => rfl); (case hg => rfl); (case hr => first | (go_simp; done) | (go_simp; rfl)); (case hp => exact (Reps.one (show Kd.M Kd.string _ _ _ a0 [.string a0] from rfl) (Reps.one (show Kd.M Kd.string _ _ _ a1 [.string a1] from rfl) (Reps.one (show Kd.M Kd.string _ _ _ a2 [.string a2] from rfl) (Reps.none _ _))))); intro v182 w28 ho29 hb hg_ hnew_; clear hg_ hnew_; (first | rw [← Ny181.out] at ho29 | (simp only [Int.reduceToNat] at ho29; rw [← Ny181.out] at ho29)); have n0_ := Aside0.mk (Kd.R_lower ho29 (below_size (by repeat (first | (with_reducible first | exact HB.out | apply below_alloc | apply pw_below_drewN | apply below_drew1) | exact HB.out)))); have n1_ := Aside0.mk (below_step (by repeat (first | (with_reducible first | exact HB.out | apply below_alloc | apply pw_below_drewN | apply below_drew1) | exact HB.out)) hb); clear HB; have HO183 := n0_; have HB := n1_; clear n0_ n1_; clear hb ho29; obtain ⟨Ao30, co30, eo30⟩ := Kd.R_slice HO183.out; subst eo30) | ((with_reducible refine gate_callee (f := 8) rfl ?_); refine goesL_ (some 32) rfl rfl Tryd.func8 (by kernel_rfl) rfl #[.slice Ao30 y181.length co30] rfl (by (try simp only [List.map_toArray, List.map_cons, List.map_nil]); first | done | rfl | (simp only [List.length_drop, List.length_take]; rfl)) ?_; (with_reducible refine (laws_short.calls kj3 _ _ y181 true _ ?side1 ?side2 A9.out).mono ?_); (case side1 => repeat (first | exact (Kd.R_reads' HO183.out).2.2 | (with_reducible refine Kd.C_alloc ?_ _) | (with_reducible refine Kd.C_drewN ?_ _) | (with_reducible refine Kd.C_drew ?_))); (case side2 => exact (Kd.R_reads' HO183.out).2.1); rintro e w' ⟨rfl, ⟨nd, rfl⟩⟩; refine ⟨_, rfl, ?_⟩) | (go_at_call 9; (with_reducible refine (laws_plain.calls kj3 a0 (⟨#[46, 95, 43, 45, 126, 94, 58]⟩ : ByteArray) true _ A11.out).mono ?_); rintro e w' ⟨rfl, ⟨nd, rfl⟩⟩) | (go_at_call 9; (with_reducible refine (laws_plain.calls kj3 a1 (⟨#[46, 95, 43, 45, 126, 94, 58]⟩ : ByteArray) true _ A13.out).mono ?_); rintro e w' ⟨rfl, ⟨nd, rfl⟩⟩) | (go_at_call 9; (with_reducible refine (laws_plain.calls kj3 a2 (⟨#[46, 95, 43, 45, 126, 94, 58]⟩ : ByteArray) true _ A15.out).mono ?_); rintro e w' ⟨rfl, ⟨nd, rfl⟩⟩) | (go_at_call 14; (with_reducible refine (spec_RedHatKnown.calls a0 false _ A17.out).mono ?_); rintro e w' ⟨rfl, ⟨nd, rfl⟩⟩))
                    go_meet
                    case rel => exact ⟨_, (true), (by first | rfl | (simp; done) | (simp [*]; done)), H', ⟨by have := HJ3.out; first | omega | exact Nat.le_refl _⟩, ⟨by repeat (first | (with_reducible first | exact HB.out | apply below_alloc | apply pw_below_drewN | apply below_drew1) | exact HB.out)⟩⟩
                · replace c16 := Bool.eq_false_iff.mpr c16
                  subst c16
                  have H1 : (laws_FnRedHatOrder.j1 kj3 a0 a1 a2 true) = some r := by rw [if_neg (show ¬ (false = true) by decide)] at H; exact H
                  clear H
                  have H := H1
                  clear H1
                  have H' := Aside0.mk H
                  clear H
                  go_wp2_with (first | ((with_reducible refine gate_dst (N := 31) rfl ?_); (try (refine gate_guard (by rfl) ?_; dsimp only)); refine Kd.R_lit Kd.string _ 9 ?hg (N := 31) ?hd (xs := ([a0, a1, a2] : List ByteArray)) (inner := [.string a0, .string a1, .string a2]) (ok := fun _ => True) (okp := fun _ => True) ?hr ?hp (fun _ hk => hk) trivial (Below.refl _ _) (Nat.le_refl _) (by simp) ?_; (case hd => rfl); (case hg => rfl); (case hr => first | (go_simp; done) | (go_simp; rfl)); (case hp => exact (Reps.one (show Kd.M Kd.string _ _ _ a0 [.string a0] from rfl) (Reps.one (show Kd.M Kd.string _ _ _ a1 [.string a1] from rfl) (Reps.one (show Kd.M Kd.string _ _ _ a2 [.string a2] from rfl) (Reps.none _ _))))); intro v182 w31 ho32 hb hg_ hnew_; clear hg_ hnew_; (first | rw [← Ny181.out] at ho32 | (simp only [Int.reduceToNat] at ho32; rw [← Ny181.out] at ho32)); have n0_ := Aside0.mk (Kd.R_lower ho32 (below_size (by repeat (first | (with_reducible first | exact HB.out | apply below_alloc | apply pw_below_drewN | apply below_drew1) | exact HB.out)))); have n1_ := Aside0.mk (below_step (by repeat (first | (with_reducible first | exact HB.out | apply below_alloc | apply pw_below_drewN | apply below_drew1) | exact HB.out)) hb); clear HB; have HO183 := n0_; have HB := n1_; clear n0_ n1_; clear hb ho32; obtain ⟨Ao33, co33, eo33⟩ := Kd.R_slice HO183.out; subst eo33) | ((with_reducible refine gate_callee (f := 8) rfl ?_); refine goesL_ (some 32) rfl rfl Tryd.func8 (by kernel_rfl) rfl #[.slice Ao33 y181.length co33] rfl (by (try simp only [List.map_toArray, List.map_cons, List.map_nil]); first | done | rfl | (simp only [List.length_drop, List.length_take]; rfl)) ?_; (with_reducible refine (laws_short.calls kj3 _ _ y181 true _ ?side1 ?side2 A9.out).mono ?_); (case side1 => repeat (first | exact (Kd.R_reads' HO183.out).2.2 | (with_reducible refine Kd.C_alloc ?_ _) | (with_reducible refine Kd.C_drewN ?_ _) | (with_reducible refine Kd.C_drew ?_))); (case side2 => exact (Kd.R_reads' HO183.out).2.1); rintro e w' ⟨rfl, ⟨nd, rfl⟩⟩; refine ⟨_, rfl, ?_⟩) | (go_at_call 9; (with_reducible refine (laws_plain.calls kj3 a0 (⟨#[46, 95, 43, 45, 126, 94, 58]⟩ : ByteArray) true _ A11.out).mono ?_); rintro e w' ⟨rfl, ⟨nd, rfl⟩⟩) | (go_at_call 9; (with_reducible refine (laws_plain.calls kj3 a1 (⟨#[46, 95, 43, 45, 126, 94, 58]⟩ : ByteArray) true _ A13.out).mono ?_); rintro e w' ⟨rfl, ⟨nd, rfl⟩⟩) | (go_at_call 9; (with_reducible refine (laws_plain.calls kj3 a2 (⟨#[46, 95, 43, 45, 126, 94, 58]⟩ : ByteArray) false _ A15.out).mono ?_); rintro e w' ⟨rfl, ⟨nd, rfl⟩⟩))
                  go_meet
                  case rel => exact ⟨_, (true), (by first | rfl | (simp; done) | (simp [*]; done)), H', ⟨by have := HJ3.out; first | omega | exact Nat.le_refl _⟩, ⟨by repeat (first | (with_reducible first | exact HB.out | apply below_alloc | apply pw_below_drewN | apply below_drew1) | exact HB.out)⟩⟩
              · replace c14 := Bool.eq_false_iff.mpr c14
                subst c14
                have H1 : (laws_FnRedHatOrder.j1 kj3 a0 a1 a2 true) = some r := by rw [if_neg (show ¬ (false = true) by decide)] at H; exact H
                clear H
                have H := H1
                clear H1
                have H' := Aside0.mk H
                clear H
                go_wp2_with (first | ((with_reducible refine gate_dst (N := 31) rfl ?_); (try (refine gate_guard (by rfl) ?_; dsimp only)); refine Kd.R_lit Kd.string _ 9 ?hg (N := 31) ?hd (xs := ([a0, a1, a2] : List ByteArray)) (inner := [.string a0, .string a1, .string a2]) (ok := fun _ => True) (okp := fun _ => True) ?hr ?hp (fun _ hk => hk) trivial (Below.refl _ _) (Nat.le_refl _) (by simp) ?_; (case hd => rfl); (case hg => rfl); (case hr => first | (go_simp; done) | (go_simp; rfl)); (case hp => exact (Reps.one (show Kd.M Kd.string _ _ _ a0 [.string a0] from rfl) (Reps.one (show Kd.M Kd.string _ _ _ a1 [.string a1] from rfl) (Reps.one (show Kd.M Kd.string _ _ _ a2 [.string a2] from rfl) (Reps.none _ _))))); intro v182 w34 ho35 hb hg_ hnew_; clear hg_ hnew_; (first | rw [← Ny181.out] at ho35 | (simp only [Int.reduceToNat] at ho35; rw [← Ny181.out] at ho35)); have n0_ := Aside0.mk (Kd.R_lower ho35 (below_size (by repeat (first | (with_reducible first | exact HB.out | apply below_alloc | apply pw_below_drewN | apply below_drew1) | exact HB.out)))); have n1_ := Aside0.mk (below_step (by repeat (first | (with_reducible first | exact HB.out | apply below_alloc | apply pw_below_drewN | apply below_drew1) | exact HB.out)) hb); clear HB; have HO183 := n0_; have HB := n1_; clear n0_ n1_; clear hb ho35; obtain ⟨Ao36, co36, eo36⟩ := Kd.R_slice HO183.out; subst eo36) | ((with_reducible refine gate_callee (f := 8) rfl ?_); refine goesL_ (some 32) rfl rfl Tryd.func8 (by kernel_rfl) rfl #[.slice Ao36 y181.length co36] rfl (by (try simp only [List.map_toArray, List.map_cons, List.map_nil]); first | done | rfl | (simp only [List.length_drop, List.length_take]; rfl)) ?_; (with_reducible refine (laws_short.calls kj3 _ _ y181 true _ ?side1 ?side2 A9.out).mono ?_); (case side1 => repeat (first | exact (Kd.R_reads' HO183.out).2.2 | (with_reducible refine Kd.C_alloc ?_ _) | (with_reducible refine Kd.C_drewN ?_ _) | (with_reducible refine Kd.C_drew ?_))); (case side2 => exact (Kd.R_reads' HO183.out).2.1); rintro e w' ⟨rfl, ⟨nd, rfl⟩⟩; refine ⟨_, rfl, ?_⟩) | (go_at_call 9; (with_reducible refine (laws_plain.calls kj3 a0 (⟨#[46, 95, 43, 45, 126, 94, 58]⟩ : ByteArray) true _ A11.out).mono ?_); rintro e w' ⟨rfl, ⟨nd, rfl⟩⟩) | (go_at_call 9; (with_reducible refine (laws_plain.calls kj3 a1 (⟨#[46, 95, 43, 45, 126, 94, 58]⟩ : ByteArray) false _ A13.out).mono ?_); rintro e w' ⟨rfl, ⟨nd, rfl⟩⟩))
                go_meet
                case rel => exact ⟨_, (true), (by first | rfl | (simp; done) | (simp [*]; done)), H', ⟨by have := HJ3.out; first | omega | exact Nat.le_refl _⟩, ⟨by repeat (first | (with_reducible first | exact HB.out | apply below_alloc | apply pw_below_drewN | apply below_drew1) | exact HB.out)⟩⟩
            · replace c12 := Bool.eq_false_iff.mpr c12
              subst c12
              have H1 : (laws_FnRedHatOrder.j1 kj3 a0 a1 a2 true) = some r := by rw [if_neg (show ¬ (false = true) by decide)] at H; exact H
              clear H
              have H := H1
              clear H1
              have H' := Aside0.mk H
              clear H
              go_wp2_with (first | ((with_reducible refine gate_dst (N := 31) rfl ?_); (try (refine gate_guard (by rfl) ?_; dsimp only)); refine Kd.R_lit Kd.string _ 9 ?hg (N := 31) ?hd (xs := ([a0, a1, a2] : List ByteArray)) (inner := [.string a0, .string a1, .string a2]) (ok := fun _ => True) (okp := fun _ => True) ?hr ?hp (fun _ hk => hk) trivial (Below.refl _ _) (Nat.le_refl _) (by simp) ?_; (case hd => rfl); (case hg => rfl); (case hr => first | (go_simp; done) | (go_simp; rfl)); (case hp => exact (Reps.one (show Kd.M Kd.string _ _ _ a0 [.string a0] from rfl) (Reps.one (show Kd.M Kd.string _ _ _ a1 [.string a1] from rfl) (Reps.one (show Kd.M Kd.string _ _ _ a2 [.string a2] from rfl) (Reps.none _ _))))); intro v182 w37 ho38 hb hg_ hnew_; clear hg_ hnew_; (first | rw [← Ny181.out] at ho38 | (simp only [Int.reduceToNat] at ho38; rw [← Ny181.out] at ho38)); have n0_ := Aside0.mk (Kd.R_lower ho38 (below_size (by repeat (first | (with_reducible first | exact HB.out | apply below_alloc | apply pw_below_drewN | apply below_drew1) | exact HB.out)))); have n1_ := Aside0.mk (below_step (by repeat (first | (with_reducible first | exact HB.out | apply below_alloc | apply pw_below_drewN | apply below_drew1) | exact HB.out)) hb); clear HB; have HO183 := n0_; have HB := n1_; clear n0_ n1_; clear hb ho38; obtain ⟨Ao39, co39, eo39⟩ := Kd.R_slice HO183.out; subst eo39) | ((with_reducible refine gate_callee (f := 8) rfl ?_); refine goesL_ (some 32) rfl rfl Tryd.func8 (by kernel_rfl) rfl #[.slice Ao39 y181.length co39] rfl (by (try simp only [List.map_toArray, List.map_cons, List.map_nil]); first | done | rfl | (simp only [List.length_drop, List.length_take]; rfl)) ?_; (with_reducible refine (laws_short.calls kj3 _ _ y181 true _ ?side1 ?side2 A9.out).mono ?_); (case side1 => repeat (first | exact (Kd.R_reads' HO183.out).2.2 | (with_reducible refine Kd.C_alloc ?_ _) | (with_reducible refine Kd.C_drewN ?_ _) | (with_reducible refine Kd.C_drew ?_))); (case side2 => exact (Kd.R_reads' HO183.out).2.1); rintro e w' ⟨rfl, ⟨nd, rfl⟩⟩; refine ⟨_, rfl, ?_⟩) | (go_at_call 9; (with_reducible refine (laws_plain.calls kj3 a0 (⟨#[46, 95, 43, 45, 126, 94, 58]⟩ : ByteArray) false _ A11.out).mono ?_); rintro e w' ⟨rfl, ⟨nd, rfl⟩⟩))
              go_meet
              case rel => exact ⟨_, (true), (by first | rfl | (simp; done) | (simp [*]; done)), H', ⟨by have := HJ3.out; first | omega | exact Nat.le_refl _⟩, ⟨by repeat (first | (with_reducible first | exact HB.out | apply below_alloc | apply pw_below_drewN | apply below_drew1) | exact HB.out)⟩⟩
          · replace c10 := Bool.eq_false_iff.mpr c10
            subst c10
            have H1 : (laws_FnRedHatOrder.j1 kj3 a0 a1 a2 true) = some r := by rw [if_neg (show ¬ (false = true) by decide)] at H; exact H
            clear H
            have H := H1
            clear H1
            have H' := Aside0.mk H
            clear H
            go_wp2_with (first | ((with_reducible refine gate_dst (N := 31) rfl ?_); (try (refine gate_guard (by rfl) ?_; dsimp only)); refine Kd.R_lit Kd.string _ 9 ?hg (N := 31) ?hd (xs := ([a0, a1, a2] : List ByteArray)) (inner := [.string a0, .string a1, .string a2]) (ok := fun _ => True) (okp := fun _ => True) ?hr ?hp (fun _ hk => hk) trivial (Below.refl _ _) (Nat.le_refl _) (by simp) ?_; (case hd => rfl); (case hg => rfl); (case hr => first | (go_simp; done) | (go_simp; rfl)); (case hp => exact (Reps.one (show Kd.M Kd.string _ _ _ a0 [.string a0] from rfl) (Reps.one (show Kd.M Kd.string _ _ _ a1 [.string a1] from rfl) (Reps.one (show Kd.M Kd.string _ _ _ a2 [.string a2] from rfl) (Reps.none _ _))))); intro v182 w40 ho41 hb hg_ hnew_; clear hg_ hnew_; (first | rw [← Ny181.out] at ho41 | (simp only [Int.reduceToNat] at ho41; rw [← Ny181.out] at ho41)); have n0_ := Aside0.mk (Kd.R_lower ho41 (below_size (by repeat (first | (with_reducible first | exact HB.out | apply below_alloc | apply pw_below_drewN | apply below_drew1) | exact HB.out)))); have n1_ := Aside0.mk (below_step (by repeat (first | (with_reducible first | exact HB.out | apply below_alloc | apply pw_below_drewN | apply below_drew1) | exact HB.out)) hb); clear HB; have HO183 := n0_; have HB := n1_; clear n0_ n1_; clear hb ho41; obtain ⟨Ao42, co42, eo42⟩ := Kd.R_slice HO183.out; subst eo42) | ((with_reducible refine gate_callee (f := 8) rfl ?_); refine goesL_ (some 32) rfl rfl Tryd.func8 (by kernel_rfl) rfl #[.slice Ao42 y181.length co42] rfl (by (try simp only [List.map_toArray, List.map_cons, List.map_nil]); first | done | rfl | (simp only [List.length_drop, List.length_take]; rfl)) ?_; (with_reducible refine (laws_short.calls kj3 _ _ y181 false _ ?side1 ?side2 A9.out).mono ?_); (case side1 => repeat (first | exact (Kd.R_reads' HO183.out).2.2 | (with_reducible refine Kd.C_alloc ?_ _) | (with_reducible refine Kd.C_drewN ?_ _) | (with_reducible refine Kd.C_drew ?_))); (case side2 => exact (Kd.R_reads' HO183.out).2.1); rintro e w' ⟨rfl, ⟨nd, rfl⟩⟩; refine ⟨_, rfl, ?_⟩))
            go_meet
            case rel => exact ⟨_, (true), (by first | rfl | (simp; done) | (simp [*]; done)), H', ⟨by have := HJ3.out; first | omega | exact Nat.le_refl _⟩, ⟨by repeat (first | (with_reducible first | exact HB.out | apply below_alloc | apply pw_below_drewN | apply below_drew1) | exact HB.out)⟩⟩
        case rest =>
          clear HC8
          try clear c1
          try clear c2
          try clear p2
          try clear c4
          try clear c5
          try clear c5b0
          try clear c5b1
          try clear c6
          try clear c6b0
          try clear c6b1
          try clear c7
          try clear c8
          try clear c10
          try clear c12
          try clear c14
          try clear c16
          try clear c18
          try clear c20
          try clear p2
          obtain ⟨kq, x63_7, rfl, HA, HJ7, HB⟩ := hcut
          cases kq with
          | zero => exact absurd HA.out (by simp [laws_FnRedHatOrder.j1])
          | succ kj7 =>
            have H := HA.out
            clear HA
            simp only [laws_FnRedHatOrder.j1] at H
            by_cases c43 : x63_7 = true
            · subst c43
              have H1 : (some true) = some r := by rw [if_pos rfl] at H; exact H
              clear H
              have H := H1
              clear H1
              obtain rfl := Option.some.inj H
              go_wp2
              go_ret
              exact ⟨by first | rfl | (simp [errW_none, errW_some] <;> rfl) | (simp [*, errW_none, errW_some] <;> rfl), by repeat (first | (with_reducible first | exact HB.out | apply below_alloc | apply pw_below_drewN | apply below_drew1) | exact HB.out)⟩
            · replace c43 := Bool.eq_false_iff.mpr c43
              subst c43
              have H1 : ((impl_RedHatCompare.f kj7 a0 a1).bind fun bt191 => ((impl_RedHatCompare.f kj7 a1 a2).bind fun bt193 => ((impl_RedHatCompare.f kj7 a0 a2).bind fun bt195 => ((impl_RedHatCompare.f kj7 a0 a0).bind fun bt197 => (if bt191.2 = true then (if bt193.2 = true then (if bt195.2 = true then (if bt197.2 = true then (if bt197.1 = 0 then ((laws_chained.f kj7 bt191.1 bt193.1 bt195.1).bind fun t199 => (some t199)) else (some false)) else (some false)) else (some false)) else (some false)) else (some false)))))) = some r := by rw [if_neg (show ¬ (false = true) by decide)] at H; exact H
              clear H
              have H := H1
              clear H1
              replace H := Option.bind_eq_some_iff.mp H
              obtain ⟨⟨t191, t192⟩, A440, H⟩ := H
              replace H : ((impl_RedHatCompare.f kj7 a1 a2).bind fun bt193 => ((impl_RedHatCompare.f kj7 a0 a2).bind fun bt195 => ((impl_RedHatCompare.f kj7 a0 a0).bind fun bt197 => (if t192 = true then (if bt193.2 = true then (if bt195.2 = true then (if bt197.2 = true then (if bt197.1 = 0 then ((laws_chained.f kj7 t191 bt193.1 bt195.1).bind fun t199 => (some t199)) else (some false)) else (some false)) else (some false)) else (some false)) else (some false))))) = some r := H
              have A44 := Aside0.mk A440
              clear A440
              replace H := Option.bind_eq_some_iff.mp H
              obtain ⟨⟨t193, t194⟩, A450, H⟩ := H
              replace H : ((impl_RedHatCompare.f kj7 a0 a2).bind fun bt195 => ((impl_RedHatCompare.f kj7 a0 a0).bind fun bt197 => (if t192 = true then (if t194 = true then (if bt195.2 = true then (if bt197.2 = true then (if bt197.1 = 0 then ((laws_chained.f kj7 t191 t193 bt195.1).bind fun t199 => (some t199)) else (some false)) else (some false)) else (some false)) else (some false)) else (some false)))) = some r := H
              have A45 := Aside0.mk A450
              clear A450
              replace H := Option.bind_eq_some_iff.mp H
              obtain ⟨⟨t195, t196⟩, A460, H⟩ := H
              replace H : ((impl_RedHatCompare.f kj7 a0 a0).bind fun bt197 => (if t192 = true then (if t194 = true then (if t196 = true then (if bt197.2 = true then (if bt197.1 = 0 then ((laws_chained.f kj7 t191 t193 t195).bind fun t199 => (some t199)) else (some false)) else (some false)) else (some false)) else (some false)) else (some false))) = some r := H
              have A46 := Aside0.mk A460
              clear A460
              replace H := Option.bind_eq_some_iff.mp H
              obtain ⟨⟨t197, t198⟩, A470, H⟩ := H
              replace H : (if t192 = true then (if t194 = true then (if t196 = true then (if t198 = true then (if t197 = 0 then ((laws_chained.f kj7 t191 t193 t195).bind fun t199 => (some t199)) else (some false)) else (some false)) else (some false)) else (some false)) else (some false)) = some r := H
              have A47 := Aside0.mk A470
              clear A470
              by_cases c48 : t192 = true
              · subst c48
                have H1 : (if t194 = true then (if t196 = true then (if t198 = true then (if t197 = 0 then ((laws_chained.f kj7 t191 t193 t195).bind fun t199 => (some t199)) else (some false)) else (some false)) else (some false)) else (some false)) = some r := by rw [if_pos rfl] at H; exact H
                clear H
                have H := H1
                clear H1
                by_cases c49 : t194 = true
                · subst c49
                  have H1 : (if t196 = true then (if t198 = true then (if t197 = 0 then ((laws_chained.f kj7 t191 t193 t195).bind fun t199 => (some t199)) else (some false)) else (some false)) else (some false)) = some r := by rw [if_pos rfl] at H; exact H
                  clear H
                  have H := H1
                  clear H1
                  by_cases c50 : t196 = true
                  · subst c50
                    have H1 : (if t198 = true then (if t197 = 0 then ((laws_chained.f kj7 t191 t193 t195).bind fun t199 => (some t199)) else (some false)) else (some false)) = some r := by rw [if_pos rfl] at H; exact H
                    clear H
                    have H := H1
                    clear H1
                    by_cases c51 : t198 = true
                    · subst c51
                      have H1 : (if t197 = 0 then ((laws_chained.f kj7 t191 t193 t195).bind fun t199 => (some t199)) else (some false)) = some r := by rw [if_pos rfl] at H; exact H
                      clear H
                      have H := H1
                      clear H1
                      by_cases c52 : t197 = 0
                      · rw [if_pos c52] at H
                        have c52b0 : (t197 == 0) = true := beq_iff_eq.mpr c52
                        have c52b1 : (t197 != 0) = false := bne_eq_false_iff_eq.mpr c52
                        clear c52
                        replace H := Option.bind_eq_some_iff.mp H
                        obtain ⟨t199, A530, H⟩ := H
                        replace H : (some t199) = some r := H
                        have A53 := Aside0.mk A530
                        clear A530
                        obtain rfl := Option.some.inj H
                        go_wp2_with (first | ((with_reducible refine gate_callee (f := 13) rfl ?_); refine goesL_ (some 67) rfl rfl Tryd.func13 (by kernel_rfl) rfl #[.string a0, .string a1] rfl (by (try simp only [List.map_toArray, List.map_cons, List.map_nil]); first | done | rfl | (simp only [List.length_drop, List.length_take]; rfl)) ?_; (with_reducible refine (impl_RedHatCompare.calls kj7 a0 a1 t191 true _ A44.out).mono ?_); rintro e w54 ⟨rfl, hb⟩; refine ⟨_, rfl, ?_⟩; have n0_ := Aside0.mk (below_step (by repeat (first | (with_reducible first | exact HB.out | apply below_alloc | apply pw_below_drewN | apply below_drew1) | exact HB.out)) hb); clear HB; have HB := n0_; clear n0_; (try clear hb); (try clear hb2); (try clear hk); (try clear hi)) | ((with_reducible refine gate_callee (f := 13) rfl ?_); refine goesL_ (some 73) rfl rfl Tryd.func13 (by kernel_rfl) rfl #[.string a1, .string a2] rfl (by (try simp only [List.map_toArray, List.map_cons, List.map_nil]); first | done | rfl | (simp only [List.length_drop, List.length_take]; rfl)) ?_; (with_reducible refine (impl_RedHatCompare.calls kj7 a1 a2 t193 true _ A45.out).mono ?_); rintro e w55 ⟨rfl, hb⟩; refine ⟨_, rfl, ?_⟩; have n0_ := Aside0.mk (below_step (by repeat (first | (with_reducible first | exact HB.out | apply below_alloc | apply pw_below_drewN | apply below_drew1) | exact HB.out)) hb); clear HB; have HB := n0_; clear n0_; (try clear hb); (try clear hb2); (try clear hk); (try clear hi)) | ((with_reducible refine gate_callee (f := 13) rfl ?_); refine goesL_ (some 79) rfl rfl Tryd.func13 (by kernel_rfl) rfl #[.string a0, .string a2] rfl (by (try simp only [List.map_toArray, List.map_cons, List.map_nil]); first | done | rfl | (simp only [List.length_drop, List.length_take]; rfl)) ?_; (with_reducible refine (impl_RedHatCompare.calls kj7 a0 a2 t195 true _ A46.out).mono ?_); rintro e w56 ⟨rfl, hb⟩; refine ⟨_, rfl, ?_⟩; have n0_ := Aside0.mk (below_step (by repeat (first | (with_reducible first | exact HB.out | apply below_alloc | apply pw_below_drewN | apply below_drew1) | exact HB.out)) hb); clear HB; have HB := n0_; clear n0_; (try clear hb); (try clear hb2); (try clear hk); (try clear hi)) | ((with_reducible refine gate_callee (f := 13) rfl ?_); refine goesL_ (some 85) rfl rfl Tryd.func13 (by kernel_rfl) rfl #[.string a0, .string a0] rfl (by (try simp only [List.map_toArray, List.map_cons, List.map_nil]); first | done | rfl | (simp only [List.length_drop, List.length_take]; rfl)) ?_; (with_reducible refine (impl_RedHatCompare.calls kj7 a0 a0 t197 true _ A47.out).mono ?_); rintro e w57 ⟨rfl, hb⟩; refine ⟨_, rfl, ?_⟩; have n0_ := Aside0.mk (below_step (by repeat (first | (with_reducible first | exact HB.out | apply below_alloc | apply pw_below_drewN | apply below_drew1) | exact HB.out)) hb); clear HB; have HB := n0_; clear n0_; (try clear hb); (try clear hb2); (try clear hk); (try clear hi)) | (go_at_call 15; (with_reducible refine (laws_chained.calls kj7 t191 t193 t195 t199 _ A53.out).mono ?_); rintro e w' ⟨rfl, ⟨nd, rfl⟩⟩))
                        go_ret
                        exact ⟨by first | rfl | (simp [errW_none, errW_some] <;> rfl) | (simp [*, errW_none, errW_some] <;> rfl), by repeat (first | (with_reducible first | exact HB.out | apply below_alloc | apply pw_below_drewN | apply below_drew1) | exact HB.out)⟩
                      · rw [if_neg c52] at H
                        have c52b0 : (t197 == 0) = false := beq_eq_false_iff_ne.mpr c52
                        have c52b1 : (t197 != 0) = true := bne_iff_ne.mpr c52
                        obtain rfl := Option.some.inj H
                        go_wp2_with (first | ((with_reducible refine gate_callee (f := 13) rfl ?_); refine goesL_ (some 67) rfl rfl Tryd.func13 (by kernel_rfl) rfl #[.string a0, .string a1] rfl (by (try simp only [List.map_toArray, List.map_cons, List.map_nil]); first | done | rfl | (simp only [List.length_drop, List.length_take]; rfl)) ?_; (with_reducible refine (impl_RedHatCompare.calls kj7 a0 a1 t191 true _ A44.out).mono ?_); rintro e w58 ⟨rfl, hb⟩; refine ⟨_, rfl, ?_⟩; have n0_ := Aside0.mk (below_step (by repeat (first | (with_reducible first | exact HB.out | apply below_alloc | apply pw_below_drewN | apply below_drew1) | exact HB.out)) hb); clear HB; have HB := n0_; clear n0_; (try clear hb); (try clear hb2); (try clear hk); (try clear hi)) | ((with_reducible refine gate_callee (f := 13) rfl ?_); refine goesL_ (some 73) rfl rfl Tryd.func13 (by kernel_rfl) rfl #[.string a1, .string a2] rfl (by (try simp only [List.map_toArray, List.map_cons, List.map_nil]); first | done | rfl | (simp only [List.length_drop, List.length_take]; rfl)) ?_; (with_reducible refine (impl_RedHatCompare.calls kj7 a1 a2 t193 true _ A45.out).mono ?_); rintro e w59 ⟨rfl, hb⟩; refine ⟨_, rfl, ?_⟩; have n0_ := Aside0.mk (below_step (by repeat (first | (with_reducible first | exact HB.out | apply below_alloc | apply pw_below_drewN | apply below_drew1) | exact HB.out)) hb); clear HB; have HB := n0_; clear n0_; (try clear hb); (try clear hb2); (try clear hk); (try clear hi)) | ((with_reducible refine gate_callee (f := 13) rfl ?_); refine goesL_ (some 79) rfl rfl Tryd.func13 (by kernel_rfl) rfl #[.string a0, .string a2] rfl (by (try simp only [List.map_toArray, List.map_cons, List.map_nil]); first | done | rfl | (simp only [List.length_drop, List.length_take]; rfl)) ?_; (with_reducible refine (impl_RedHatCompare.calls kj7 a0 a2 t195 true _ A46.out).mono ?_); rintro e w60 ⟨rfl, hb⟩; refine ⟨_, rfl, ?_⟩; have n0_ := Aside0.mk (below_step (by repeat (first | (with_reducible first | exact HB.out | apply below_alloc | apply pw_below_drewN | apply below_drew1) | exact HB.out)) hb); clear HB; have HB := n0_; clear n0_; (try clear hb); (try clear hb2); (try clear hk); (try clear hi)) | ((with_reducible refine gate_callee (f := 13) rfl ?_); refine goesL_ (some 85) rfl rfl Tryd.func13 (by kernel_rfl) rfl #[.string a0, .string a0] rfl (by (try simp only [List.map_toArray, List.map_cons, List.map_nil]); first | done | rfl | (simp only [List.length_drop, List.length_take]; rfl)) ?_; (with_reducible refine (impl_RedHatCompare.calls kj7 a0 a0 t197 true _ A47.out).mono ?_); rintro e w61 ⟨rfl, hb⟩; refine ⟨_, rfl, ?_⟩; have n0_ := Aside0.mk (below_step (by repeat (first | (with_reducible first | exact HB.out | apply below_alloc | apply pw_below_drewN | apply below_drew1) | exact HB.out)) hb); clear HB; have HB := n0_; clear n0_; (try clear hb); (try clear hb2); (try clear hk); (try clear hi)))
                        go_ret
                        exact ⟨by first | rfl | (simp [errW_none, errW_some] <;> rfl) | (simp [*, errW_none, errW_some] <;> rfl), by repeat (first | (with_reducible first | exact HB.out | apply below_alloc | apply pw_below_drewN | apply below_drew1) | exact HB.out)⟩
                    · replace c51 := Bool.eq_false_iff.mpr c51
                      subst c51
                      have H1 : (some false) = some r := by rw [if_neg (show ¬ (false = true) by decide)] at H; exact H
                      clear H
                      have H := H1
                      clear H1
                      obtain rfl := Option.some.inj H
                      go_wp2_with (first | ((with_reducible refine gate_callee (f := 13) rfl ?_); refine goesL_ (some 67) rfl rfl Tryd.func13 (by kernel_rfl) rfl #[.string a0, .string a1] rfl (by (try simp only [List.map_toArray, List.map_cons, List.map_nil]); first | done | rfl | (simp only [List.length_drop, List.length_take]; rfl)) ?_; (with_reducible refine (impl_RedHatCompare.calls kj7 a0 a1 t191 true _ A44.out).mono ?_); rintro e w62 ⟨rfl, hb⟩; refine ⟨_, rfl, ?_⟩; have n0_ := Aside0.mk (below_step (by repeat (first | (with_reducible first | exact HB.out | apply below_alloc | apply pw_below_drewN | apply below_drew1) | exact HB.out)) hb); clear HB; have HB := n0_; clear n0_; (try clear hb); (try clear hb2); (try clear hk); (try clear hi)) | ((with_reducible refine gate_callee (f := 13) rfl ?_); refine goesL_ (some 73) rfl rfl Tryd.func13 (by kernel_rfl) rfl #[.string a1, .string a2] rfl (by (try simp only [List.map_toArray, List.map_cons, List.map_nil]); first | done | rfl | (simp only [List.length_drop, List.length_take]; rfl)) ?_; (with_reducible refine (impl_RedHatCompare.calls kj7 a1 a2 t193 true _ A45.out).mono ?_); rintro e w63 ⟨rfl, hb⟩; refine ⟨_, rfl, ?_⟩; have n0_ := Aside0.mk (below_step (by repeat (first | (with_reducible first | exact HB.out | apply below_alloc | apply pw_below_drewN | apply below_drew1) | exact HB.out)) hb); clear HB; have HB := n0_; clear n0_; (try clear hb); (try clear hb2); (try clear hk); (try clear hi)) | ((with_reducible refine gate_callee (f := 13) rfl ?_); refine goesL_ (some 79) rfl rfl Tryd.func13 (by kernel_rfl) rfl #[.string a0, .string a2] rfl (by (try simp only [List.map_toArray, List.map_cons, List.map_nil]); first | done | rfl | (simp only [List.length_drop, List.length_take]; rfl)) ?_; (with_reducible refine (impl_RedHatCompare.calls kj7 a0 a2 t195 true _ A46.out).mono ?_); rintro e w64 ⟨rfl, hb⟩; refine ⟨_, rfl, ?_⟩; have n0_ := Aside0.mk (below_step (by repeat (first | (with_reducible first | exact HB.out | apply below_alloc | apply pw_below_drewN | apply below_drew1) | exact HB.out)) hb); clear HB; have HB := n0_; clear n0_; (try clear hb); (try clear hb2); (try clear hk); (try clear hi)) | ((with_reducible refine gate_callee (f := 13) rfl ?_); refine goesL_ (some 85) rfl rfl Tryd.func13 (by kernel_rfl) rfl #[.string a0, .string a0] rfl (by (try simp only [List.map_toArray, List.map_cons, List.map_nil]); first | done | rfl | (simp only [List.length_drop, List.length_take]; rfl)) ?_; (with_reducible refine (impl_RedHatCompare.calls kj7 a0 a0 t197 false _ A47.out).mono ?_); rintro e w65 ⟨rfl, hb⟩; refine ⟨_, rfl, ?_⟩; have n0_ := Aside0.mk (below_step (by repeat (first | (with_reducible first | exact HB.out | apply below_alloc | apply pw_below_drewN | apply below_drew1) | exact HB.out)) hb); clear HB; have HB := n0_; clear n0_; (try clear hb); (try clear hb2); (try clear hk); (try clear hi)))
                      go_ret
                      exact ⟨by first | rfl | (simp [errW_none, errW_some] <;> rfl) | (simp [*, errW_none, errW_some] <;> rfl), by repeat (first | (with_reducible first | exact HB.out | apply below_alloc | apply pw_below_drewN | apply below_drew1) | exact HB.out)⟩
                  · replace c50 := Bool.eq_false_iff.mpr c50
                    subst c50
                    have H1 : (some false) = some r := by rw [if_neg (show ¬ (false = true) by decide)] at H; exact H
                    clear H
                    have H := H1
                    clear H1
                    obtain rfl := Option.some.inj H
                    go_wp2_with (first | ((with_reducible refine gate_callee (f := 13) rfl ?_); refine goesL_ (some 67) rfl rfl Tryd.func13 (by kernel_rfl) rfl #[.string a0, .string a1] rfl (by (try simp only [List.map_toArray, List.map_cons, List.map_nil]); first | done | rfl | (simp only [List.length_drop, List.length_take]; rfl)) ?_; (with_reducible refine (impl_RedHatCompare.calls kj7 a0 a1 t191 true _ A44.out).mono ?_); rintro e w66 ⟨rfl, hb⟩; refine ⟨_, rfl, ?_⟩; have n0_ := Aside0.mk (below_step (by repeat (first | (with_reducible first | exact HB.out | apply below_alloc | apply pw_below_drewN | apply below_drew1) | exact HB.out)) hb); clear HB; have HB := n0_; clear n0_; (try clear hb); (try clear hb2); (try clear hk); (try clear hi)) | ((with_reducible refine gate_callee (f := 13) rfl ?_); refine goesL_ (some 73) rfl rfl Tryd.func13 (by kernel_rfl) rfl #[.string a1, .string a2] rfl (by (try simp only [List.map_toArray, List.map_cons, List.map_nil]); first | done | rfl | (simp only [List.length_drop, List.length_take]; rfl)) ?_; (with_reducible refine (impl_RedHatCompare.calls kj7 a1 a2 t193 true _ A45.out).mono ?_); rintro e w67 ⟨rfl, hb⟩; refine ⟨_, rfl, ?_⟩; have n0_ := Aside0.mk (below_step (by repeat (first | (with_reducible first | exact HB.out | apply below_alloc | apply pw_below_drewN | apply below_drew1) | exact HB.out)) hb); clear HB; have HB := n0_; clear n0_; (try clear hb); (try clear hb2); (try clear hk); (try clear hi)) | ((with_reducible refine gate_callee (f := 13) rfl ?_); refine goesL_ (some 79) rfl rfl Tryd.func13 (by kernel_rfl) rfl #[.string a0, .string a2] rfl (by (try simp only [List.map_toArray, List.map_cons, List.map_nil]); first | done | rfl | (simp only [List.length_drop, List.length_take]; rfl)) ?_; (with_reducible refine (impl_RedHatCompare.calls kj7 a0 a2 t195 false _ A46.out).mono ?_); rintro e w68 ⟨rfl, hb⟩; refine ⟨_, rfl, ?_⟩; have n0_ := Aside0.mk (below_step (by repeat (first | (with_reducible first | exact HB.out | apply below_alloc | apply pw_below_drewN | apply below_drew1) | exact HB.out)) hb); clear HB; have HB := n0_; clear n0_; (try clear hb); (try clear hb2); (try clear hk); (try clear hi)) | ((with_reducible refine gate_callee (f := 13) rfl ?_); refine goesL_ (some 85) rfl rfl Tryd.func13 (by kernel_rfl) rfl #[.string a0, .string a0] rfl (by (try simp only [List.map_toArray, List.map_cons, List.map_nil]); first | done | rfl | (simp only [List.length_drop, List.length_take]; rfl)) ?_; (with_reducible refine (impl_RedHatCompare.calls kj7 a0 a0 t197 t198 _ A47.out).mono ?_); rintro e w69 ⟨rfl, hb⟩; refine ⟨_, rfl, ?_⟩; have n0_ := Aside0.mk (below_step (by repeat (first | (with_reducible first | exact HB.out | apply below_alloc | apply pw_below_drewN | apply below_drew1) | exact HB.out)) hb); clear HB; have HB := n0_; clear n0_; (try clear hb); (try clear hb2); (try clear hk); (try clear hi)))
                    go_ret
                    exact ⟨by first | rfl | (simp [errW_none, errW_some] <;> rfl) | (simp [*, errW_none, errW_some] <;> rfl), by repeat (first | (with_reducible first | exact HB.out | apply below_alloc | apply pw_below_drewN | apply below_drew1) | exact HB.out)⟩
                · replace c49 := Bool.eq_false_iff.mpr c49
                  subst c49
                  have H1 : (some false) = some r := by rw [if_neg (show ¬ (false = true) by decide)] at H; exact H
                  clear H
                  have H := H1
                  clear H1
                  obtain rfl := Option.some.inj H
                  go_wp2_with (first | ((with_reducible refine gate_callee (f := 13) rfl ?_); refine goesL_ (some 67) rfl rfl Tryd.func13 (by kernel_rfl) rfl #[.string a0, .string a1] rfl (by (try simp only [List.map_toArray, List.map_cons, List.map_nil]); first | done | rfl | (simp only [List.length_drop, List.length_take]; rfl)) ?_; (with_reducible refine (impl_RedHatCompare.calls kj7 a0 a1 t191 true _ A44.out).mono ?_); rintro e w70 ⟨rfl, hb⟩; refine ⟨_, rfl, ?_⟩; have n0_ := Aside0.mk (below_step (by repeat (first | (with_reducible first | exact HB.out | apply below_alloc | apply pw_below_drewN | apply below_drew1) | exact HB.out)) hb); clear HB; have HB := n0_; clear n0_; (try clear hb); (try clear hb2); (try clear hk); (try clear hi)) | ((with_reducible refine gate_callee (f := 13) rfl ?_); refine goesL_ (some 73) rfl rfl Tryd.func13 (by kernel_rfl) rfl #[.string a1, .string a2] rfl (by (try simp only [List.map_toArray, List.map_cons, List.map_nil]); first | done | rfl | (simp only [List.length_drop, List.length_take]; rfl)) ?_; (with_reducible refine (impl_RedHatCompare.calls kj7 a1 a2 t193 false _ A45.out).mono ?_); rintro e w71 ⟨rfl, hb⟩; refine ⟨_, rfl, ?_⟩; have n0_ := Aside0.mk (below_step (by repeat (first | (with_reducible first | exact HB.out | apply below_alloc | apply pw_below_drewN | apply below_drew1) | exact HB.out)) hb); clear HB; have HB := n0_; clear n0_; (try clear hb); (try clear hb2); (try clear hk); (try clear hi)) | ((with_reducible refine gate_callee (f := 13) rfl ?_); refine goesL_ (some 79) rfl rfl Tryd.func13 (by kernel_rfl) rfl #[.string a0, .string a2] rfl (by (try simp only [List.map_toArray, List.map_cons, List.map_nil]); first | done | rfl | (simp only [List.length_drop, List.length_take]; rfl)) ?_; (with_reducible refine (impl_RedHatCompare.calls kj7 a0 a2 t195 t196 _ A46.out).mono ?_); rintro e w72 ⟨rfl, hb⟩; refine ⟨_, rfl, ?_⟩; have n0_ := Aside0.mk (below_step (by repeat (first | (with_reducible first | exact HB.out | apply below_alloc | apply pw_below_drewN | apply below_drew1) | exact HB.out)) hb); clear HB; have HB := n0_; clear n0_; (try clear hb); (try clear hb2); (try clear hk); (try clear hi)) | ((with_reducible refine gate_callee (f := 13) rfl ?_); refine goesL_ (some 85) rfl rfl Tryd.func13 (by kernel_rfl) rfl #[.string a0, .string a0] rfl (by (try simp only [List.map_toArray, List.map_cons, List.map_nil]); first | done | rfl | (simp only [List.length_drop, List.length_take]; rfl)) ?_; (with_reducible refine (impl_RedHatCompare.calls kj7 a0 a0 t197 t198 _ A47.out).mono ?_); rintro e w73 ⟨rfl, hb⟩; refine ⟨_, rfl, ?_⟩; have n0_ := Aside0.mk (below_step (by repeat (first | (with_reducible first | exact HB.out | apply below_alloc | apply pw_below_drewN | apply below_drew1) | exact HB.out)) hb); clear HB; have HB := n0_; clear n0_; (try clear hb); (try clear hb2); (try clear hk); (try clear hi)))
                  go_ret
                  exact ⟨by first | rfl | (simp [errW_none, errW_some] <;> rfl) | (simp [*, errW_none, errW_some] <;> rfl), by repeat (first | (with_reducible first | exact HB.out | apply below_alloc | apply pw_below_drewN | apply below_drew1) | exact HB.out)⟩
              · replace c48 := Bool.eq_false_iff.mpr c48
                subst c48
                have H1 : (some false) = some r := by rw [if_neg (show ¬ (false = true) by decide)] at H; exact H
                clear H
                have H := H1
                clear H1
                obtain rfl := Option.some.inj H
                go_wp2_with (first | ((with_reducible refine gate_callee (f := 13) rfl ?_); refine goesL_ (some 67) rfl rfl Tryd.func13 (by kernel_rfl) rfl #[.string a0, .string a1] rfl (by (try simp only [List.map_toArray, List.map_cons, List.map_nil]); first | done | rfl | (simp only [List.length_drop, List.length_take]; rfl)) ?_; (with_reducible refine (impl_RedHatCompare.calls kj7 a0 a1 t191 false _ A44.out).mono ?_); rintro e w74 ⟨rfl, hb⟩; refine ⟨_, rfl, ?_⟩; have n0_ := Aside0.mk (below_step (by repeat (first | (with_reducible first | exact HB.out | apply below_alloc | apply pw_below_drewN | apply below_drew1) | exact HB.out)) hb); clear HB; have HB := n0_; clear n0_; (try clear hb); (try clear hb2); (try clear hk); (try clear hi)) | ((with_reducible refine gate_callee (f := 13) rfl ?_); refine goesL_ (some 73) rfl rfl Tryd.func13 (by kernel_rfl) rfl #[.string a1, .string a2] rfl (by (try simp only [List.map_toArray, List.map_cons, List.map_nil]); first | done | rfl | (simp only [List.length_drop, List.length_take]; rfl)) ?_; (with_reducible refine (impl_RedHatCompare.calls kj7 a1 a2 t193 t194 _ A45.out).mono ?_); rintro e w75 ⟨rfl, hb⟩; refine ⟨_, rfl, ?_⟩; have n0_ := Aside0.mk (below_step (by repeat (first | (with_reducible first | exact HB.out | apply below_alloc | apply pw_below_drewN | apply below_drew1) | exact HB.out)) hb); clear HB; have HB := n0_; clear n0_; (try clear hb); (try clear hb2); (try clear hk); (try clear hi)) | ((with_reducible refine gate_callee (f := 13) rfl ?_); refine goesL_ (some 79) rfl rfl Tryd.func13 (by kernel_rfl) rfl #[.string a0, .string a2] rfl (by (try simp only [List.map_toArray, List.map_cons, List.map_nil]); first | done | rfl | (simp only [List.length_drop, List.length_take]; rfl)) ?_; (with_reducible refine (impl_RedHatCompare.calls kj7 a0 a2 t195 t196 _ A46.out).mono ?_); rintro e w76 ⟨rfl, hb⟩; refine ⟨_, rfl, ?_⟩; have n0_ := Aside0.mk (below_step (by repeat (first | (with_reducible first | exact HB.out | apply below_alloc | apply pw_below_drewN | apply below_drew1) | exact HB.out)) hb); clear HB; have HB := n0_; clear n0_; (try clear hb); (try clear hb2); (try clear hk); (try clear hi)) | ((with_reducible refine gate_callee (f := 13) rfl ?_); refine goesL_ (some 85) rfl rfl Tryd.func13 (by kernel_rfl) rfl #[.string a0, .string a0] rfl (by (try simp only [List.map_toArray, List.map_cons, List.map_nil]); first | done | rfl | (simp only [List.length_drop, List.length_take]; rfl)) ?_; (with_reducible refine (impl_RedHatCompare.calls kj7 a0 a0 t197 t198 _ A47.out).mono ?_); rintro e w77 ⟨rfl, hb⟩; refine ⟨_, rfl, ?_⟩; have n0_ := Aside0.mk (below_step (by repeat (first | (with_reducible first | exact HB.out | apply below_alloc | apply pw_below_drewN | apply below_drew1) | exact HB.out)) hb); clear HB; have HB := n0_; clear n0_; (try clear hb); (try clear hb2); (try clear hk); (try clear hi)))
                go_ret
                exact ⟨by first | rfl | (simp [errW_none, errW_some] <;> rfl) | (simp [*, errW_none, errW_some] <;> rfl), by repeat (first | (with_reducible first | exact HB.out | apply below_alloc | apply pw_below_drewN | apply below_drew1) | exact HB.out)⟩

/-- THE ONE PURE STATEMENT of laws_FnRedHatOrder. -/
def laws_FnRedHatOrder.Pure : Prop := ∀ (a0 : ByteArray) (a1 : ByteArray) (a2 : ByteArray), a0.size ≤ 140737488351232 → a1.size ≤ 140737488351232 → a2.size ≤ 140737488351232 → ∃ k, laws_FnRedHatOrder.f k a0 a1 a2 = some true
theorem laws_FnRedHatOrder.walk (P : laws_FnRedHatOrder.Pure) (a0 : ByteArray) (a1 : ByteArray) (a2 : ByteArray) (w : World) (hm0 : a0.size ≤ 140737488351232) (hm1 : a1.size ≤ 140737488351232) (hm2 : a2.size ≤ 140737488351232)  :
    Calls Tryd.prog 4 #[.string a0, .string a1, .string a2] w fun e w' => e = .returned (.bool true) ∧ Below w.heap.size w w' := by
  obtain ⟨k, h⟩ := P a0 a1 a2 hm0 hm1 hm2
  refine (laws_FnRedHatOrder.calls k a0 a1 a2 true w  h).mono ?_
  rintro e w' ⟨rfl, hd⟩
  exact ⟨rfl, hd⟩

end Go.Proofs.YtciojhhncfnagaaDoor.Z
