-- Written by a program of this session (myprint.py).
import Derived.Test.YtciojhhncfnagaaDoorZ0
import Derived.Test.YtciojhhncfnagaaDoorZ1
import Derived.Test.YtciojhhncfnagaaDoorZ11
import Derived.Test.YtciojhhncfnagaaDoorGe
namespace Go.Proofs.YtciojhhncfnagaaDoor.Z
open Go.RowKit Go.Proofs.YtciojhhncfnagaaDoorW.PrintWords Go.Proofs.YtciojhhncfnagaaDoorW.PrintLast Go.Proofs.YtciojhhncfnagaaDoorW.PrintMore
attribute [local go_sem high] Go.Proofs.YtciojhhncfnagaaDoor.Ge.gtr_str
attribute [local go_sem] max2_int min2_int max_two min_two max_three min_three max_four min_four   -- for this text's walks alone
set_option linter.unusedVariables false
set_option linter.unusedSimpArgs false

/-! ### laws_FnRedHatMarks: function 5 -/
mutual
def laws_FnRedHatMarks.j0 : Nat → ByteArray → ByteArray → ByteArray → ByteArray → Bool → Option (Bool)
  | 0, _, _, _, _, _ => none
  | k + 1, x0, x1, x2, x3, x29 => if x29 = true then (some true) else ((laws_short.f k (([x0, x1, x2, x3] : List ByteArray))).bind fun t208 => (if t208 = true then ((laws_plain.f k x0 (⟨#[]⟩ : ByteArray)).bind fun t209 => (if t209 = true then ((laws_plain.f k x1 (⟨#[]⟩ : ByteArray)).bind fun t210 => (if t210 = true then (if x2.toList = ([] : List UInt8) then (laws_FnRedHatMarks.j1 k x0 x1 x2 x3 true) else (laws_FnRedHatMarks.j1 k x0 x1 x2 x3 (x3.toList.isEmpty))) else (laws_FnRedHatMarks.j1 k x0 x1 x2 x3 true))) else (laws_FnRedHatMarks.j1 k x0 x1 x2 x3 true))) else (laws_FnRedHatMarks.j1 k x0 x1 x2 x3 true)))
def laws_FnRedHatMarks.j1 : Nat → ByteArray → ByteArray → ByteArray → ByteArray → Bool → Option (Bool)
  | 0, _, _, _, _, _ => none
  | k + 1, x0, x1, x2, x3, x54 => if x54 = true then (some true) else ((some (([x2, x3] : List ByteArray) : List ByteArray)).bind fun y211 => (laws_FnRedHatMarks.l0 k x0 x1 x2 x3 y211 (y211.length : Int) 0))
def laws_FnRedHatMarks.l0 : Nat → ByteArray → ByteArray → ByteArray → ByteArray → List ByteArray → Int → Int → Option (Bool)
  | 0, _, _, _, _, _, _, _ => none
  | k + 1, x0, x1, x2, x3, x57, x58, x59 => if x59 < x58 then (if 0 ≤ x59 then (if x59 < (x57.length : Int) then (laws_FnRedHatMarks.l1 k x0 x1 x2 x3 (rdOf ByteArray.empty x57 x59) 0 x57 x58 x59) else (none)) else (none)) else ((laws_redhatAwake.f k).bind fun t214 => (if t214 = true then (if x0.size + x2.size ≤ 9223372036854775807 then (if (x0 ++ x2).size + x1.size ≤ 9223372036854775807 then (if x0.size + x3.size ≤ 9223372036854775807 then (if (x0 ++ x3).size + x1.size ≤ 9223372036854775807 then ((impl_RedHatParts.f ((x0 ++ x2) ++ x1) ((x0 ++ x3) ++ x1)).bind fun t215 => (some (t215 == 0))) else (none)) else (none)) else (none)) else (none)) else (some false)))
def laws_FnRedHatMarks.l1 : Nat → ByteArray → ByteArray → ByteArray → ByteArray → ByteArray → Int → List ByteArray → Int → Int → Option (Bool)
  | 0, _, _, _, _, _, _, _, _, _ => none
  | k + 1, x0, x1, x2, x3, x10, x11, x57, x58, x59 => if x11 < (x10.size : Int) then (if 0 ≤ x11 then (if (bt x10 x11) = 46 then (laws_FnRedHatMarks.l1 k x0 x1 x2 x3 x10 (wrap64 (x11 + 1)) x57 x58 x59) else (if (bt x10 x11) = 95 then (laws_FnRedHatMarks.l1 k x0 x1 x2 x3 x10 (wrap64 (x11 + 1)) x57 x58 x59) else (if (bt x10 x11) = 43 then (laws_FnRedHatMarks.l1 k x0 x1 x2 x3 x10 (wrap64 (x11 + 1)) x57 x58 x59) else (some true)))) else (none)) else (laws_FnRedHatMarks.l0 k x0 x1 x2 x3 x57 x58 (wrap64 (x59 + 1)))
end
def laws_FnRedHatMarks.f (k : Nat) (a0 : ByteArray) (a1 : ByteArray) (a2 : ByteArray) (a3 : ByteArray) : Option (Bool) := if (a0.size : Int) > 2147483647 then (laws_FnRedHatMarks.j0 k a0 a1 a2 a3 true) else (if (a1.size : Int) > 2147483647 then (laws_FnRedHatMarks.j0 k a0 a1 a2 a3 true) else (if (a2.size : Int) > 2147483647 then (laws_FnRedHatMarks.j0 k a0 a1 a2 a3 true) else (laws_FnRedHatMarks.j0 k a0 a1 a2 a3 (decide ((a3.size : Int) > 2147483647)))))
theorem laws_FnRedHatMarks.mono_l : ∀ k, (∀ y0 y1 y2 y3 y4, LeO (laws_FnRedHatMarks.j0 k y0 y1 y2 y3 y4) (laws_FnRedHatMarks.j0 (k + 1) y0 y1 y2 y3 y4)) ∧ (∀ y0 y1 y2 y3 y4, LeO (laws_FnRedHatMarks.j1 k y0 y1 y2 y3 y4) (laws_FnRedHatMarks.j1 (k + 1) y0 y1 y2 y3 y4)) ∧ (∀ y0 y1 y2 y3 y4 y5 y6, LeO (laws_FnRedHatMarks.l0 k y0 y1 y2 y3 y4 y5 y6) (laws_FnRedHatMarks.l0 (k + 1) y0 y1 y2 y3 y4 y5 y6)) ∧ (∀ y0 y1 y2 y3 y4 y5 y6 y7 y8, LeO (laws_FnRedHatMarks.l1 k y0 y1 y2 y3 y4 y5 y6 y7 y8) (laws_FnRedHatMarks.l1 (k + 1) y0 y1 y2 y3 y4 y5 y6 y7 y8))
  | 0 => ⟨fun _ _ _ _ _ r h => by simp [laws_FnRedHatMarks.j0] at h, fun _ _ _ _ _ r h => by simp [laws_FnRedHatMarks.j1] at h, fun _ _ _ _ _ _ _ r h => by simp [laws_FnRedHatMarks.l0] at h, fun _ _ _ _ _ _ _ _ _ r h => by simp [laws_FnRedHatMarks.l1] at h⟩
  | k + 1 => by
    obtain ⟨ih0, ih1, ih2, ih3⟩ := laws_FnRedHatMarks.mono_l k
    refine ⟨?_, ?_, ?_, ?_⟩
    · intro y0 y1 y2 y3 y4
      unfold laws_FnRedHatMarks.j0
      repeat' first
      | (with_reducible exact ih0 _ _ _ _ _)
      | (with_reducible exact ih1 _ _ _ _ _)
      | (with_reducible exact ih2 _ _ _ _ _ _ _)
      | (with_reducible exact ih3 _ _ _ _ _ _ _ _ _)
      | (with_reducible exact laws_plain.mono _ _ _)
      | (with_reducible exact laws_redhatAwake.mono _)
      | (with_reducible exact laws_short.mono _ _)
      | (with_reducible exact LeO.refl _)
      | (with_reducible exact LeO.none _)
      | (with_reducible refine LeO.ite ?_ ?_)
      | (with_reducible refine LeO.bind ?_ (fun _ => ?_))
      | exact ih0 _ _ _ _ _
      | exact ih1 _ _ _ _ _
      | exact ih2 _ _ _ _ _ _ _
      | exact ih3 _ _ _ _ _ _ _ _ _
      | exact laws_plain.mono _ _ _
      | exact laws_redhatAwake.mono _
      | exact laws_short.mono _ _
      | exact LeO.none _
      | refine LeO.ite ?_ ?_
      | refine LeO.bind ?_ (fun _ => ?_)
    · intro y0 y1 y2 y3 y4
      unfold laws_FnRedHatMarks.j1
      repeat' first
      | (with_reducible exact ih0 _ _ _ _ _)
      | (with_reducible exact ih1 _ _ _ _ _)
      | (with_reducible exact ih2 _ _ _ _ _ _ _)
      | (with_reducible exact ih3 _ _ _ _ _ _ _ _ _)
      | (with_reducible exact laws_plain.mono _ _ _)
      | (with_reducible exact laws_redhatAwake.mono _)
      | (with_reducible exact laws_short.mono _ _)
      | (with_reducible exact LeO.refl _)
      | (with_reducible exact LeO.none _)
      | (with_reducible refine LeO.ite ?_ ?_)
      | (with_reducible refine LeO.bind ?_ (fun _ => ?_))
      | exact ih0 _ _ _ _ _
      | exact ih1 _ _ _ _ _
      | exact ih2 _ _ _ _ _ _ _
      | exact ih3 _ _ _ _ _ _ _ _ _
      | exact laws_plain.mono _ _ _
      | exact laws_redhatAwake.mono _
      | exact laws_short.mono _ _
      | exact LeO.none _
      | refine LeO.ite ?_ ?_
      | refine LeO.bind ?_ (fun _ => ?_)
    · intro y0 y1 y2 y3 y4 y5 y6
      unfold laws_FnRedHatMarks.l0
      repeat' first
      | (with_reducible exact ih0 _ _ _ _ _)
      | (with_reducible exact ih1 _ _ _ _ _)
      | (with_reducible exact ih2 _ _ _ _ _ _ _)
      | (with_reducible exact ih3 _ _ _ _ _ _ _ _ _)
      | (with_reducible exact laws_plain.mono _ _ _)
      | (with_reducible exact laws_redhatAwake.mono _)
      | (with_reducible exact laws_short.mono _ _)
      | (with_reducible exact LeO.refl _)
      | (with_reducible exact LeO.none _)
      | (with_reducible refine LeO.ite ?_ ?_)
      | (with_reducible refine LeO.bind ?_ (fun _ => ?_))
      | exact ih0 _ _ _ _ _
      | exact ih1 _ _ _ _ _
      | exact ih2 _ _ _ _ _ _ _
      | exact ih3 _ _ _ _ _ _ _ _ _
      | exact laws_plain.mono _ _ _
      | exact laws_redhatAwake.mono _
      | exact laws_short.mono _ _
      | exact LeO.none _
      | refine LeO.ite ?_ ?_
      | refine LeO.bind ?_ (fun _ => ?_)
    · intro y0 y1 y2 y3 y4 y5 y6 y7 y8
      unfold laws_FnRedHatMarks.l1
      repeat' first
      | (with_reducible exact ih0 _ _ _ _ _)
      | (with_reducible exact ih1 _ _ _ _ _)
      | (with_reducible exact ih2 _ _ _ _ _ _ _)
      | (with_reducible exact ih3 _ _ _ _ _ _ _ _ _)
      | (with_reducible exact laws_plain.mono _ _ _)
      | (with_reducible exact laws_redhatAwake.mono _)
      | (with_reducible exact laws_short.mono _ _)
      | (with_reducible exact LeO.refl _)
      | (with_reducible exact LeO.none _)
      | (with_reducible refine LeO.ite ?_ ?_)
      | (with_reducible refine LeO.bind ?_ (fun _ => ?_))
      | exact ih0 _ _ _ _ _
      | exact ih1 _ _ _ _ _
      | exact ih2 _ _ _ _ _ _ _
      | exact ih3 _ _ _ _ _ _ _ _ _
      | exact laws_plain.mono _ _ _
      | exact laws_redhatAwake.mono _
      | exact laws_short.mono _ _
      | exact LeO.none _
      | refine LeO.ite ?_ ?_
      | refine LeO.bind ?_ (fun _ => ?_)
theorem laws_FnRedHatMarks.mono : ∀ a0 a1 a2 a3 k, LeO (laws_FnRedHatMarks.f k a0 a1 a2 a3) (laws_FnRedHatMarks.f (k + 1) a0 a1 a2 a3) := by
  intro a0 a1 a2 a3 k
  obtain ⟨ih0, ih1, ih2, ih3⟩ := laws_FnRedHatMarks.mono_l k
  unfold laws_FnRedHatMarks.f
  repeat' first
      | (with_reducible exact ih0 _ _ _ _ _)
      | (with_reducible exact ih1 _ _ _ _ _)
      | (with_reducible exact ih2 _ _ _ _ _ _ _)
      | (with_reducible exact ih3 _ _ _ _ _ _ _ _ _)
      | (with_reducible exact laws_plain.mono _ _ _)
      | (with_reducible exact laws_redhatAwake.mono _)
      | (with_reducible exact laws_short.mono _ _)
      | (with_reducible exact LeO.refl _)
      | (with_reducible exact LeO.none _)
      | (with_reducible refine LeO.ite ?_ ?_)
      | (with_reducible refine LeO.bind ?_ (fun _ => ?_))
      | exact ih0 _ _ _ _ _
      | exact ih1 _ _ _ _ _
      | exact ih2 _ _ _ _ _ _ _
      | exact ih3 _ _ _ _ _ _ _ _ _
      | exact laws_plain.mono _ _ _
      | exact laws_redhatAwake.mono _
      | exact laws_short.mono _ _
      | exact LeO.none _
      | refine LeO.ite ?_ ?_
      | refine LeO.bind ?_ (fun _ => ?_)
set_option maxHeartbeats 8000000 in
set_option maxRecDepth 100000 in
theorem laws_FnRedHatMarks.calls (k : Nat) (a0 : ByteArray) (a1 : ByteArray) (a2 : ByteArray) (a3 : ByteArray) (r : Bool) (w : World) (h : laws_FnRedHatMarks.f k a0 a1 a2 a3 = some r) :
    Calls Tryd.prog 5 #[.string a0, .string a1, .string a2, .string a3] w fun e w' => e = .returned (.bool r) ∧ Below w.heap.size w w' := by
  have HB := Aside0.mk (Below.refl w.heap.size w)
  have H : (if (a0.size : Int) > 2147483647 then (laws_FnRedHatMarks.j0 k a0 a1 a2 a3 true) else (if (a1.size : Int) > 2147483647 then (laws_FnRedHatMarks.j0 k a0 a1 a2 a3 true) else (if (a2.size : Int) > 2147483647 then (laws_FnRedHatMarks.j0 k a0 a1 a2 a3 true) else (laws_FnRedHatMarks.j0 k a0 a1 a2 a3 (decide ((a3.size : Int) > 2147483647)))))) = some r := h
  clear h
  have HC5 := Aside0.mk H
  clear H
  go_enter Tryd.func5, Tryd.ntmps5
  go_upto_region 1 with (fail)
  go_cut [29] (fun v29 wc => ∃ (kq : Nat) (x29_4 : Bool), v29 = .bool x29_4 ∧ Aside0 (laws_FnRedHatMarks.j0 kq a0 a1 a2 a3 x29_4 = some r) ∧ Aside0 (kq ≤ k) ∧ Aside0 (Below w.heap.size w wc))
  case first =>
    have H := HC5.out
    clear HC5
    by_cases c6 : (a0.size : Int) > 2147483647
    · rw [if_pos c6] at H
      have c6b0 : decide (2147483647 < (a0.size : Int)) = true := decide_eq_true c6
      have c6b1 : decide (2147483647 < a0.size) = true := decide_eq_true (by omega)
      clear c6
      (first | rw [c6b0] | (simp only [i64_w, i32_w]; rw [c6b0]) | skip)
      have H' := Aside0.mk H
      clear H
      go_wp2
      go_meet
      case rel => exact ⟨_, (true), (by first | rfl | (simp; done) | (simp [*]; done)), H', ⟨by first | omega | exact Nat.le_refl _⟩, ⟨by repeat (first | (with_reducible first | exact HB.out | apply below_alloc | apply pw_below_drewN | apply below_drew1) | exact HB.out)⟩⟩
    · rw [if_neg c6] at H
      have c6b0 : decide (2147483647 < (a0.size : Int)) = false := decide_eq_false c6
      have c6b1 : decide (2147483647 < a0.size) = false := decide_eq_false (by omega)
      clear c6
      (first | rw [c6b0] | (simp only [i64_w, i32_w]; rw [c6b0]) | skip)
      by_cases c7 : (a1.size : Int) > 2147483647
      · rw [if_pos c7] at H
        have c7b0 : decide (2147483647 < (a1.size : Int)) = true := decide_eq_true c7
        have c7b1 : decide (2147483647 < a1.size) = true := decide_eq_true (by omega)
        clear c7
        have H' := Aside0.mk H
        clear H
        go_wp2
        go_meet
        case rel => exact ⟨_, (true), (by first | rfl | (simp; done) | (simp [*]; done)), H', ⟨by first | omega | exact Nat.le_refl _⟩, ⟨by repeat (first | (with_reducible first | exact HB.out | apply below_alloc | apply pw_below_drewN | apply below_drew1) | exact HB.out)⟩⟩
      · rw [if_neg c7] at H
        have c7b0 : decide (2147483647 < (a1.size : Int)) = false := decide_eq_false c7
        have c7b1 : decide (2147483647 < a1.size) = false := decide_eq_false (by omega)
        clear c7
        by_cases c8 : (a2.size : Int) > 2147483647
        · rw [if_pos c8] at H
          have c8b0 : decide (2147483647 < (a2.size : Int)) = true := decide_eq_true c8
          have c8b1 : decide (2147483647 < a2.size) = true := decide_eq_true (by omega)
          clear c8
          have H' := Aside0.mk H
          clear H
          go_wp2
          go_meet
          case rel => exact ⟨_, (true), (by first | rfl | (simp; done) | (simp [*]; done)), H', ⟨by first | omega | exact Nat.le_refl _⟩, ⟨by repeat (first | (with_reducible first | exact HB.out | apply below_alloc | apply pw_below_drewN | apply below_drew1) | exact HB.out)⟩⟩
        · rw [if_neg c8] at H
          have c8b0 : decide (2147483647 < (a2.size : Int)) = false := decide_eq_false c8
          have c8b1 : decide (2147483647 < a2.size) = false := decide_eq_false (by omega)
          clear c8
          have H' := Aside0.mk H
          clear H
          go_wp2
          go_meet
          case rel => exact ⟨_, (decide ((a3.size : Int) > 2147483647)), (by first | rfl | (simp; done) | (simp [*]; done)), H', ⟨by first | omega | exact Nat.le_refl _⟩, ⟨by repeat (first | (with_reducible first | exact HB.out | apply below_alloc | apply pw_below_drewN | apply below_drew1) | exact HB.out)⟩⟩
  case rest =>
    clear HC5
    try clear p2
    try clear c5
    try clear c6
    try clear c6b0
    try clear c6b1
    try clear c7
    try clear c7b0
    try clear c7b1
    try clear c8
    try clear c8b0
    try clear c8b1
    obtain ⟨kq, x29_4, rfl, HA, HJ4, HB⟩ := hcut
    cases kq with
    | zero => exact absurd HA.out (by simp [laws_FnRedHatMarks.j0])
    | succ kj4 =>
      have H := HA.out
      clear HA
      simp only [laws_FnRedHatMarks.j0] at H
      by_cases c9 : x29_4 = true
      · subst c9
        have H1 : (some true) = some r := by rw [if_pos rfl] at H; exact H
        clear H
        have H := H1
        clear H1
        obtain rfl := Option.some.inj H
        go_wp2
        go_ret
        exact ⟨by first | rfl | (simp [errW_none, errW_some] <;> rfl) | (simp [*, errW_none, errW_some] <;> rfl), by repeat (first | (with_reducible first | exact HB.out | apply below_alloc | apply pw_below_drewN | apply below_drew1) | exact HB.out)⟩
      · replace c9 := Bool.eq_false_iff.mpr c9
        subst c9
        have H1 : ((laws_short.f kj4 (([a0, a1, a2, a3] : List ByteArray))).bind fun t208 => (if t208 = true then ((laws_plain.f kj4 a0 (⟨#[]⟩ : ByteArray)).bind fun t209 => (if t209 = true then ((laws_plain.f kj4 a1 (⟨#[]⟩ : ByteArray)).bind fun t210 => (if t210 = true then (if a2.toList = ([] : List UInt8) then (laws_FnRedHatMarks.j1 kj4 a0 a1 a2 a3 true) else (laws_FnRedHatMarks.j1 kj4 a0 a1 a2 a3 (a3.toList.isEmpty))) else (laws_FnRedHatMarks.j1 kj4 a0 a1 a2 a3 true))) else (laws_FnRedHatMarks.j1 kj4 a0 a1 a2 a3 true))) else (laws_FnRedHatMarks.j1 kj4 a0 a1 a2 a3 true))) = some r := by rw [if_neg (show ¬ (false = true) by decide)] at H; exact H
        clear H
        have H := H1
        clear H1
        have HC10 := Aside0.mk H
        clear H
        go_upto_region 3 with (fail)
        go_cut [54] (fun v54 wc => ∃ (kq : Nat) (x54_9 : Bool), v54 = .bool x54_9 ∧ Aside0 (laws_FnRedHatMarks.j1 kq a0 a1 a2 a3 x54_9 = some r) ∧ Aside0 (kq ≤ kj4) ∧ Aside0 (Below w.heap.size w wc))
        case first =>
          have H := HC10.out
          clear HC10
          obtain ⟨y205, hy205⟩ : ∃ y_ : List ByteArray, y_ = (([a0, a1, a2, a3] : List ByteArray)) := ⟨_, rfl⟩
          replace H : ((laws_short.f kj4 y205).bind fun t208 => (if t208 = true then ((laws_plain.f kj4 a0 (⟨#[]⟩ : ByteArray)).bind fun t209 => (if t209 = true then ((laws_plain.f kj4 a1 (⟨#[]⟩ : ByteArray)).bind fun t210 => (if t210 = true then (if a2.toList = ([] : List UInt8) then (laws_FnRedHatMarks.j1 kj4 a0 a1 a2 a3 true) else (laws_FnRedHatMarks.j1 kj4 a0 a1 a2 a3 (a3.toList.isEmpty))) else (laws_FnRedHatMarks.j1 kj4 a0 a1 a2 a3 true))) else (laws_FnRedHatMarks.j1 kj4 a0 a1 a2 a3 true))) else (laws_FnRedHatMarks.j1 kj4 a0 a1 a2 a3 true))) = some r := by first | (rw [hy205]; with_reducible exact H) | (have H2_ := (Option.bind_some _ _).symm.trans H; rw [hy205]; with_reducible exact H2_) | (have H2_ := (Option.bind_some _ _).symm.trans H; with_reducible exact H2_) | with_reducible exact H | (rw [hy205]; exact H) | exact H
          have Ny205 := Aside0.mk hy205
          clear hy205
          replace H := Option.bind_eq_some_iff.mp H
          obtain ⟨t208, A110, H⟩ := H
          replace H : (if t208 = true then ((laws_plain.f kj4 a0 (⟨#[]⟩ : ByteArray)).bind fun t209 => (if t209 = true then ((laws_plain.f kj4 a1 (⟨#[]⟩ : ByteArray)).bind fun t210 => (if t210 = true then (if a2.toList = ([] : List UInt8) then (laws_FnRedHatMarks.j1 kj4 a0 a1 a2 a3 true) else (laws_FnRedHatMarks.j1 kj4 a0 a1 a2 a3 (a3.toList.isEmpty))) else (laws_FnRedHatMarks.j1 kj4 a0 a1 a2 a3 true))) else (laws_FnRedHatMarks.j1 kj4 a0 a1 a2 a3 true))) else (laws_FnRedHatMarks.j1 kj4 a0 a1 a2 a3 true)) = some r := H
          have A11 := Aside0.mk A110
          clear A110
          by_cases c12 : t208 = true
          · subst c12
            have H1 : ((laws_plain.f kj4 a0 (⟨#[]⟩ : ByteArray)).bind fun t209 => (if t209 = true then ((laws_plain.f kj4 a1 (⟨#[]⟩ : ByteArray)).bind fun t210 => (if t210 = true then (if a2.toList = ([] : List UInt8) then (laws_FnRedHatMarks.j1 kj4 a0 a1 a2 a3 true) else (laws_FnRedHatMarks.j1 kj4 a0 a1 a2 a3 (a3.toList.isEmpty))) else (laws_FnRedHatMarks.j1 kj4 a0 a1 a2 a3 true))) else (laws_FnRedHatMarks.j1 kj4 a0 a1 a2 a3 true))) = some r := by rw [if_pos rfl] at H; exact H
            clear H
            have H := H1
            clear H1
            replace H := Option.bind_eq_some_iff.mp H
            obtain ⟨t209, A130, H⟩ := H
            replace H : (if t209 = true then ((laws_plain.f kj4 a1 (⟨#[]⟩ : ByteArray)).bind fun t210 => (if t210 = true then (if a2.toList = ([] : List UInt8) then (laws_FnRedHatMarks.j1 kj4 a0 a1 a2 a3 true) else (laws_FnRedHatMarks.j1 kj4 a0 a1 a2 a3 (a3.toList.isEmpty))) else (laws_FnRedHatMarks.j1 kj4 a0 a1 a2 a3 true))) else (laws_FnRedHatMarks.j1 kj4 a0 a1 a2 a3 true)) = some r := H
            have A13 := Aside0.mk A130
            clear A130
            by_cases c14 : t209 = true
            · subst c14
              have H1 : ((laws_plain.f kj4 a1 (⟨#[]⟩ : ByteArray)).bind fun t210 => (if t210 = true then (if a2.toList = ([] : List UInt8) then (laws_FnRedHatMarks.j1 kj4 a0 a1 a2 a3 true) else (laws_FnRedHatMarks.j1 kj4 a0 a1 a2 a3 (a3.toList.isEmpty))) else (laws_FnRedHatMarks.j1 kj4 a0 a1 a2 a3 true))) = some r := by rw [if_pos rfl] at H; exact H
              clear H
              have H := H1
              clear H1
              replace H := Option.bind_eq_some_iff.mp H
              obtain ⟨t210, A150, H⟩ := H
              replace H : (if t210 = true then (if a2.toList = ([] : List UInt8) then (laws_FnRedHatMarks.j1 kj4 a0 a1 a2 a3 true) else (laws_FnRedHatMarks.j1 kj4 a0 a1 a2 a3 (a3.toList.isEmpty))) else (laws_FnRedHatMarks.j1 kj4 a0 a1 a2 a3 true)) = some r := H
              have A15 := Aside0.mk A150
              clear A150
              by_cases c16 : t210 = true
              · subst c16
                have H1 : (if a2.toList = ([] : List UInt8) then (laws_FnRedHatMarks.j1 kj4 a0 a1 a2 a3 true) else (laws_FnRedHatMarks.j1 kj4 a0 a1 a2 a3 (a3.toList.isEmpty))) = some r := by rw [if_pos rfl] at H; exact H
                clear H
                have H := H1
                clear H1
                by_cases c17 : a2.toList = ([] : List UInt8)
                · rw [if_pos c17] at H
                  have c17b0 : (a2.toList.isEmpty) = true := by simpa using c17
                  have c17b1 : (!a2.toList.isEmpty) = false := by simpa using c17
                  clear c17
                  (first | rw [c17b0] | (simp only [i64_w, i32_w]; rw [c17b0]) | skip)
                  have H' := Aside0.mk H
                  clear H
                  go_wp2_with (first | ((with_reducible refine gate_dst (N := 34) rfl ?_); (try (refine gate_guard (by rfl) ?_; dsimp only)); refine Kd.R_lit Kd.string _ 9 ?hg (N := 34) ?hd (xs := ([a0, a1, a2, a3] : List ByteArray)) (inner := [.string a0, .string a1, .string a2, .string a3]) (ok := fun _ => True) (okp := fun _ => True) ?hr ?hp (fun _ hk => hk) trivial (Below.refl _ _) (Nat.le_refl _) (by simp) ?_; (case hd => rfl); (case hg => rfl); (case hr => first | (go_simp; done) | (go_simp; rfl)); (case hp => exact (Reps.one (show Kd.M Kd.string _ _ _ a0 [.string a0] from rfl) (Reps.one (show Kd.M Kd.string _ _ _ a1 [.string a1] from rfl) (Reps.one (show Kd.M Kd.string _ _ _ a2 [.string a2] from rfl) (Reps.one (show Kd.M Kd.string _ _ _ a3 [.string a3] from rfl) (Reps.none _ _)))))); intro v206 w18 ho19 hb hg_ hnew_; clear hg_ hnew_; (first | rw [← Ny205.out] at ho19 | (simp only [Int.reduceToNat] at ho19; rw [← Ny205.out] at ho19)); have n0_ := Aside0.mk (Kd.R_lower ho19 (below_size (by repeat (first | (with_reducible first | exact HB.out | apply below_alloc | apply pw_below_drewN | apply below_drew1) | exact HB.out)))); have n1_ := Aside0.mk (below_step (by repeat (first | (with_reducible first | exact HB.out | apply below_alloc | apply pw_below_drewN | apply below_drew1) | exact HB.out)) hb); clear HB; have HO207 := n0_; have HB := n1_; clear n0_ n1_; clear hb ho19; obtain ⟨Ao20, co20, eo20⟩ := Kd.R_slice HO207.out; subst eo20) | ((with_reducible refine gate_callee (f := 8) rfl ?_); refine goesL_ (some 35) rfl rfl Tryd.func8 (by kernel_rfl) rfl #[.slice Ao20 y205.length co20] rfl (by (try simp only [List.map_toArray, List.map_cons, List.map_nil]); first | done | rfl | (simp only [List.length_drop, List.length_take]; rfl)) ?_; (with_reducible refine (laws_short.calls kj4 _ _ y205 true _ ?side1 ?side2 A11.out).mono ?_); (case side1 => repeat (first | exact (Kd.R_reads' HO207.out).2.2 | (with_reducible refine Kd.C_alloc ?_ _) | (with_reducible refine Kd.C_drewN ?_ _) | (with_reducible refine Kd.C_drew ?_))); (case side2 => exact (Kd.R_reads' HO207.out).2.1); rintro e w' ⟨rfl, ⟨nd, rfl⟩⟩; refine ⟨_, rfl, ?_⟩) | (go_at_call 9; (with_reducible refine (laws_plain.calls kj4 a0 (⟨#[]⟩ : ByteArray) true _ A13.out).mono ?_); rintro e w' ⟨rfl, ⟨nd, rfl⟩⟩) | (go_at_call 9; (with_reducible refine (laws_plain.calls kj4 a1 (⟨#[]⟩ : ByteArray) true _ A15.out).mono ?_); rintro e w' ⟨rfl, ⟨nd, rfl⟩⟩))
                  go_meet
                  case rel => exact ⟨_, (true), (by first | rfl | (simp; done) | (simp [*]; done)), H', ⟨by have := HJ4.out; first | omega | exact Nat.le_refl _⟩, ⟨by repeat (first | (with_reducible first | exact HB.out | apply below_alloc | apply pw_below_drewN | apply below_drew1) | exact HB.out)⟩⟩
                · rw [if_neg c17] at H
                  have c17b0 : (a2.toList.isEmpty) = false := by simpa using c17
                  have c17b1 : (!a2.toList.isEmpty) = true := by simpa using c17
                  (first | rw [c17b0] | (simp only [i64_w, i32_w]; rw [c17b0]) | skip)
                  have H' := Aside0.mk H
                  clear H
                  go_wp2_with (first | ((with_reducible refine gate_dst (N := 34) rfl ?_); (try (refine gate_guard (by rfl) ?_; dsimp only)); refine Kd.R_lit Kd.string _ 9 ?hg (N := 34) ?hd (xs := ([a0, a1, a2, a3] : List ByteArray)) (inner := [.string a0, .string a1, .string a2, .string a3]) (ok := fun _ => True) (okp := fun _ => True) ?hr ?hp (fun _ hk => hk) trivial (Below.refl _ _) (Nat.le_refl _) (by simp) ?_; (case hd => rfl); (case hg => rfl); (case hr => first | (go_simp; done) | (go_simp; rfl)); (case hp => exact (Reps.one (show Kd.M Kd.string _ _ _ a0 [.string a0] from rfl) (Reps.one (show Kd.M Kd.string _ _ _ a1 [.string a1] from rfl) (Reps.one (show Kd.M Kd.string _ _ _ a2 [.string a2] from rfl) (Reps.one (show Kd.M Kd.string _ _ _ a3 [.string a3] from rfl) (Reps.none _ _)))))); intro v206 w21 ho22 hb hg_ hnew_; clear hg_ hnew_; (first | rw [← Ny205.out] at ho22 | (simp only [Int.reduceToNat] at ho22; rw [← Ny205.out] at ho22)); have n0_ := Aside0.mk (Kd.R_lower ho22 (below_size (by repeat (first | (with_reducible first | exact HB.out | apply below_alloc | apply pw_below_drewN | apply below_drew1) | exact HB.out)))); have n1_ := Aside0.mk (below_step (by repeat (first | (with_reducible first | exact HB.out | apply below_alloc | apply pw_below_drewN | apply below_drew1) | exact HB.out)) hb); clear HB; have HO207 := n0_; have HB := n1_; clear n0_ n1_; clear hb ho22; obtain ⟨Ao23, co23, eo23⟩ := Kd.R_slice HO207.out; subst eo23) | ((with_reducible refine gate_callee (f := 8) rfl ?_); refine goesL_ (some 35) rfl rfl Tryd.func8 (by kernel_rfl) rfl #[.slice Ao23 y205.length co23] rfl (by (try simp only [List.map_toArray, List.map_cons, List.map_nil]); first | done | rfl | (simp only [List.length_drop, List.length_take]; rfl)) ?_; (with_reducible refine (laws_short.calls kj4 _ _ y205 true _ ?side1 ?side2 A11.out).mono ?_); (case side1 => repeat (first | exact (Kd.R_reads' HO207.out).2.2 | (with_reducible refine Kd.C_alloc ?_ _) | (with_reducible refine Kd.C_drewN ?_ _) | (with_reducible refine Kd.C_drew ?_))); (case side2 => exact (Kd.R_reads' HO207.out).2.1); rintro e w' ⟨rfl, ⟨nd, rfl⟩⟩; refine ⟨_, rfl, ?_⟩) | (go_at_call 9; (with_reducible refine (laws_plain.calls kj4 a0 (⟨#[]⟩ : ByteArray) true _ A13.out).mono ?_); rintro e w' ⟨rfl, ⟨nd, rfl⟩⟩) | (go_at_call 9; (with_reducible refine (laws_plain.calls kj4 a1 (⟨#[]⟩ : ByteArray) true _ A15.out).mono ?_); rintro e w' ⟨rfl, ⟨nd, rfl⟩⟩))
                  go_meet
                  case rel => exact ⟨_, ((a3.toList.isEmpty)), (by first | rfl | (simp; done) | (simp [*]; done)), H', ⟨by have := HJ4.out; first | omega | exact Nat.le_refl _⟩, ⟨by repeat (first | (with_reducible first | exact HB.out | apply below_alloc | apply pw_below_drewN | apply below_drew1) | exact HB.out)⟩⟩
              · replace c16 := Bool.eq_false_iff.mpr c16
                subst c16
                have H1 : (laws_FnRedHatMarks.j1 kj4 a0 a1 a2 a3 true) = some r := by rw [if_neg (show ¬ (false = true) by decide)] at H; exact H
                clear H
                have H := H1
                clear H1
                have H' := Aside0.mk H
                clear H
                go_wp2_with (first | ((with_reducible refine gate_dst (N := 34) rfl ?_); (try (refine gate_guard (by rfl) ?_; dsimp only)); refine Kd.R_lit Kd.string _ 9 ?hg (N := 34) ?hd (xs := ([a0, a1, a2, a3] : List ByteArray)) (inner := [.string a0, .string a1, .string a2, .string a3]) (ok := fun _ => True) (okp := fun _ => True) ?hr ?hp (fun _ hk => hk) trivial (Below.refl _ _) (Nat.le_refl _) (by simp) ?_; (case hd => rfl); (case hg => rfl); (case hr => first | (go_simp; done) | (go_simp; rfl)); (case hp => exact (Reps.one (show Kd.M Kd.string _ _ _ a0 [.string a0] from rfl) (Reps.one (show Kd.M Kd.string _ _ _ a1 [.string a1] from rfl) (Reps.one (show Kd.M Kd.string _ _ _ a2 [.string a2] from rfl) (Reps.one (show Kd.M Kd.string _ _ _ a3 [.string a3] from rfl) (Reps.none _ _)))))); intro v206 w24 ho25 hb hg_ hnew_; clear hg_ hnew_; (first | rw [← Ny205.out] at ho25 | (simp only [Int.reduceToNat] at ho25; rw [← Ny205.out] at ho25)); have n0_ := Aside0.mk (Kd.R_lower ho25 (below_size (by repeat (first | (with_reducible first | exact HB.out | apply below_alloc | apply pw_below_drewN | apply below_drew1) | exact HB.out)))); have n1_ := Aside0.mk (below_step (by repeat (first | (with_reducible first | exact HB.out | apply below_alloc | apply pw_below_drewN | apply below_drew1) | exact HB.out)) hb); clear HB; have HO207 := n0_; have HB := n1_; clear n0_ n1_; clear hb ho25; obtain ⟨Ao26, co26, eo26⟩ := Kd.R_slice HO207.out; subst eo26) | ((with_reducible refine gate_callee (f := 8) rfl ?_); refine goesL_ (some 35) rfl rfl Tryd.func8 (by kernel_rfl) rfl #[.slice Ao26 y205.length co26] rfl (by (try simp only [List.map_toArray, List.map_cons, List.map_nil]); first | done | rfl | (simp only [List.length_drop, List.length_take]; rfl)) ?_; (with_reducible refine (laws_short.calls kj4 _ _ y205 true _ ?side1 ?side2 A11.out).mono ?_); (case side1 => repeat (first | exact (Kd.R_reads' HO207.out).2.2 | (with_reducible refine Kd.C_alloc ?_ _) | (with_reducible refine Kd.C_drewN ?_ _) | (with_reducible refine Kd.C_drew ?_))); (case side2 => exact (Kd.R_reads' HO207.out).2.1); rintro e w' ⟨rfl, ⟨nd, rfl⟩⟩; refine ⟨_, rfl, ?_⟩) | (go_at_call 9; (with_reducible refine (laws_plain.calls kj4 a0 (⟨#[]⟩ : ByteArray) true _ A13.out).mono ?_); rintro e w' ⟨rfl, ⟨nd, rfl⟩⟩) | (go_at_call 9; (with_reducible refine (laws_plain.calls kj4 a1 (⟨#[]⟩ : ByteArray) false _ A15.out).mono ?_); rintro e w' ⟨rfl, ⟨nd, rfl⟩⟩))
                go_meet
                case rel => exact ⟨_, (true), (by first | rfl | (simp; done) | (simp [*]; done)), H', ⟨by have := HJ4.out; first | omega | exact Nat.le_refl _⟩, ⟨by repeat (first | (with_reducible first | exact HB.out | apply below_alloc | apply pw_below_drewN | apply below_drew1) | exact HB.out)⟩⟩
            · replace c14 := Bool.eq_false_iff.mpr c14
              subst c14
              have H1 : (laws_FnRedHatMarks.j1 kj4 a0 a1 a2 a3 true) = some r := by rw [if_neg (show ¬ (false = true) by decide)] at H; exact H
              clear H
              have H := H1
              clear H1
              have H' := Aside0.mk H
              clear H
              go_wp2_with (first | ((with_reducible refine gate_dst (N := 34) rfl ?_); (try (refine gate_guard (by rfl) ?_; dsimp only)); refine Kd.R_lit Kd.string _ 9 ?hg (N := 34) ?hd (xs := ([a0, a1, a2, a3] : List ByteArray)) (inner := [.string a0, .string a1, .string a2, .string a3]) (ok := fun _ => True) (okp := fun _ => True) ?hr ?hp (fun _ hk => hk) trivial (Below.refl _ _) (Nat.le_refl _) (by simp) ?_; (case hd => rfl); (case hg => rfl); (case hr => first | (go_simp; done) | (go_simp; rfl)); (case hp => exact (Reps.one (show Kd.M Kd.string _ _ _ a0 [.string a0] from rfl) (Reps.one (show Kd.M Kd.string _ _ _ a1 [.string a1] from rfl) (Reps.one (show Kd.M Kd.string _ _ _ a2 [.string a2] from rfl) (Reps.one (show Kd.M Kd.string _ _ _ a3 [.string a3] from rfl) (Reps.none _ _)))))); intro v206 w27 ho28 hb hg_ hnew_; clear hg_ hnew_; (first | rw [← Ny205.out] at ho28 | (simp only [Int.reduceToNat] at ho28; rw [← Ny205.out] at ho28)); have n0_ := Aside0.mk (Kd.R_lower ho28 (below_size (by repeat (first | (with_reducible first | exact HB.out | apply below_alloc | apply pw_below_drewN | apply below_drew1) | exact HB.out)))); have n1_ := Aside0.mk (below_step (by repeat (first | (with_reducible first | exact HB.out | apply below_alloc | apply pw_below_drewN | apply below_drew1) | exact HB.out)) hb); clear HB; have HO207 := n0_; have HB := n1_; clear n0_ n1_; clear hb ho28; obtain ⟨Ao29, co29, eo29⟩ := Kd.R_slice HO207.out; subst eo29) | ((with_reducible refine gate_callee (f := 8) rfl ?_); refine goesL_ (some 35) rfl rfl Tryd.func8 (by kernel_rfl) rfl #[.slice Ao29 y205.length co29] rfl (by (try simp only [List.map_toArray, List.map_cons, List.map_nil]); first | done | rfl | (simp only [List.length_drop, List.length_take]; rfl)) ?_; (with_reducible refine (laws_short.calls kj4 _ _ y205 true _ ?side1 ?side2 A11.out).mono ?_); (case side1 => repeat (first | exact (Kd.R_reads' HO207.out).2.2 | (with_reducible refine Kd.C_alloc ?_ _) | (with_reducible refine Kd.C_drewN ?_ _) | (with_reducible refine Kd.C_drew ?_))); (case side2 => exact (Kd.R_reads' HO207.out).2.1); rintro e w' ⟨rfl, ⟨nd, rfl⟩⟩; refine ⟨_, rfl, ?_⟩) | (go_at_call 9; (with_reducible refine (laws_plain.calls kj4 a0 (⟨#[]⟩ : ByteArray) false _ A13.out).mono ?_); rintro e w' ⟨rfl, ⟨nd, rfl⟩⟩))
              go_meet
              case rel => exact ⟨_, (true), (by first | rfl | (simp; done) | (simp [*]; done)), H', ⟨by have := HJ4.out; first | omega | exact Nat.le_refl _⟩, ⟨by repeat (first | (with_reducible first | exact HB.out | apply below_alloc | apply pw_below_drewN | apply below_drew1) | exact HB.out)⟩⟩
          · replace c12 := Bool.eq_false_iff.mpr c12
            subst c12
            have H1 : (laws_FnRedHatMarks.j1 kj4 a0 a1 a2 a3 true) = some r := by rw [if_neg (show ¬ (false = true) by decide)] at H; exact H
            clear H
            have H := H1
            clear H1
            have H' := Aside0.mk H
            clear H
            go_wp2_with (first | ((with_reducible refine gate_dst (N := 34) rfl ?_); (try (refine gate_guard (by rfl) ?_; dsimp only)); refine Kd.R_lit Kd.string _ 9 ?hg (N := 34) ?hd (xs := ([a0, a1, a2, a3] : List ByteArray)) (inner := [.string a0, .string a1, .string a2, .string a3]) (ok := fun _ => True) (okp := fun _ => True) ?hr ?hp (fun _ hk => hk) trivial (Below.refl _ _) (Nat.le_refl _) (by simp) ?_; (case hd => rfl); (case hg => rfl); (case hr => first | (go_simp; done) | (go_simp; rfl)); (case hp => exact (Reps.one (show Kd.M Kd.string _ _ _ a0 [.string a0] from rfl) (Reps.one (show Kd.M Kd.string _ _ _ a1 [.string a1] from rfl) (Reps.one (show Kd.M Kd.string _ _ _ a2 [.string a2] from rfl) (Reps.one (show Kd.M Kd.string _ _ _ a3 [.string a3] from rfl) (Reps.none _ _)))))); intro v206 w30 ho31 hb hg_ hnew_; clear hg_ hnew_; (first | rw [← Ny205.out] at ho31 | (simp only [Int.reduceToNat] at ho31; rw [← Ny205.out] at ho31)); have n0_ := Aside0.mk (Kd.R_lower ho31 (below_size (by repeat (first | (with_reducible first | exact HB.out | apply below_alloc | apply pw_below_drewN | apply below_drew1) | exact HB.out)))); have n1_ := Aside0.mk (below_step (by repeat (first | (with_reducible first | exact HB.out | apply below_alloc | apply pw_below_drewN | apply below_drew1) | exact HB.out)) hb); clear HB; have HO207 := n0_; have HB := n1_; clear n0_ n1_; clear hb ho31; obtain ⟨Ao32, co32, eo32⟩ := Kd.R_slice HO207.out; subst eo32) | ((with_reducible refine gate_callee (f := 8) rfl ?_); refine goesL_ (some 35) rfl rfl Tryd.func8 (by kernel_rfl) rfl #[.slice Ao32 y205.length co32] rfl (by (try simp only [List.map_toArray, List.map_cons, List.map_nil]); first | done | rfl | (simp only [List.length_drop, List.length_take]; rfl)) ?_; (with_reducible refine (laws_short.calls kj4 _ _ y205 false _ ?side1 ?side2 A11.out).mono ?_); (case side1 => repeat (first | exact (Kd.R_reads' HO207.out).2.2 | (with_reducible refine Kd.C_alloc ?_ _) | (with_reducible refine Kd.C_drewN ?_ _) | (with_reducible refine Kd.C_drew ?_))); (case side2 => exact (Kd.R_reads' HO207.out).2.1); rintro e w' ⟨rfl, ⟨nd, rfl⟩⟩; refine ⟨_, rfl, ?_⟩))
            go_meet
            case rel => exact ⟨_, (true), (by first | rfl | (simp; done) | (simp [*]; done)), H', ⟨by have := HJ4.out; first | omega | exact Nat.le_refl _⟩, ⟨by repeat (first | (with_reducible first | exact HB.out | apply below_alloc | apply pw_below_drewN | apply below_drew1) | exact HB.out)⟩⟩
        case rest =>
          clear HC10
          try clear c1
          try clear p2
          try clear c5
          try clear c6
          try clear c6b0
          try clear c6b1
          try clear c7
          try clear c7b0
          try clear c7b1
          try clear c8
          try clear c8b0
          try clear c8b1
          try clear c9
          try clear c12
          try clear c14
          try clear c16
          try clear c17
          try clear c17b0
          try clear c17b1
          try clear p2
          obtain ⟨kq, x54_9, rfl, HA, HJ9, HB⟩ := hcut
          cases kq with
          | zero => exact absurd HA.out (by simp [laws_FnRedHatMarks.j1])
          | succ kj9 =>
            have H := HA.out
            clear HA
            simp only [laws_FnRedHatMarks.j1] at H
            by_cases c33 : x54_9 = true
            · subst c33
              have H1 : (some true) = some r := by rw [if_pos rfl] at H; exact H
              clear H
              have H := H1
              clear H1
              obtain rfl := Option.some.inj H
              go_wp2
              go_ret
              exact ⟨by first | rfl | (simp [errW_none, errW_some] <;> rfl) | (simp [*, errW_none, errW_some] <;> rfl), by repeat (first | (with_reducible first | exact HB.out | apply below_alloc | apply pw_below_drewN | apply below_drew1) | exact HB.out)⟩
            · replace c33 := Bool.eq_false_iff.mpr c33
              subst c33
              have H1 : ((some (([a2, a3] : List ByteArray) : List ByteArray)).bind fun y211 => (laws_FnRedHatMarks.l0 kj9 a0 a1 a2 a3 y211 (y211.length : Int) 0)) = some r := by rw [if_neg (show ¬ (false = true) by decide)] at H; exact H
              clear H
              have H := H1
              clear H1
              obtain ⟨y211, hy211⟩ : ∃ y_ : List ByteArray, y_ = (([a2, a3] : List ByteArray)) := ⟨_, rfl⟩
              replace H : (laws_FnRedHatMarks.l0 kj9 a0 a1 a2 a3 y211 (y211.length : Int) 0) = some r := by first | (rw [hy211]; with_reducible exact H) | (have H2_ := (Option.bind_some _ _).symm.trans H; rw [hy211]; with_reducible exact H2_) | (have H2_ := (Option.bind_some _ _).symm.trans H; with_reducible exact H2_) | with_reducible exact H | (rw [hy211]; exact H) | exact H
              have Ny211 := Aside0.mk hy211
              clear hy211
              have H' := Aside0.mk H
              clear H
              go_wp2_with (first | ((with_reducible refine gate_dst (N := 57) rfl ?_); (try (refine gate_guard (by rfl) ?_; dsimp only)); refine Kd.R_lit Kd.string _ 9 ?hg (N := 57) ?hd (xs := ([a2, a3] : List ByteArray)) (inner := [.string a2, .string a3]) (ok := fun _ => True) (okp := fun _ => True) ?hr ?hp (fun _ hk => hk) trivial (Below.refl _ _) (Nat.le_refl _) (by simp) ?_; (case hd => rfl); (case hg => rfl); (case hr => first | (go_simp; done) | (go_simp; rfl)); (case hp => exact (Reps.one (show Kd.M Kd.string _ _ _ a2 [.string a2] from rfl) (Reps.one (show Kd.M Kd.string _ _ _ a3 [.string a3] from rfl) (Reps.none _ _)))); intro v212 w34 ho35 hb hg_ hnew_; clear hg_ hnew_; (first | rw [← Ny211.out] at ho35 | (simp only [Int.reduceToNat] at ho35; rw [← Ny211.out] at ho35)); have n0_ := Aside0.mk (Kd.R_lower ho35 (below_size (by repeat (first | (with_reducible first | exact HB.out | apply below_alloc | apply pw_below_drewN | apply below_drew1) | exact HB.out)))); have n1_ := Aside0.mk (below_step (by repeat (first | (with_reducible first | exact HB.out | apply below_alloc | apply pw_below_drewN | apply below_drew1) | exact HB.out)) hb); clear HB; have HO213 := n0_; have HB := n1_; clear n0_ n1_; clear hb ho35; obtain ⟨Ao36, co36, eo36⟩ := Kd.R_slice HO213.out; subst eo36))
              go_loopg [59] kj9 (fun kq v59 w' => ∃ (x59_3 : Int), v59 = .int .i64 x59_3 ∧ Aside0 (laws_FnRedHatMarks.l0 kq a0 a1 a2 a3 y211 (y211.length : Int) x59_3 = some r) ∧ Aside0 (kq ≤ kj9) ∧ Aside0 (Kd.R Kd.string 9 w' w.heap.size (fun _ => True) (.slice Ao36 y211.length co36) y211) ∧ Aside0 (Below w.heap.size w w'))
              case atStart => exact ⟨(0), (by first | rfl | (simp; done) | (simp [*]; done)), H', ⟨Nat.le_refl _⟩, ⟨by (with_reducible repeat (first | apply Kd.R_alloc | apply Kd.R_drewN | apply Kd.R_drew)); exact HO213.out⟩, ⟨by repeat (first | (with_reducible first | exact HB.out | apply below_alloc | apply pw_below_drewN | apply below_drew1) | exact HB.out)⟩⟩
              case round =>
                clear H'
                try clear c1
                try clear p2
                try clear c3
                try clear c5
                try clear c6
                try clear c6b0
                try clear c6b1
                try clear c7
                try clear c7b0
                try clear c7b1
                try clear c8
                try clear c8b0
                try clear c8b1
                try clear c9
                try clear c12
                try clear c14
                try clear c16
                try clear c17
                try clear c17b0
                try clear c17b1
                try clear c33
                try clear p2
                obtain ⟨x59_3, rfl, HA, HK3, HO_57, HB⟩ := hrel
                cases gk with
                | zero => exact absurd HA.out (by simp [laws_FnRedHatMarks.l0])
                | succ k3 =>
                  have H := HA.out
                  clear HA
                  simp only [laws_FnRedHatMarks.l0] at H
                  by_cases c37 : x59_3 < (y211.length : Int)
                  · rw [if_pos c37] at H
                    have c37b0 : decide (x59_3 < (y211.length : Int)) = true := decide_eq_true c37
                    clear c37
                    by_cases c38 : 0 ≤ x59_3
                    · rw [if_pos c38] at H
                      have c38b0 : decide (0 ≤ x59_3) = true := decide_eq_true c38
                      clear c38
                      by_cases c39 : x59_3 < (y211.length : Int)
                      · rw [if_pos c39] at H
                        have c39b0 : decide (x59_3 < (y211.length : Int)) = true := decide_eq_true c39
                        clear c39
                        have H' := Aside0.mk H
                        clear H
                        have p216 : 0 ≤ (x59_3 : Int) := of_decide_eq_true (by first | (with_reducible assumption) | assumption)
                        have q216 : x59_3 < (y211.length : Int) := of_decide_eq_true (by first | (with_reducible assumption) | assumption)
                        obtain ⟨ad216, e216, hx216_0⟩ := Kd.at_string (Kd.R_reads' HO_57.out).2.2 x59_3 p216 q216
                        cases e216
                        replace p216 := eq_true p216
                        replace q216 := eq_true q216
                        go_wp2
                        go_loopg [11] k3 (fun kq v11 w' => ∃ (x11_4 : Int), v11 = .int .i64 x11_4 ∧ Aside0 (laws_FnRedHatMarks.l1 kq a0 a1 a2 a3 (rdOf ByteArray.empty y211 x59_3) x11_4 y211 (y211.length : Int) x59_3 = some r) ∧ Aside0 (kq ≤ k3) ∧ Aside0 (Kd.R Kd.string 9 w' w.heap.size (fun _ => True) (.slice (some ad216) y211.length co36) y211) ∧ Aside0 (Below w.heap.size w w'))
                        case atStart => exact ⟨(0), (by first | rfl | (simp; done) | (simp [*]; done)), H', ⟨Nat.le_refl _⟩, ⟨by (with_reducible repeat (first | apply Kd.R_alloc | apply Kd.R_drewN | apply Kd.R_drew)); exact HO_57.out⟩, ⟨by repeat (first | (with_reducible first | exact HB.out | apply below_alloc | apply pw_below_drewN | apply below_drew1) | exact HB.out)⟩⟩
                        case round =>
                          clear H'
                          try clear c1
                          try clear p2
                          try clear q2
                          try clear hx2
                          try clear c3
                          try clear c5
                          try clear c6
                          try clear c6b0
                          try clear c6b1
                          try clear c7
                          try clear c7b0
                          try clear c7b1
                          try clear c8
                          try clear c8b0
                          try clear c8b1
                          try clear c9
                          try clear c12
                          try clear c14
                          try clear c16
                          try clear c17
                          try clear c17b0
                          try clear c17b1
                          try clear p21
                          try clear q21
                          try clear hx21
                          try clear c33
                          try clear c37
                          try clear c37b0
                          try clear c38
                          try clear c38b0
                          try clear c39
                          try clear c39b0
                          try clear hx216_0
                          try clear p2
                          try clear p216
                          try clear q216
                          obtain ⟨x11_4, rfl, HA, HK4, HO_57, HB⟩ := hrel
                          cases gk with
                          | zero => exact absurd HA.out (by simp [laws_FnRedHatMarks.l1])
                          | succ k4 =>
                            have H := HA.out
                            clear HA
                            simp only [laws_FnRedHatMarks.l1] at H
                            by_cases c40 : x11_4 < ((rdOf ByteArray.empty y211 x59_3).size : Int)
                            · rw [if_pos c40] at H
                              have c40b0 : decide (x11_4 < ((rdOf ByteArray.empty y211 x59_3).size : Int)) = true := decide_eq_true c40
                              clear c40
                              by_cases c41 : 0 ≤ x11_4
                              · rw [if_pos c41] at H
                                have c41b0 : decide (0 ≤ x11_4) = true := decide_eq_true c41
                                clear c41
                                by_cases c43 : (bt (rdOf ByteArray.empty y211 x59_3) x11_4) = 46
                                · rw [if_pos c43] at H
                                  have c43b0 : ((bt (rdOf ByteArray.empty y211 x59_3) x11_4) == 46) = true := beq_iff_eq.mpr c43
                                  have c43b1 : ((bt (rdOf ByteArray.empty y211 x59_3) x11_4) != 46) = false := bne_eq_false_iff_eq.mpr c43
                                  clear c43
                                  have H' := Aside0.mk H
                                  clear H
                                  have p42 : 0 ≤ (x11_4 : Int) := of_decide_eq_true (by first | (with_reducible assumption) | assumption)
                                  have q42 : x11_4 < ((rdOf ByteArray.empty y211 x59_3).size : Int) := of_decide_eq_true (by first | (with_reducible assumption) | assumption)
                                  have hx42 := bt_at (rdOf ByteArray.empty y211 x59_3) x11_4
                                  replace p42 := eq_true p42
                                  replace q42 := eq_true q42
                                  go_wp2
                                  go_roundg k4
                                  case measure => have := HJ4.out; have := HJ9.out; have := HK3.out; have := HK4.out; omega
                                  case rel => exact ⟨(wrap64 (x11_4 + 1)), (by first | rfl | (simp; done) | (simp [*]; done)), H', ⟨by have := HJ4.out; have := HJ9.out; have := HK3.out; have := HK4.out; omega⟩, ⟨by (with_reducible repeat (first | apply Kd.R_alloc | apply Kd.R_drewN | apply Kd.R_drew)); exact HO_57.out⟩, ⟨by repeat (first | (with_reducible first | exact HB.out | apply below_alloc | apply pw_below_drewN | apply below_drew1) | exact HB.out)⟩⟩
                                · rw [if_neg c43] at H
                                  have c43b0 : ((bt (rdOf ByteArray.empty y211 x59_3) x11_4) == 46) = false := beq_eq_false_iff_ne.mpr c43
                                  have c43b1 : ((bt (rdOf ByteArray.empty y211 x59_3) x11_4) != 46) = true := bne_iff_ne.mpr c43
                                  by_cases c45 : (bt (rdOf ByteArray.empty y211 x59_3) x11_4) = 95
                                  · rw [if_pos c45] at H
                                    have c45b0 : ((bt (rdOf ByteArray.empty y211 x59_3) x11_4) == 95) = true := beq_iff_eq.mpr c45
                                    have c45b1 : ((bt (rdOf ByteArray.empty y211 x59_3) x11_4) != 95) = false := bne_eq_false_iff_eq.mpr c45
                                    clear c45
                                    have H' := Aside0.mk H
                                    clear H
                                    have p42 : 0 ≤ (x11_4 : Int) := of_decide_eq_true (by first | (with_reducible assumption) | assumption)
                                    have q42 : x11_4 < ((rdOf ByteArray.empty y211 x59_3).size : Int) := of_decide_eq_true (by first | (with_reducible assumption) | assumption)
                                    have hx42 := bt_at (rdOf ByteArray.empty y211 x59_3) x11_4
                                    replace p42 := eq_true p42
                                    replace q42 := eq_true q42
                                    have p44 : 0 ≤ (x11_4 : Int) := of_decide_eq_true (by first | (with_reducible assumption) | assumption)
                                    have q44 : x11_4 < ((rdOf ByteArray.empty y211 x59_3).size : Int) := of_decide_eq_true (by first | (with_reducible assumption) | assumption)
                                    have hx44 := bt_at (rdOf ByteArray.empty y211 x59_3) x11_4
                                    replace p44 := eq_true p44
                                    replace q44 := eq_true q44
                                    go_wp2
                                    go_roundg k4
                                    case measure => have := HJ4.out; have := HJ9.out; have := HK3.out; have := HK4.out; omega
                                    case rel => exact ⟨(wrap64 (x11_4 + 1)), (by first | rfl | (simp; done) | (simp [*]; done)), H', ⟨by have := HJ4.out; have := HJ9.out; have := HK3.out; have := HK4.out; omega⟩, ⟨by (with_reducible repeat (first | apply Kd.R_alloc | apply Kd.R_drewN | apply Kd.R_drew)); exact HO_57.out⟩, ⟨by repeat (first | (with_reducible first | exact HB.out | apply below_alloc | apply pw_below_drewN | apply below_drew1) | exact HB.out)⟩⟩
                                  · rw [if_neg c45] at H
                                    have c45b0 : ((bt (rdOf ByteArray.empty y211 x59_3) x11_4) == 95) = false := beq_eq_false_iff_ne.mpr c45
                                    have c45b1 : ((bt (rdOf ByteArray.empty y211 x59_3) x11_4) != 95) = true := bne_iff_ne.mpr c45
                                    by_cases c47 : (bt (rdOf ByteArray.empty y211 x59_3) x11_4) = 43
                                    · rw [if_pos c47] at H
                                      have c47b0 : ((bt (rdOf ByteArray.empty y211 x59_3) x11_4) == 43) = true := beq_iff_eq.mpr c47
                                      have c47b1 : ((bt (rdOf ByteArray.empty y211 x59_3) x11_4) != 43) = false := bne_eq_false_iff_eq.mpr c47
                                      clear c47
                                      have H' := Aside0.mk H
                                      clear H
                                      have p42 : 0 ≤ (x11_4 : Int) := of_decide_eq_true (by first | (with_reducible assumption) | assumption)
                                      have q42 : x11_4 < ((rdOf ByteArray.empty y211 x59_3).size : Int) := of_decide_eq_true (by first | (with_reducible assumption) | assumption)
                                      have hx42 := bt_at (rdOf ByteArray.empty y211 x59_3) x11_4
                                      replace p42 := eq_true p42
                                      replace q42 := eq_true q42
                                      have p44 : 0 ≤ (x11_4 : Int) := of_decide_eq_true (by first | (with_reducible assumption) | assumption)
                                      have q44 : x11_4 < ((rdOf ByteArray.empty y211 x59_3).size : Int) := of_decide_eq_true (by first | (with_reducible assumption) | assumption)
                                      have hx44 := bt_at (rdOf ByteArray.empty y211 x59_3) x11_4
                                      replace p44 := eq_true p44
                                      replace q44 := eq_true q44
                                      have p46 : 0 ≤ (x11_4 : Int) := of_decide_eq_true (by first | (with_reducible assumption) | assumption)
                                      have q46 : x11_4 < ((rdOf ByteArray.empty y211 x59_3).size : Int) := of_decide_eq_true (by first | (with_reducible assumption) | assumption)
                                      have hx46 := bt_at (rdOf ByteArray.empty y211 x59_3) x11_4
                                      replace p46 := eq_true p46
                                      replace q46 := eq_true q46
                                      go_wp2
                                      go_roundg k4
                                      case measure => have := HJ4.out; have := HJ9.out; have := HK3.out; have := HK4.out; omega
                                      case rel => exact ⟨(wrap64 (x11_4 + 1)), (by first | rfl | (simp; done) | (simp [*]; done)), H', ⟨by have := HJ4.out; have := HJ9.out; have := HK3.out; have := HK4.out; omega⟩, ⟨by (with_reducible repeat (first | apply Kd.R_alloc | apply Kd.R_drewN | apply Kd.R_drew)); exact HO_57.out⟩, ⟨by repeat (first | (with_reducible first | exact HB.out | apply below_alloc | apply pw_below_drewN | apply below_drew1) | exact HB.out)⟩⟩
                                    · rw [if_neg c47] at H
                                      have c47b0 : ((bt (rdOf ByteArray.empty y211 x59_3) x11_4) == 43) = false := beq_eq_false_iff_ne.mpr c47
                                      have c47b1 : ((bt (rdOf ByteArray.empty y211 x59_3) x11_4) != 43) = true := bne_iff_ne.mpr c47
                                      obtain rfl := Option.some.inj H
                                      have p42 : 0 ≤ (x11_4 : Int) := of_decide_eq_true (by first | (with_reducible assumption) | assumption)
                                      have q42 : x11_4 < ((rdOf ByteArray.empty y211 x59_3).size : Int) := of_decide_eq_true (by first | (with_reducible assumption) | assumption)
                                      have hx42 := bt_at (rdOf ByteArray.empty y211 x59_3) x11_4
                                      replace p42 := eq_true p42
                                      replace q42 := eq_true q42
                                      have p44 : 0 ≤ (x11_4 : Int) := of_decide_eq_true (by first | (with_reducible assumption) | assumption)
                                      have q44 : x11_4 < ((rdOf ByteArray.empty y211 x59_3).size : Int) := of_decide_eq_true (by first | (with_reducible assumption) | assumption)
                                      have hx44 := bt_at (rdOf ByteArray.empty y211 x59_3) x11_4
                                      replace p44 := eq_true p44
                                      replace q44 := eq_true q44
                                      have p46 : 0 ≤ (x11_4 : Int) := of_decide_eq_true (by first | (with_reducible assumption) | assumption)
                                      have q46 : x11_4 < ((rdOf ByteArray.empty y211 x59_3).size : Int) := of_decide_eq_true (by first | (with_reducible assumption) | assumption)
                                      have hx46 := bt_at (rdOf ByteArray.empty y211 x59_3) x11_4
                                      replace p46 := eq_true p46
                                      replace q46 := eq_true q46
                                      go_wp2
                                      go_ret
                                      exact ⟨by first | rfl | (simp [errW_none, errW_some] <;> rfl) | (simp [*, errW_none, errW_some] <;> rfl), by repeat (first | (with_reducible first | exact HB.out | apply below_alloc | apply pw_below_drewN | apply below_drew1) | exact HB.out)⟩
                              · rw [if_neg c41] at H
                                exact absurd H (by simp)
                            · rw [if_neg c40] at H
                              have c40b0 : decide (x11_4 < ((rdOf ByteArray.empty y211 x59_3).size : Int)) = false := decide_eq_false c40
                              clear c40
                              have H' := Aside0.mk H
                              clear H
                              go_wp2
                              go_roundg k4
                              case measure => have := HJ4.out; have := HJ9.out; have := HK3.out; have := HK4.out; omega
                              case rel => exact ⟨(wrap64 (x59_3 + 1)), (by first | rfl | (simp; done) | (simp [*]; done)), H', ⟨by have := HJ4.out; have := HJ9.out; have := HK3.out; have := HK4.out; omega⟩, ⟨by (with_reducible repeat (first | apply Kd.R_alloc | apply Kd.R_drewN | apply Kd.R_drew)); exact HO_57.out⟩, ⟨by repeat (first | (with_reducible first | exact HB.out | apply below_alloc | apply pw_below_drewN | apply below_drew1) | exact HB.out)⟩⟩
                      · rw [if_neg c39] at H
                        exact absurd H (by simp)
                    · rw [if_neg c38] at H
                      exact absurd H (by simp)
                  · rw [if_neg c37] at H
                    have c37b0 : decide (x59_3 < (y211.length : Int)) = false := decide_eq_false c37
                    clear c37
                    replace H := Option.bind_eq_some_iff.mp H
                    obtain ⟨t214, A480, H⟩ := H
                    replace H : (if t214 = true then (if a0.size + a2.size ≤ 9223372036854775807 then (if (a0 ++ a2).size + a1.size ≤ 9223372036854775807 then (if a0.size + a3.size ≤ 9223372036854775807 then (if (a0 ++ a3).size + a1.size ≤ 9223372036854775807 then ((impl_RedHatParts.f ((a0 ++ a2) ++ a1) ((a0 ++ a3) ++ a1)).bind fun t215 => (some (t215 == 0))) else (none)) else (none)) else (none)) else (none)) else (some false)) = some r := H
                    have A48 := Aside0.mk A480
                    clear A480
                    by_cases c49 : t214 = true
                    · subst c49
                      have H1 : (if a0.size + a2.size ≤ 9223372036854775807 then (if (a0 ++ a2).size + a1.size ≤ 9223372036854775807 then (if a0.size + a3.size ≤ 9223372036854775807 then (if (a0 ++ a3).size + a1.size ≤ 9223372036854775807 then ((impl_RedHatParts.f ((a0 ++ a2) ++ a1) ((a0 ++ a3) ++ a1)).bind fun t215 => (some (t215 == 0))) else (none)) else (none)) else (none)) else (none)) = some r := by rw [if_pos rfl] at H; exact H
                      clear H
                      have H := H1
                      clear H1
                      by_cases c50 : a0.size + a2.size ≤ 9223372036854775807
                      · rw [if_pos c50] at H
                        have c50b0 := eq_true c50
                        have c50b1 : decide (a0.size + a2.size ≤ 9223372036854775807) = true := decide_eq_true c50
                        try have c50b2 : (9223372036854775807 < a0.size + a2.size) = False := eq_false (Nat.not_lt.2 c50)
                        by_cases c51 : (a0 ++ a2).size + a1.size ≤ 9223372036854775807
                        · rw [if_pos c51] at H
                          have c51b0 := eq_true c51
                          have c51b1 : decide ((a0 ++ a2).size + a1.size ≤ 9223372036854775807) = true := decide_eq_true c51
                          try have c51b2 : (9223372036854775807 < (a0 ++ a2).size + a1.size) = False := eq_false (Nat.not_lt.2 c51)
                          by_cases c52 : a0.size + a3.size ≤ 9223372036854775807
                          · rw [if_pos c52] at H
                            have c52b0 := eq_true c52
                            have c52b1 : decide (a0.size + a3.size ≤ 9223372036854775807) = true := decide_eq_true c52
                            try have c52b2 : (9223372036854775807 < a0.size + a3.size) = False := eq_false (Nat.not_lt.2 c52)
                            by_cases c53 : (a0 ++ a3).size + a1.size ≤ 9223372036854775807
                            · rw [if_pos c53] at H
                              have c53b0 := eq_true c53
                              have c53b1 : decide ((a0 ++ a3).size + a1.size ≤ 9223372036854775807) = true := decide_eq_true c53
                              try have c53b2 : (9223372036854775807 < (a0 ++ a3).size + a1.size) = False := eq_false (Nat.not_lt.2 c53)
                              replace H := Option.bind_eq_some_iff.mp H
                              obtain ⟨t215, A540, H⟩ := H
                              replace H : (some (t215 == 0)) = some r := H
                              have A54 := Aside0.mk A540
                              clear A540
                              obtain rfl := Option.some.inj H
                              go_wp2_with (first | ((with_reducible refine gate_callee (f := 16) rfl ?_); refine goesL_ (some 86) rfl rfl Tryd.func16 (by kernel_rfl) rfl #[] rfl (by (try simp only [List.map_toArray, List.map_cons, List.map_nil]); first | done | rfl | (simp only [List.length_drop, List.length_take]; rfl)) ?_; (with_reducible refine (laws_redhatAwake.calls k3  true _ A48.out).mono ?_); rintro e w55 ⟨rfl, hb⟩; refine ⟨_, rfl, ?_⟩; have n0_ := Aside0.mk (Kd.R_below (by (with_reducible repeat (first | apply Kd.R_alloc | apply Kd.R_drewN | apply Kd.R_drew)); exact HO_57.out) hb); have n1_ := Aside0.mk (below_step (by repeat (first | (with_reducible first | exact HB.out | apply below_alloc | apply pw_below_drewN | apply below_drew1) | exact HB.out)) hb); clear HO_57; clear HB; have HO_57 := n0_; have HB := n1_; clear n0_ n1_; (try clear hb); (try clear hb2); (try clear hk); (try clear hi)) | (go_at_call 17; (with_reducible refine (impl_RedHatParts.calls ((a0 ++ a2) ++ a1) ((a0 ++ a3) ++ a1) t215 _ A54.out).mono ?_); rintro e w56 ⟨rfl, hb⟩; have n0_ := Aside0.mk (Kd.R_below (by (with_reducible repeat (first | apply Kd.R_alloc | apply Kd.R_drewN | apply Kd.R_drew)); exact HO_57.out) hb); have n1_ := Aside0.mk (below_step (by repeat (first | (with_reducible first | exact HB.out | apply below_alloc | apply pw_below_drewN | apply below_drew1) | exact HB.out)) hb); clear HO_57; clear HB; have HO_57 := n0_; have HB := n1_; clear n0_ n1_; (try clear hb); (try clear hb2); (try clear hk); (try clear hi)))
                              go_ret
                              exact ⟨by first | rfl | (simp [errW_none, errW_some] <;> rfl) | (simp [*, errW_none, errW_some] <;> rfl), by repeat (first | (with_reducible first | exact HB.out | apply below_alloc | apply pw_below_drewN | apply below_drew1) | exact HB.out)⟩
                            · rw [if_neg c53] at H
                              exact absurd H (by simp)
                          · rw [if_neg c52] at H
                            exact absurd H (by simp)
                        · rw [if_neg c51] at H
                          exact absurd H (by simp)
                      · rw [if_neg c50] at H
                        exact absurd H (by simp)
                    · replace c49 := Bool.eq_false_iff.mpr c49
                      subst c49
                      have H1 : (some false) = some r := by rw [if_neg (show ¬ (false = true) by decide)] at H; exact H
                      clear H
                      have H := H1
                      clear H1
                      obtain rfl := Option.some.inj H
                      go_wp2_with (first | ((with_reducible refine gate_callee (f := 16) rfl ?_); refine goesL_ (some 86) rfl rfl Tryd.func16 (by kernel_rfl) rfl #[] rfl (by (try simp only [List.map_toArray, List.map_cons, List.map_nil]); first | done | rfl | (simp only [List.length_drop, List.length_take]; rfl)) ?_; (with_reducible refine (laws_redhatAwake.calls k3  false _ A48.out).mono ?_); rintro e w57 ⟨rfl, hb⟩; refine ⟨_, rfl, ?_⟩; have n0_ := Aside0.mk (Kd.R_below (by (with_reducible repeat (first | apply Kd.R_alloc | apply Kd.R_drewN | apply Kd.R_drew)); exact HO_57.out) hb); have n1_ := Aside0.mk (below_step (by repeat (first | (with_reducible first | exact HB.out | apply below_alloc | apply pw_below_drewN | apply below_drew1) | exact HB.out)) hb); clear HO_57; clear HB; have HO_57 := n0_; have HB := n1_; clear n0_ n1_; (try clear hb); (try clear hb2); (try clear hk); (try clear hi)))
                      go_ret
                      exact ⟨by first | rfl | (simp [errW_none, errW_some] <;> rfl) | (simp [*, errW_none, errW_some] <;> rfl), by repeat (first | (with_reducible first | exact HB.out | apply below_alloc | apply pw_below_drewN | apply below_drew1) | exact HB.out)⟩

/-- THE ONE PURE STATEMENT of laws_FnRedHatMarks. -/
def laws_FnRedHatMarks.Pure : Prop := ∀ (a0 : ByteArray) (a1 : ByteArray) (a2 : ByteArray) (a3 : ByteArray), a0.size ≤ 140737488351232 → a1.size ≤ 140737488351232 → a2.size ≤ 140737488351232 → a3.size ≤ 140737488351232 → ∃ k, laws_FnRedHatMarks.f k a0 a1 a2 a3 = some true
theorem laws_FnRedHatMarks.walk (P : laws_FnRedHatMarks.Pure) (a0 : ByteArray) (a1 : ByteArray) (a2 : ByteArray) (a3 : ByteArray) (w : World) (hm0 : a0.size ≤ 140737488351232) (hm1 : a1.size ≤ 140737488351232) (hm2 : a2.size ≤ 140737488351232) (hm3 : a3.size ≤ 140737488351232)  :
    Calls Tryd.prog 5 #[.string a0, .string a1, .string a2, .string a3] w fun e w' => e = .returned (.bool true) ∧ Below w.heap.size w w' := by
  obtain ⟨k, h⟩ := P a0 a1 a2 a3 hm0 hm1 hm2 hm3
  refine (laws_FnRedHatMarks.calls k a0 a1 a2 a3 true w  h).mono ?_
  rintro e w' ⟨rfl, hd⟩
  exact ⟨rfl, hd⟩

end Go.Proofs.YtciojhhncfnagaaDoor.Z
