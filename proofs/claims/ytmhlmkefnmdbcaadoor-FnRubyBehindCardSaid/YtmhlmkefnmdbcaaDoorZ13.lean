-- Written by a program of this session (myprint.py).
import Derived.Test.YtmhlmkefnmdbcaaDoorZ0
import Derived.Test.YtmhlmkefnmdbcaaDoorZ1
import Derived.Test.YtmhlmkefnmdbcaaDoorZ10
import Derived.Test.YtmhlmkefnmdbcaaDoorZ11
import Derived.Test.YtmhlmkefnmdbcaaDoorZ12
import Derived.Test.YtmhlmkefnmdbcaaDoorGe
namespace Go.Proofs.YtmhlmkefnmdbcaaDoor.Z
open Go.Proofs.YtmhlmkefnmdbcaaDoor.Gw
open Go.RowKit Go.Proofs.YtmhlmkefnmdbcaaDoorW.PrintWords Go.Proofs.YtmhlmkefnmdbcaaDoorW.PrintLast Go.Proofs.YtmhlmkefnmdbcaaDoorW.PrintMore
attribute [local go_sem high] Go.Proofs.YtmhlmkefnmdbcaaDoor.Ge.gtr_str
attribute [local go_sem] max2_int min2_int max_two min_two max_three min_three max_four min_four   -- for this text's walks alone
set_option linter.unusedVariables false
set_option linter.unusedSimpArgs false

/-! ### laws_FnRubyBehind: function 8 -/
mutual
def laws_FnRubyBehind.j0 : Nat → ByteArray → ByteArray → Int → Int → Bool → Option (Bool)
  | 0, _, _, _, _, _ => none
  | k + 1, x0, x1, x2, x3, x25 => if x25 = true then (some true) else ((laws_short.f k (([x0, x1] : List ByteArray))).bind fun t192 => (if t192 = true then ((laws_plain.f k x0 (⟨#[46]⟩ : ByteArray)).bind fun t193 => (if t193 = true then ((laws_plain.f k x1 (⟨#[]⟩ : ByteArray)).bind fun t194 => (if t194 = true then ((spec_RubyKnown.f k x0).bind fun t195 => (laws_FnRubyBehind.j1 k x0 x1 x2 x3 (!t195))) else (laws_FnRubyBehind.j1 k x0 x1 x2 x3 true))) else (laws_FnRubyBehind.j1 k x0 x1 x2 x3 true))) else (laws_FnRubyBehind.j1 k x0 x1 x2 x3 true)))
def laws_FnRubyBehind.j1 : Nat → ByteArray → ByteArray → Int → Int → Bool → Option (Bool)
  | 0, _, _, _, _, _ => none
  | k + 1, x0, x1, x2, x3, x45 => if x45 = true then (some true) else (laws_FnRubyBehind.l0 k x0 x1 x2 x3 0)
def laws_FnRubyBehind.l0 : Nat → ByteArray → ByteArray → Int → Int → Int → Option (Bool)
  | 0, _, _, _, _, _ => none
  | k + 1, x0, x1, x2, x3, x9 => if x9 < (x0.size : Int) then (if 0 ≤ x9 then (if (bt x0 x9) = 46 then (laws_FnRubyBehind.l0 k x0 x1 x2 x3 (wrap64 (x9 + 1))) else (if (bt x0 x9) < 48 then (some true) else (if (bt x0 x9) > 57 then (some true) else (laws_FnRubyBehind.l0 k x0 x1 x2 x3 (wrap64 (x9 + 1)))))) else (none)) else (laws_FnRubyBehind.l1 k x0 x1 x2 x3 0)
def laws_FnRubyBehind.l1 : Nat → ByteArray → ByteArray → Int → Int → Int → Option (Bool)
  | 0, _, _, _, _, _ => none
  | k + 1, x0, x1, x2, x3, x10 => if x10 < (x1.size : Int) then (if 0 ≤ x10 then (if (bt x1 x10) ≥ 48 then (if (bt x1 x10) ≤ 57 then (some true) else (laws_FnRubyBehind.l1 k x0 x1 x2 x3 (wrap64 (x10 + 1)))) else (laws_FnRubyBehind.l1 k x0 x1 x2 x3 (wrap64 (x10 + 1)))) else (none)) else (if x0.size + 2 ≤ 9223372036854775807 then ((impl_RubyCompare.f k (x0 ++ (⟨#[46, 48]⟩ : ByteArray)) x0).bind fun bt196 => (if x0.size + 1 ≤ 9223372036854775807 then (if (x0 ++ (⟨#[46]⟩ : ByteArray)).size + x1.size ≤ 9223372036854775807 then ((impl_RubyCompare.f k ((x0 ++ (⟨#[46]⟩ : ByteArray)) ++ x1) x0).bind fun bt198 => ((laws_decimal.f (wrap64 (x2))).bind fun t200 => (if ((x0 ++ (⟨#[46]⟩ : ByteArray)) ++ x1).size + t200.size ≤ 9223372036854775807 then ((laws_decimal.f (wrap64 (x3))).bind fun t201 => (if ((x0 ++ (⟨#[46]⟩ : ByteArray)) ++ x1).size + t201.size ≤ 9223372036854775807 then ((impl_RubyCompare.f k (((x0 ++ (⟨#[46]⟩ : ByteArray)) ++ x1) ++ t200) (((x0 ++ (⟨#[46]⟩ : ByteArray)) ++ x1) ++ t201)).bind fun bt202 => (if x2 < x3 then (if bt196.2 = true then (if bt198.2 = true then (if bt202.2 = true then (if bt196.1 = 0 then (if bt198.1 = (-1) then (some (bt202.1 == (-1))) else (some false)) else (some false)) else (some false)) else (some false)) else (some false)) else (if x2 > x3 then (if bt196.2 = true then (if bt198.2 = true then (if bt202.2 = true then (if bt196.1 = 0 then (if bt198.1 = (-1) then (some (bt202.1 == 1)) else (some false)) else (some false)) else (some false)) else (some false)) else (some false)) else (if bt196.2 = true then (if bt198.2 = true then (if bt202.2 = true then (if bt196.1 = 0 then (if bt198.1 = (-1) then (some (bt202.1 == 0)) else (some false)) else (some false)) else (some false)) else (some false)) else (some false))))) else (none))) else (none)))) else (none)) else (none))) else (none))
end
def laws_FnRubyBehind.f (k : Nat) (a0 : ByteArray) (a1 : ByteArray) (a2 : Int) (a3 : Int) : Option (Bool) := if (a0.size : Int) > 2147483647 then (laws_FnRubyBehind.j0 k a0 a1 a2 a3 true) else (laws_FnRubyBehind.j0 k a0 a1 a2 a3 (decide ((a1.size : Int) > 2147483647)))
theorem laws_FnRubyBehind.mono_l : ∀ k, (∀ y0 y1 y2 y3 y4, LeO (laws_FnRubyBehind.j0 k y0 y1 y2 y3 y4) (laws_FnRubyBehind.j0 (k + 1) y0 y1 y2 y3 y4)) ∧ (∀ y0 y1 y2 y3 y4, LeO (laws_FnRubyBehind.j1 k y0 y1 y2 y3 y4) (laws_FnRubyBehind.j1 (k + 1) y0 y1 y2 y3 y4)) ∧ (∀ y0 y1 y2 y3 y4, LeO (laws_FnRubyBehind.l0 k y0 y1 y2 y3 y4) (laws_FnRubyBehind.l0 (k + 1) y0 y1 y2 y3 y4)) ∧ (∀ y0 y1 y2 y3 y4, LeO (laws_FnRubyBehind.l1 k y0 y1 y2 y3 y4) (laws_FnRubyBehind.l1 (k + 1) y0 y1 y2 y3 y4))
  | 0 => ⟨fun _ _ _ _ _ r h => by simp [laws_FnRubyBehind.j0] at h, fun _ _ _ _ _ r h => by simp [laws_FnRubyBehind.j1] at h, fun _ _ _ _ _ r h => by simp [laws_FnRubyBehind.l0] at h, fun _ _ _ _ _ r h => by simp [laws_FnRubyBehind.l1] at h⟩
  | k + 1 => by
    obtain ⟨ih0, ih1, ih2, ih3⟩ := laws_FnRubyBehind.mono_l k
    refine ⟨?_, ?_, ?_, ?_⟩
    · intro y0 y1 y2 y3 y4
      unfold laws_FnRubyBehind.j0
      repeat' first
      | (with_reducible exact ih0 _ _ _ _ _)
      | (with_reducible exact ih1 _ _ _ _ _)
      | (with_reducible exact ih2 _ _ _ _ _)
      | (with_reducible exact ih3 _ _ _ _ _)
      | (with_reducible exact impl_RubyCompare.mono _ _ _)
      | (with_reducible exact laws_plain.mono _ _ _)
      | (with_reducible exact laws_short.mono _ _)
      | (with_reducible exact spec_RubyKnown.mono _ _)
      | (with_reducible exact LeO.refl _)
      | (with_reducible exact LeO.none _)
      | (with_reducible refine LeO.ite ?_ ?_)
      | (with_reducible refine LeO.bind ?_ (fun _ => ?_))
      | exact ih0 _ _ _ _ _
      | exact ih1 _ _ _ _ _
      | exact ih2 _ _ _ _ _
      | exact ih3 _ _ _ _ _
      | exact impl_RubyCompare.mono _ _ _
      | exact laws_plain.mono _ _ _
      | exact laws_short.mono _ _
      | exact spec_RubyKnown.mono _ _
      | exact LeO.none _
      | refine LeO.ite ?_ ?_
      | refine LeO.bind ?_ (fun _ => ?_)
    · intro y0 y1 y2 y3 y4
      unfold laws_FnRubyBehind.j1
      repeat' first
      | (with_reducible exact ih0 _ _ _ _ _)
      | (with_reducible exact ih1 _ _ _ _ _)
      | (with_reducible exact ih2 _ _ _ _ _)
      | (with_reducible exact ih3 _ _ _ _ _)
      | (with_reducible exact impl_RubyCompare.mono _ _ _)
      | (with_reducible exact laws_plain.mono _ _ _)
      | (with_reducible exact laws_short.mono _ _)
      | (with_reducible exact spec_RubyKnown.mono _ _)
      | (with_reducible exact LeO.refl _)
      | (with_reducible exact LeO.none _)
      | (with_reducible refine LeO.ite ?_ ?_)
      | (with_reducible refine LeO.bind ?_ (fun _ => ?_))
      | exact ih0 _ _ _ _ _
      | exact ih1 _ _ _ _ _
      | exact ih2 _ _ _ _ _
      | exact ih3 _ _ _ _ _
      | exact impl_RubyCompare.mono _ _ _
      | exact laws_plain.mono _ _ _
      | exact laws_short.mono _ _
      | exact spec_RubyKnown.mono _ _
      | exact LeO.none _
      | refine LeO.ite ?_ ?_
      | refine LeO.bind ?_ (fun _ => ?_)
    · intro y0 y1 y2 y3 y4
      unfold laws_FnRubyBehind.l0
      repeat' first
      | (with_reducible exact ih0 _ _ _ _ _)
      | (with_reducible exact ih1 _ _ _ _ _)
      | (with_reducible exact ih2 _ _ _ _ _)
      | (with_reducible exact ih3 _ _ _ _ _)
      | (with_reducible exact impl_RubyCompare.mono _ _ _)
      | (with_reducible exact laws_plain.mono _ _ _)
      | (with_reducible exact laws_short.mono _ _)
      | (with_reducible exact spec_RubyKnown.mono _ _)
      | (with_reducible exact LeO.refl _)
      | (with_reducible exact LeO.none _)
      | (with_reducible refine LeO.ite ?_ ?_)
      | (with_reducible refine LeO.bind ?_ (fun _ => ?_))
      | exact ih0 _ _ _ _ _
      | exact ih1 _ _ _ _ _
      | exact ih2 _ _ _ _ _
      | exact ih3 _ _ _ _ _
      | exact impl_RubyCompare.mono _ _ _
      | exact laws_plain.mono _ _ _
      | exact laws_short.mono _ _
      | exact spec_RubyKnown.mono _ _
      | exact LeO.none _
      | refine LeO.ite ?_ ?_
      | refine LeO.bind ?_ (fun _ => ?_)
    · intro y0 y1 y2 y3 y4
      unfold laws_FnRubyBehind.l1
      repeat' first
      | (with_reducible exact ih0 _ _ _ _ _)
      | (with_reducible exact ih1 _ _ _ _ _)
      | (with_reducible exact ih2 _ _ _ _ _)
      | (with_reducible exact ih3 _ _ _ _ _)
      | (with_reducible exact impl_RubyCompare.mono _ _ _)
      | (with_reducible exact laws_plain.mono _ _ _)
      | (with_reducible exact laws_short.mono _ _)
      | (with_reducible exact spec_RubyKnown.mono _ _)
      | (with_reducible exact LeO.refl _)
      | (with_reducible exact LeO.none _)
      | (with_reducible refine LeO.ite ?_ ?_)
      | (with_reducible refine LeO.bind ?_ (fun _ => ?_))
      | exact ih0 _ _ _ _ _
      | exact ih1 _ _ _ _ _
      | exact ih2 _ _ _ _ _
      | exact ih3 _ _ _ _ _
      | exact impl_RubyCompare.mono _ _ _
      | exact laws_plain.mono _ _ _
      | exact laws_short.mono _ _
      | exact spec_RubyKnown.mono _ _
      | exact LeO.none _
      | refine LeO.ite ?_ ?_
      | refine LeO.bind ?_ (fun _ => ?_)
theorem laws_FnRubyBehind.mono : ∀ a0 a1 a2 a3 k, LeO (laws_FnRubyBehind.f k a0 a1 a2 a3) (laws_FnRubyBehind.f (k + 1) a0 a1 a2 a3) := by
  intro a0 a1 a2 a3 k
  obtain ⟨ih0, ih1, ih2, ih3⟩ := laws_FnRubyBehind.mono_l k
  unfold laws_FnRubyBehind.f
  repeat' first
      | (with_reducible exact ih0 _ _ _ _ _)
      | (with_reducible exact ih1 _ _ _ _ _)
      | (with_reducible exact ih2 _ _ _ _ _)
      | (with_reducible exact ih3 _ _ _ _ _)
      | (with_reducible exact impl_RubyCompare.mono _ _ _)
      | (with_reducible exact laws_plain.mono _ _ _)
      | (with_reducible exact laws_short.mono _ _)
      | (with_reducible exact spec_RubyKnown.mono _ _)
      | (with_reducible exact LeO.refl _)
      | (with_reducible exact LeO.none _)
      | (with_reducible refine LeO.ite ?_ ?_)
      | (with_reducible refine LeO.bind ?_ (fun _ => ?_))
      | exact ih0 _ _ _ _ _
      | exact ih1 _ _ _ _ _
      | exact ih2 _ _ _ _ _
      | exact ih3 _ _ _ _ _
      | exact impl_RubyCompare.mono _ _ _
      | exact laws_plain.mono _ _ _
      | exact laws_short.mono _ _
      | exact spec_RubyKnown.mono _ _
      | exact LeO.none _
      | refine LeO.ite ?_ ?_
      | refine LeO.bind ?_ (fun _ => ?_)
set_option maxHeartbeats 8000000 in
set_option maxRecDepth 100000 in
theorem laws_FnRubyBehind.calls (k : Nat) (a0 : ByteArray) (a1 : ByteArray) (a2 : Int) (a3 : Int) (r : Bool) (w : World) (hG : GW w) (h : laws_FnRubyBehind.f k a0 a1 a2 a3 = some r) :
    Calls Tryd.prog 8 #[.string a0, .string a1, .int .u16 a2, .int .u16 a3] w fun e w' => e = .returned (.bool r) ∧ Below w.heap.size w w' := by
  have HG := Aside0.mk hG
  clear hG
  have HB := Aside0.mk (Below.refl w.heap.size w)
  have H : (if (a0.size : Int) > 2147483647 then (laws_FnRubyBehind.j0 k a0 a1 a2 a3 true) else (laws_FnRubyBehind.j0 k a0 a1 a2 a3 (decide ((a1.size : Int) > 2147483647)))) = some r := h
  clear h
  have HC5 := Aside0.mk H
  clear H
  go_enter Tryd.func8, Tryd.ntmps8
  go_upto_region 1 with (fail)
  go_cut [25] (fun v25 wc => ∃ (kq : Nat) (x25_4 : Bool), v25 = .bool x25_4 ∧ Aside0 (laws_FnRubyBehind.j0 kq a0 a1 a2 a3 x25_4 = some r) ∧ Aside0 (kq ≤ k) ∧ Aside0 (Below w.heap.size w wc))
  case first =>
    have H := HC5.out
    clear HC5
    by_cases c6 : (a0.size : Int) > 2147483647
    · rw [if_pos c6] at H
      have c6b0 : decide (2147483647 < (a0.size : Int)) = true := decide_eq_true c6
      have c6b1 : decide (2147483647 < a0.size) = true := decide_eq_true (by omega)
      clear c6
      (first | rw [c6b0] | (simp only [i64_w, i32_w]; rw [c6b0]) | skip)
      have H' := Aside0.mk H
      clear H
      go_wp2
      go_meet
      case rel => exact ⟨_, (true), (by first | rfl | (simp; done) | (simp [*]; done)), H', ⟨by first | omega | exact Nat.le_refl _⟩, ⟨by repeat (first | (with_reducible first | exact HB.out | apply below_alloc | apply pw_below_drewN | apply below_drew1) | exact HB.out)⟩⟩
    · rw [if_neg c6] at H
      have c6b0 : decide (2147483647 < (a0.size : Int)) = false := decide_eq_false c6
      have c6b1 : decide (2147483647 < a0.size) = false := decide_eq_false (by omega)
      clear c6
      (first | rw [c6b0] | (simp only [i64_w, i32_w]; rw [c6b0]) | skip)
      have H' := Aside0.mk H
      clear H
      go_wp2
      go_meet
      case rel => exact ⟨_, (decide ((a1.size : Int) > 2147483647)), (by first | rfl | (simp; done) | (simp [*]; done)), H', ⟨by first | omega | exact Nat.le_refl _⟩, ⟨by repeat (first | (with_reducible first | exact HB.out | apply below_alloc | apply pw_below_drewN | apply below_drew1) | exact HB.out)⟩⟩
  case rest =>
    clear HC5
    try clear p2
    try clear c6
    try clear c6b0
    try clear c6b1
    obtain ⟨kq, x25_4, rfl, HA, HJ4, HB⟩ := hcut
    cases kq with
    | zero => exact absurd HA.out (by simp [laws_FnRubyBehind.j0])
    | succ kj4 =>
      have H := HA.out
      clear HA
      simp only [laws_FnRubyBehind.j0] at H
      by_cases c7 : x25_4 = true
      · subst c7
        have H1 : (some true) = some r := by rw [if_pos rfl] at H; exact H
        clear H
        have H := H1
        clear H1
        obtain rfl := Option.some.inj H
        go_wp2
        go_ret
        exact ⟨by first | rfl | (simp [errW_none, errW_some] <;> rfl) | (simp [*, errW_none, errW_some] <;> rfl), by repeat (first | (with_reducible first | exact HB.out | apply below_alloc | apply pw_below_drewN | apply below_drew1) | exact HB.out)⟩
      · replace c7 := Bool.eq_false_iff.mpr c7
        subst c7
        have H1 : ((laws_short.f kj4 (([a0, a1] : List ByteArray))).bind fun t192 => (if t192 = true then ((laws_plain.f kj4 a0 (⟨#[46]⟩ : ByteArray)).bind fun t193 => (if t193 = true then ((laws_plain.f kj4 a1 (⟨#[]⟩ : ByteArray)).bind fun t194 => (if t194 = true then ((spec_RubyKnown.f kj4 a0).bind fun t195 => (laws_FnRubyBehind.j1 kj4 a0 a1 a2 a3 (!t195))) else (laws_FnRubyBehind.j1 kj4 a0 a1 a2 a3 true))) else (laws_FnRubyBehind.j1 kj4 a0 a1 a2 a3 true))) else (laws_FnRubyBehind.j1 kj4 a0 a1 a2 a3 true))) = some r := by rw [if_neg (show ¬ (false = true) by decide)] at H; exact H
        clear H
        have H := H1
        clear H1
        have HC8 := Aside0.mk H
        clear H
        go_upto_region 3 with (fail)
        go_cut [45] (fun v45 wc => ∃ (kq : Nat) (x45_7 : Bool), v45 = .bool x45_7 ∧ Aside0 (laws_FnRubyBehind.j1 kq a0 a1 a2 a3 x45_7 = some r) ∧ Aside0 (kq ≤ kj4) ∧ Aside0 (Below w.heap.size w wc))
        case first =>
          have H := HC8.out
          clear HC8
          obtain ⟨y189, hy189⟩ : ∃ y_ : List ByteArray, y_ = (([a0, a1] : List ByteArray)) := ⟨_, rfl⟩
          replace H : ((laws_short.f kj4 y189).bind fun t192 => (if t192 = true then ((laws_plain.f kj4 a0 (⟨#[46]⟩ : ByteArray)).bind fun t193 => (if t193 = true then ((laws_plain.f kj4 a1 (⟨#[]⟩ : ByteArray)).bind fun t194 => (if t194 = true then ((spec_RubyKnown.f kj4 a0).bind fun t195 => (laws_FnRubyBehind.j1 kj4 a0 a1 a2 a3 (!t195))) else (laws_FnRubyBehind.j1 kj4 a0 a1 a2 a3 true))) else (laws_FnRubyBehind.j1 kj4 a0 a1 a2 a3 true))) else (laws_FnRubyBehind.j1 kj4 a0 a1 a2 a3 true))) = some r := by first | (rw [hy189]; with_reducible exact H) | (have H2_ := (Option.bind_some _ _).symm.trans H; rw [hy189]; with_reducible exact H2_) | (have H2_ := (Option.bind_some _ _).symm.trans H; with_reducible exact H2_) | with_reducible exact H | (rw [hy189]; exact H) | exact H
          have Ny189 := Aside0.mk hy189
          clear hy189
          replace H := Option.bind_eq_some_iff.mp H
          obtain ⟨t192, A90, H⟩ := H
          replace H : (if t192 = true then ((laws_plain.f kj4 a0 (⟨#[46]⟩ : ByteArray)).bind fun t193 => (if t193 = true then ((laws_plain.f kj4 a1 (⟨#[]⟩ : ByteArray)).bind fun t194 => (if t194 = true then ((spec_RubyKnown.f kj4 a0).bind fun t195 => (laws_FnRubyBehind.j1 kj4 a0 a1 a2 a3 (!t195))) else (laws_FnRubyBehind.j1 kj4 a0 a1 a2 a3 true))) else (laws_FnRubyBehind.j1 kj4 a0 a1 a2 a3 true))) else (laws_FnRubyBehind.j1 kj4 a0 a1 a2 a3 true)) = some r := H
          have A9 := Aside0.mk A90
          clear A90
          by_cases c10 : t192 = true
          · subst c10
            have H1 : ((laws_plain.f kj4 a0 (⟨#[46]⟩ : ByteArray)).bind fun t193 => (if t193 = true then ((laws_plain.f kj4 a1 (⟨#[]⟩ : ByteArray)).bind fun t194 => (if t194 = true then ((spec_RubyKnown.f kj4 a0).bind fun t195 => (laws_FnRubyBehind.j1 kj4 a0 a1 a2 a3 (!t195))) else (laws_FnRubyBehind.j1 kj4 a0 a1 a2 a3 true))) else (laws_FnRubyBehind.j1 kj4 a0 a1 a2 a3 true))) = some r := by rw [if_pos rfl] at H; exact H
            clear H
            have H := H1
            clear H1
            replace H := Option.bind_eq_some_iff.mp H
            obtain ⟨t193, A110, H⟩ := H
            replace H : (if t193 = true then ((laws_plain.f kj4 a1 (⟨#[]⟩ : ByteArray)).bind fun t194 => (if t194 = true then ((spec_RubyKnown.f kj4 a0).bind fun t195 => (laws_FnRubyBehind.j1 kj4 a0 a1 a2 a3 (!t195))) else (laws_FnRubyBehind.j1 kj4 a0 a1 a2 a3 true))) else (laws_FnRubyBehind.j1 kj4 a0 a1 a2 a3 true)) = some r := H
            have A11 := Aside0.mk A110
            clear A110
            by_cases c12 : t193 = true
            · subst c12
              have H1 : ((laws_plain.f kj4 a1 (⟨#[]⟩ : ByteArray)).bind fun t194 => (if t194 = true then ((spec_RubyKnown.f kj4 a0).bind fun t195 => (laws_FnRubyBehind.j1 kj4 a0 a1 a2 a3 (!t195))) else (laws_FnRubyBehind.j1 kj4 a0 a1 a2 a3 true))) = some r := by rw [if_pos rfl] at H; exact H
              clear H
              have H := H1
              clear H1
              replace H := Option.bind_eq_some_iff.mp H
              obtain ⟨t194, A130, H⟩ := H
              replace H : (if t194 = true then ((spec_RubyKnown.f kj4 a0).bind fun t195 => (laws_FnRubyBehind.j1 kj4 a0 a1 a2 a3 (!t195))) else (laws_FnRubyBehind.j1 kj4 a0 a1 a2 a3 true)) = some r := H
              have A13 := Aside0.mk A130
              clear A130
              by_cases c14 : t194 = true
              · subst c14
                have H1 : ((spec_RubyKnown.f kj4 a0).bind fun t195 => (laws_FnRubyBehind.j1 kj4 a0 a1 a2 a3 (!t195))) = some r := by rw [if_pos rfl] at H; exact H
                clear H
                have H := H1
                clear H1
                replace H := Option.bind_eq_some_iff.mp H
                obtain ⟨t195, A150, H⟩ := H
                replace H : (laws_FnRubyBehind.j1 kj4 a0 a1 a2 a3 (!t195)) = some r := H
                have A15 := Aside0.mk A150
                clear A150
                have H' := Aside0.mk H
                clear H
                go_wp2_with (first | ((with_reducible refine gate_dst (N := 28) rfl ?_); (try (refine gate_guard (by rfl) ?_; dsimp only)); refine Kd.R_lit Kd.string _ 9 ?hg (N := 28) ?hd (xs := ([a0, a1] : List ByteArray)) (inner := [.string a0, .string a1]) (ok := fun _ => True) (okp := fun _ => True) ?hr ?hp (fun _ hk => hk) trivial (Below.refl _ _) (Nat.le_refl _) (by simp) ?_; (case hd => rfl); (case hg => rfl); (case hr => first | (go_simp; done) | (go_simp; rfl)); (case hp => exact (Reps.one (show Kd.M Kd.string _ _ _ a0 [.string a0] from rfl) (Reps.one (show Kd.M Kd.string _ _ _ a1 [.string a1] from rfl) (Reps.none _ _)))); intro v190 w16 ho17 hb hg_ hnew_; clear hg_ hnew_; (first | rw [← Ny189.out] at ho17 | (simp only [Int.reduceToNat] at ho17; rw [← Ny189.out] at ho17)); have n0_ := Aside0.mk (Kd.R_lower ho17 (below_size (by repeat (first | (with_reducible first | exact HB.out | apply below_alloc | apply pw_below_drewN | apply below_drew1) | exact HB.out)))); have n1_ := Aside0.mk (below_step (by repeat (first | (with_reducible first | exact HB.out | apply below_alloc | apply pw_below_drewN | apply below_drew1) | exact HB.out)) hb); clear HB; have HO191 := n0_; have HB := n1_; clear n0_ n1_; clear hb ho17; obtain ⟨Ao18, co18, eo18⟩ := Kd.R_slice HO191.out; subst eo18) | ((with_reducible refine gate_callee (f := 11) rfl ?_); refine goesL_ (some 29) rfl rfl Tryd.func11 (by kernel_rfl) rfl #[.slice Ao18 y189.length co18] rfl (by (try simp only [List.map_toArray, List.map_cons, List.map_nil]); first | done | rfl | (simp only [List.length_drop, List.length_take]; rfl)) ?_; (with_reducible refine (laws_short.calls kj4 _ _ y189 true _ ?side1 ?side2 A9.out).mono ?_); (case side1 => repeat (first | exact (Kd.R_reads' HO191.out).2.2 | (with_reducible refine Kd.C_alloc ?_ _) | (with_reducible refine Kd.C_drewN ?_ _) | (with_reducible refine Kd.C_drew ?_))); (case side2 => exact (Kd.R_reads' HO191.out).2.1); rintro e w' ⟨rfl, ⟨nd, rfl⟩⟩; refine ⟨_, rfl, ?_⟩) | (go_at_call 19; (with_reducible refine (laws_plain.calls kj4 a0 (⟨#[46]⟩ : ByteArray) true _ A11.out).mono ?_); rintro e w' ⟨rfl, ⟨nd, rfl⟩⟩) | (go_at_call 19; (with_reducible refine (laws_plain.calls kj4 a1 (⟨#[]⟩ : ByteArray) true _ A13.out).mono ?_); rintro e w' ⟨rfl, ⟨nd, rfl⟩⟩) | (go_at_call 25; (with_reducible refine (spec_RubyKnown.calls kj4 a0 t195 _ A15.out).mono ?_); rintro e w19 ⟨rfl, hb⟩; have n0_ := Aside0.mk (Kd.R_below (by (with_reducible repeat (first | apply Kd.R_alloc | apply Kd.R_drewN | apply Kd.R_drew)); exact HO191.out) hb); have n1_ := Aside0.mk (below_step (by repeat (first | (with_reducible first | exact HB.out | apply below_alloc | apply pw_below_drewN | apply below_drew1) | exact HB.out)) hb); clear HO191; clear HB; have HO191 := n0_; have HB := n1_; clear n0_ n1_; (try clear hb); (try clear hb2); (try clear hk); (try clear hi)))
                go_meet
                case rel => exact ⟨_, (!t195), (by first | rfl | (simp; done) | (simp [*]; done)), H', ⟨by have := HJ4.out; first | omega | exact Nat.le_refl _⟩, ⟨by repeat (first | (with_reducible first | exact HB.out | apply below_alloc | apply pw_below_drewN | apply below_drew1) | exact HB.out)⟩⟩
              · replace c14 := Bool.eq_false_iff.mpr c14
                subst c14
                have H1 : (laws_FnRubyBehind.j1 kj4 a0 a1 a2 a3 true) = some r := by rw [if_neg (show ¬ (false = true) by decide)] at H; exact H
                clear H
                have H := H1
                clear H1
                have H' := Aside0.mk H
                clear H
                go_wp2_with (first | ((with_reducible refine gate_dst (N := 28) rfl ?_); (try (refine gate_guard (by rfl) ?_; dsimp only)); refine Kd.R_lit Kd.string _ 9 ?hg (N := 28) ?hd (xs := ([a0, a1] : List ByteArray)) (inner := [.string a0, .string a1]) (ok := fun _ => True) (okp := fun _ => True) ?hr ?hp (fun _ hk => hk) trivial (Below.refl _ _) (Nat.le_refl _) (by simp) ?_; (case hd => rfl); (case hg => rfl); (case hr => first | (go_simp; done) | (go_simp; rfl)); (case hp => exact (Reps.one (show Kd.M Kd.string _ _ _ a0 [.string a0] from rfl) (Reps.one (show Kd.M Kd.string _ _ _ a1 [.string a1] from rfl) (Reps.none _ _)))); intro v190 w20 ho21 hb hg_ hnew_; clear hg_ hnew_; (first | rw [← Ny189.out] at ho21 | (simp only [Int.reduceToNat] at ho21; rw [← Ny189.out] at ho21)); have n0_ := Aside0.mk (Kd.R_lower ho21 (below_size (by repeat (first | (with_reducible first | exact HB.out | apply below_alloc | apply pw_below_drewN | apply below_drew1) | exact HB.out)))); have n1_ := Aside0.mk (below_step (by repeat (first | (with_reducible first | exact HB.out | apply below_alloc | apply pw_below_drewN | apply below_drew1) | exact HB.out)) hb); clear HB; have HO191 := n0_; have HB := n1_; clear n0_ n1_; clear hb ho21; obtain ⟨Ao22, co22, eo22⟩ := Kd.R_slice HO191.out; subst eo22) | ((with_reducible refine gate_callee (f := 11) rfl ?_); refine goesL_ (some 29) rfl rfl Tryd.func11 (by kernel_rfl) rfl #[.slice Ao22 y189.length co22] rfl (by (try simp only [List.map_toArray, List.map_cons, List.map_nil]); first | done | rfl | (simp only [List.length_drop, List.length_take]; rfl)) ?_; (with_reducible refine (laws_short.calls kj4 _ _ y189 true _ ?side1 ?side2 A9.out).mono ?_); (case side1 => repeat (first | exact (Kd.R_reads' HO191.out).2.2 | (with_reducible refine Kd.C_alloc ?_ _) | (with_reducible refine Kd.C_drewN ?_ _) | (with_reducible refine Kd.C_drew ?_))); (case side2 => exact (Kd.R_reads' HO191.out).2.1); rintro e w' ⟨rfl, ⟨nd, rfl⟩⟩; refine ⟨_, rfl, ?_⟩) | (go_at_call 19; (with_reducible refine (laws_plain.calls kj4 a0 (⟨#[46]⟩ : ByteArray) true _ A11.out).mono ?_); rintro e w' ⟨rfl, ⟨nd, rfl⟩⟩) | (go_at_call 19; (with_reducible refine (laws_plain.calls kj4 a1 (⟨#[]⟩ : ByteArray) false _ A13.out).mono ?_); rintro e w' ⟨rfl, ⟨nd, rfl⟩⟩))
                go_meet
                case rel => exact ⟨_, (true), (by first | rfl | (simp; done) | (simp [*]; done)), H', ⟨by have := HJ4.out; first | omega | exact Nat.le_refl _⟩, ⟨by repeat (first | (with_reducible first | exact HB.out | apply below_alloc | apply pw_below_drewN | apply below_drew1) | exact HB.out)⟩⟩
            · replace c12 := Bool.eq_false_iff.mpr c12
              subst c12
              have H1 : (laws_FnRubyBehind.j1 kj4 a0 a1 a2 a3 true) = some r := by rw [if_neg (show ¬ (false = true) by decide)] at H; exact H
              clear H
              have H := H1
              clear H1
              have H' := Aside0.mk H
              clear H
              go_wp2_with (first | ((with_reducible refine gate_dst (N := 28) rfl ?_); (try (refine gate_guard (by rfl) ?_; dsimp only)); refine Kd.R_lit Kd.string _ 9 ?hg (N := 28) ?hd (xs := ([a0, a1] : List ByteArray)) (inner := [.string a0, .string a1]) (ok := fun _ => True) (okp := fun _ => True) ?hr ?hp (fun _ hk => hk) trivial (Below.refl _ _) (Nat.le_refl _) (by simp) ?_; (case hd => rfl); (case hg => rfl); (case hr => first | (go_simp; done) | (go_simp; rfl)); (case hp => exact (Reps.one (show Kd.M Kd.string _ _ _ a0 [.string a0] from rfl) (Reps.one (show Kd.M Kd.string _ _ _ a1 [.string a1] from rfl) (Reps.none _ _)))); intro v190 w23 ho24 hb hg_ hnew_; clear hg_ hnew_; (first | rw [← Ny189.out] at ho24 | (simp only [Int.reduceToNat] at ho24; rw [← Ny189.out] at ho24)); have n0_ := Aside0.mk (Kd.R_lower ho24 (below_size (by repeat (first | (with_reducible first | exact HB.out | apply below_alloc | apply pw_below_drewN | apply below_drew1) | exact HB.out)))); have n1_ := Aside0.mk (below_step (by repeat (first | (with_reducible first | exact HB.out | apply below_alloc | apply pw_below_drewN | apply below_drew1) | exact HB.out)) hb); clear HB; have HO191 := n0_; have HB := n1_; clear n0_ n1_; clear hb ho24; obtain ⟨Ao25, co25, eo25⟩ := Kd.R_slice HO191.out; subst eo25) | ((with_reducible refine gate_callee (f := 11) rfl ?_); refine goesL_ (some 29) rfl rfl Tryd.func11 (by kernel_rfl) rfl #[.slice Ao25 y189.length co25] rfl (by (try simp only [List.map_toArray, List.map_cons, List.map_nil]); first | done | rfl | (simp only [List.length_drop, List.length_take]; rfl)) ?_; (with_reducible refine (laws_short.calls kj4 _ _ y189 true _ ?side1 ?side2 A9.out).mono ?_); (case side1 => repeat (first | exact (Kd.R_reads' HO191.out).2.2 | (with_reducible refine Kd.C_alloc ?_ _) | (with_reducible refine Kd.C_drewN ?_ _) | (with_reducible refine Kd.C_drew ?_))); (case side2 => exact (Kd.R_reads' HO191.out).2.1); rintro e w' ⟨rfl, ⟨nd, rfl⟩⟩; refine ⟨_, rfl, ?_⟩) | (go_at_call 19; (with_reducible refine (laws_plain.calls kj4 a0 (⟨#[46]⟩ : ByteArray) false _ A11.out).mono ?_); rintro e w' ⟨rfl, ⟨nd, rfl⟩⟩))
              go_meet
              case rel => exact ⟨_, (true), (by first | rfl | (simp; done) | (simp [*]; done)), H', ⟨by have := HJ4.out; first | omega | exact Nat.le_refl _⟩, ⟨by repeat (first | (with_reducible first | exact HB.out | apply below_alloc | apply pw_below_drewN | apply below_drew1) | exact HB.out)⟩⟩
          · replace c10 := Bool.eq_false_iff.mpr c10
            subst c10
            have H1 : (laws_FnRubyBehind.j1 kj4 a0 a1 a2 a3 true) = some r := by rw [if_neg (show ¬ (false = true) by decide)] at H; exact H
            clear H
            have H := H1
            clear H1
            have H' := Aside0.mk H
            clear H
            go_wp2_with (first | ((with_reducible refine gate_dst (N := 28) rfl ?_); (try (refine gate_guard (by rfl) ?_; dsimp only)); refine Kd.R_lit Kd.string _ 9 ?hg (N := 28) ?hd (xs := ([a0, a1] : List ByteArray)) (inner := [.string a0, .string a1]) (ok := fun _ => True) (okp := fun _ => True) ?hr ?hp (fun _ hk => hk) trivial (Below.refl _ _) (Nat.le_refl _) (by simp) ?_; (case hd => rfl); (case hg => rfl); (case hr => first | (go_simp; done) | (go_simp; rfl)); (case hp => exact (Reps.one (show Kd.M Kd.string _ _ _ a0 [.string a0] from rfl) (Reps.one (show Kd.M Kd.string _ _ _ a1 [.string a1] from rfl) (Reps.none _ _)))); intro v190 w26 ho27 hb hg_ hnew_; clear hg_ hnew_; (first | rw [← Ny189.out] at ho27 | (simp only [Int.reduceToNat] at ho27; rw [← Ny189.out] at ho27)); have n0_ := Aside0.mk (Kd.R_lower ho27 (below_size (by repeat (first | (with_reducible first | exact HB.out | apply below_alloc | apply pw_below_drewN | apply below_drew1) | exact HB.out)))); have n1_ := Aside0.mk (below_step (by repeat (first | (with_reducible first | exact HB.out | apply below_alloc | apply pw_below_drewN | apply below_drew1) | exact HB.out)) hb); clear HB; have HO191 := n0_; have HB := n1_; clear n0_ n1_; clear hb ho27; obtain ⟨Ao28, co28, eo28⟩ := Kd.R_slice HO191.out; subst eo28) | ((with_reducible refine gate_callee (f := 11) rfl ?_); refine goesL_ (some 29) rfl rfl Tryd.func11 (by kernel_rfl) rfl #[.slice Ao28 y189.length co28] rfl (by (try simp only [List.map_toArray, List.map_cons, List.map_nil]); first | done | rfl | (simp only [List.length_drop, List.length_take]; rfl)) ?_; (with_reducible refine (laws_short.calls kj4 _ _ y189 false _ ?side1 ?side2 A9.out).mono ?_); (case side1 => repeat (first | exact (Kd.R_reads' HO191.out).2.2 | (with_reducible refine Kd.C_alloc ?_ _) | (with_reducible refine Kd.C_drewN ?_ _) | (with_reducible refine Kd.C_drew ?_))); (case side2 => exact (Kd.R_reads' HO191.out).2.1); rintro e w' ⟨rfl, ⟨nd, rfl⟩⟩; refine ⟨_, rfl, ?_⟩))
            go_meet
            case rel => exact ⟨_, (true), (by first | rfl | (simp; done) | (simp [*]; done)), H', ⟨by have := HJ4.out; first | omega | exact Nat.le_refl _⟩, ⟨by repeat (first | (with_reducible first | exact HB.out | apply below_alloc | apply pw_below_drewN | apply below_drew1) | exact HB.out)⟩⟩
        case rest =>
          clear HC8
          try clear c1
          try clear p2
          try clear c6
          try clear c6b0
          try clear c6b1
          try clear c7
          try clear c8
          try clear c10
          try clear c11
          try clear c12
          try clear c14
          try clear p2
          obtain ⟨kq, x45_7, rfl, HA, HJ7, HB⟩ := hcut
          cases kq with
          | zero => exact absurd HA.out (by simp [laws_FnRubyBehind.j1])
          | succ kj7 =>
            have H := HA.out
            clear HA
            simp only [laws_FnRubyBehind.j1] at H
            by_cases c29 : x45_7 = true
            · subst c29
              have H1 : (some true) = some r := by rw [if_pos rfl] at H; exact H
              clear H
              have H := H1
              clear H1
              obtain rfl := Option.some.inj H
              go_wp2
              go_ret
              exact ⟨by first | rfl | (simp [errW_none, errW_some] <;> rfl) | (simp [*, errW_none, errW_some] <;> rfl), by repeat (first | (with_reducible first | exact HB.out | apply below_alloc | apply pw_below_drewN | apply below_drew1) | exact HB.out)⟩
            · replace c29 := Bool.eq_false_iff.mpr c29
              subst c29
              have H1 : (laws_FnRubyBehind.l0 kj7 a0 a1 a2 a3 0) = some r := by rw [if_neg (show ¬ (false = true) by decide)] at H; exact H
              clear H
              have H := H1
              clear H1
              have H' := Aside0.mk H
              clear H
              go_wp2
              go_loopg [9] kj7 (fun kq v9 w' => ∃ (x9_3 : Int), v9 = .int .i64 x9_3 ∧ Aside0 (laws_FnRubyBehind.l0 kq a0 a1 a2 a3 x9_3 = some r) ∧ Aside0 (kq ≤ kj7) ∧ Aside0 (Below w.heap.size w w'))
              case atStart => exact ⟨(0), (by first | rfl | (simp; done) | (simp [*]; done)), H', ⟨Nat.le_refl _⟩, ⟨by repeat (first | (with_reducible first | exact HB.out | apply below_alloc | apply pw_below_drewN | apply below_drew1) | exact HB.out)⟩⟩
              case round =>
                clear H'
                try clear c1
                try clear c2
                try clear p2
                try clear c6
                try clear c6b0
                try clear c6b1
                try clear c7
                try clear c8
                try clear c10
                try clear c11
                try clear c12
                try clear c14
                try clear c29
                try clear p2
                obtain ⟨x9_3, rfl, HA, HK3, HB⟩ := hrel
                cases gk with
                | zero => exact absurd HA.out (by simp [laws_FnRubyBehind.l0])
                | succ k3 =>
                  have H := HA.out
                  clear HA
                  simp only [laws_FnRubyBehind.l0] at H
                  by_cases c30 : x9_3 < (a0.size : Int)
                  · rw [if_pos c30] at H
                    have c30b0 : decide (x9_3 < (a0.size : Int)) = true := decide_eq_true c30
                    clear c30
                    by_cases c31 : 0 ≤ x9_3
                    · rw [if_pos c31] at H
                      have c31b0 : decide (0 ≤ x9_3) = true := decide_eq_true c31
                      clear c31
                      by_cases c33 : (bt a0 x9_3) = 46
                      · rw [if_pos c33] at H
                        have c33b0 : ((bt a0 x9_3) == 46) = true := beq_iff_eq.mpr c33
                        have c33b1 : ((bt a0 x9_3) != 46) = false := bne_eq_false_iff_eq.mpr c33
                        clear c33
                        have H' := Aside0.mk H
                        clear H
                        have p32 : 0 ≤ (x9_3 : Int) := of_decide_eq_true (by first | (with_reducible assumption) | assumption)
                        have q32 : x9_3 < (a0.size : Int) := of_decide_eq_true (by first | (with_reducible assumption) | assumption)
                        have hx32 := bt_at a0 x9_3
                        replace p32 := eq_true p32
                        replace q32 := eq_true q32
                        go_wp2
                        go_roundg k3
                        case measure => have := HJ4.out; have := HJ7.out; have := HK3.out; omega
                        case rel => exact ⟨(wrap64 (x9_3 + 1)), (by first | rfl | (simp; done) | (simp [*]; done)), H', ⟨by have := HJ4.out; have := HJ7.out; have := HK3.out; omega⟩, ⟨by repeat (first | (with_reducible first | exact HB.out | apply below_alloc | apply pw_below_drewN | apply below_drew1) | exact HB.out)⟩⟩
                      · rw [if_neg c33] at H
                        have c33b0 : ((bt a0 x9_3) == 46) = false := beq_eq_false_iff_ne.mpr c33
                        have c33b1 : ((bt a0 x9_3) != 46) = true := bne_iff_ne.mpr c33
                        by_cases c35 : (bt a0 x9_3) < 48
                        · rw [if_pos c35] at H
                          have c35b0 : decide ((bt a0 x9_3) < 48) = true := decide_eq_true c35
                          clear c35
                          obtain rfl := Option.some.inj H
                          have p32 : 0 ≤ (x9_3 : Int) := of_decide_eq_true (by first | (with_reducible assumption) | assumption)
                          have q32 : x9_3 < (a0.size : Int) := of_decide_eq_true (by first | (with_reducible assumption) | assumption)
                          have hx32 := bt_at a0 x9_3
                          replace p32 := eq_true p32
                          replace q32 := eq_true q32
                          have p34 : 0 ≤ (x9_3 : Int) := of_decide_eq_true (by first | (with_reducible assumption) | assumption)
                          have q34 : x9_3 < (a0.size : Int) := of_decide_eq_true (by first | (with_reducible assumption) | assumption)
                          have hx34 := bt_at a0 x9_3
                          replace p34 := eq_true p34
                          replace q34 := eq_true q34
                          go_wp2
                          go_ret
                          exact ⟨by first | rfl | (simp [errW_none, errW_some] <;> rfl) | (simp [*, errW_none, errW_some] <;> rfl), by repeat (first | (with_reducible first | exact HB.out | apply below_alloc | apply pw_below_drewN | apply below_drew1) | exact HB.out)⟩
                        · rw [if_neg c35] at H
                          have c35b0 : decide ((bt a0 x9_3) < 48) = false := decide_eq_false c35
                          clear c35
                          by_cases c37 : (bt a0 x9_3) > 57
                          · rw [if_pos c37] at H
                            have c37b0 : decide (57 < (bt a0 x9_3)) = true := decide_eq_true c37
                            clear c37
                            obtain rfl := Option.some.inj H
                            have p32 : 0 ≤ (x9_3 : Int) := of_decide_eq_true (by first | (with_reducible assumption) | assumption)
                            have q32 : x9_3 < (a0.size : Int) := of_decide_eq_true (by first | (with_reducible assumption) | assumption)
                            have hx32 := bt_at a0 x9_3
                            replace p32 := eq_true p32
                            replace q32 := eq_true q32
                            have p34 : 0 ≤ (x9_3 : Int) := of_decide_eq_true (by first | (with_reducible assumption) | assumption)
                            have q34 : x9_3 < (a0.size : Int) := of_decide_eq_true (by first | (with_reducible assumption) | assumption)
                            have hx34 := bt_at a0 x9_3
                            replace p34 := eq_true p34
                            replace q34 := eq_true q34
                            have p36 : 0 ≤ (x9_3 : Int) := of_decide_eq_true (by first | (with_reducible assumption) | assumption)
                            have q36 : x9_3 < (a0.size : Int) := of_decide_eq_true (by first | (with_reducible assumption) | assumption)
                            have hx36 := bt_at a0 x9_3
                            replace p36 := eq_true p36
                            replace q36 := eq_true q36
                            go_wp2
                            go_ret
                            exact ⟨by first | rfl | (simp [errW_none, errW_some] <;> rfl) | (simp [*, errW_none, errW_some] <;> rfl), by repeat (first | (with_reducible first | exact HB.out | apply below_alloc | apply pw_below_drewN | apply below_drew1) | exact HB.out)⟩
                          · rw [if_neg c37] at H
                            have c37b0 : decide (57 < (bt a0 x9_3)) = false := decide_eq_false c37
                            clear c37
                            have H' := Aside0.mk H
                            clear H
                            have p32 : 0 ≤ (x9_3 : Int) := of_decide_eq_true (by first | (with_reducible assumption) | assumption)
                            have q32 : x9_3 < (a0.size : Int) := of_decide_eq_true (by first | (with_reducible assumption) | assumption)
                            have hx32 := bt_at a0 x9_3
                            replace p32 := eq_true p32
                            replace q32 := eq_true q32
                            have p34 : 0 ≤ (x9_3 : Int) := of_decide_eq_true (by first | (with_reducible assumption) | assumption)
                            have q34 : x9_3 < (a0.size : Int) := of_decide_eq_true (by first | (with_reducible assumption) | assumption)
                            have hx34 := bt_at a0 x9_3
                            replace p34 := eq_true p34
                            replace q34 := eq_true q34
                            have p36 : 0 ≤ (x9_3 : Int) := of_decide_eq_true (by first | (with_reducible assumption) | assumption)
                            have q36 : x9_3 < (a0.size : Int) := of_decide_eq_true (by first | (with_reducible assumption) | assumption)
                            have hx36 := bt_at a0 x9_3
                            replace p36 := eq_true p36
                            replace q36 := eq_true q36
                            go_wp2
                            go_roundg k3
                            case measure => have := HJ4.out; have := HJ7.out; have := HK3.out; omega
                            case rel => exact ⟨(wrap64 (x9_3 + 1)), (by first | rfl | (simp; done) | (simp [*]; done)), H', ⟨by have := HJ4.out; have := HJ7.out; have := HK3.out; omega⟩, ⟨by repeat (first | (with_reducible first | exact HB.out | apply below_alloc | apply pw_below_drewN | apply below_drew1) | exact HB.out)⟩⟩
                    · rw [if_neg c31] at H
                      exact absurd H (by simp)
                  · rw [if_neg c30] at H
                    have c30b0 : decide (x9_3 < (a0.size : Int)) = false := decide_eq_false c30
                    clear c30
                    have H' := Aside0.mk H
                    clear H
                    go_wp2
                    go_loopg [10] k3 (fun kq v10 w' => ∃ (x10_4 : Int), v10 = .int .i64 x10_4 ∧ Aside0 (laws_FnRubyBehind.l1 kq a0 a1 a2 a3 x10_4 = some r) ∧ Aside0 (kq ≤ k3) ∧ Aside0 (Below w.heap.size w w'))
                    case atStart => exact ⟨(0), (by first | rfl | (simp; done) | (simp [*]; done)), H', ⟨Nat.le_refl _⟩, ⟨by repeat (first | (with_reducible first | exact HB.out | apply below_alloc | apply pw_below_drewN | apply below_drew1) | exact HB.out)⟩⟩
                    case round =>
                      clear H'
                      try clear c1
                      try clear c2
                      try clear p2
                      try clear c3
                      try clear p3
                      try clear q3
                      try clear hx3
                      try clear c6
                      try clear c6b0
                      try clear c6b1
                      try clear p6
                      try clear c7
                      try clear c8
                      try clear c10
                      try clear c11
                      try clear c12
                      try clear c14
                      try clear c29
                      try clear c30
                      try clear c30b0
                      try clear c31
                      try clear c31b0
                      try clear p32
                      try clear q32
                      try clear hx32
                      try clear c33
                      try clear c33b0
                      try clear c33b1
                      try clear p34
                      try clear q34
                      try clear hx34
                      try clear c35
                      try clear c35b0
                      try clear p36
                      try clear q36
                      try clear hx36
                      try clear c37
                      try clear c37b0
                      try clear p2
                      try clear p32
                      try clear p34
                      try clear p36
                      try clear q32
                      try clear q34
                      try clear q36
                      obtain ⟨x10_4, rfl, HA, HK4, HB⟩ := hrel
                      cases gk with
                      | zero => exact absurd HA.out (by simp [laws_FnRubyBehind.l1])
                      | succ k4 =>
                        have H := HA.out
                        clear HA
                        simp only [laws_FnRubyBehind.l1] at H
                        by_cases c38 : x10_4 < (a1.size : Int)
                        · rw [if_pos c38] at H
                          have c38b0 : decide (x10_4 < (a1.size : Int)) = true := decide_eq_true c38
                          clear c38
                          by_cases c39 : 0 ≤ x10_4
                          · rw [if_pos c39] at H
                            have c39b0 : decide (0 ≤ x10_4) = true := decide_eq_true c39
                            clear c39
                            by_cases c41 : (bt a1 x10_4) ≥ 48
                            · rw [if_pos c41] at H
                              have c41b0 : decide (48 ≤ (bt a1 x10_4)) = true := decide_eq_true c41
                              clear c41
                              by_cases c43 : (bt a1 x10_4) ≤ 57
                              · rw [if_pos c43] at H
                                have c43b0 : decide ((bt a1 x10_4) ≤ 57) = true := decide_eq_true c43
                                clear c43
                                obtain rfl := Option.some.inj H
                                have p40 : 0 ≤ (x10_4 : Int) := of_decide_eq_true (by first | (with_reducible assumption) | assumption)
                                have q40 : x10_4 < (a1.size : Int) := of_decide_eq_true (by first | (with_reducible assumption) | assumption)
                                have hx40 := bt_at a1 x10_4
                                replace p40 := eq_true p40
                                replace q40 := eq_true q40
                                have p42 : 0 ≤ (x10_4 : Int) := of_decide_eq_true (by first | (with_reducible assumption) | assumption)
                                have q42 : x10_4 < (a1.size : Int) := of_decide_eq_true (by first | (with_reducible assumption) | assumption)
                                have hx42 := bt_at a1 x10_4
                                replace p42 := eq_true p42
                                replace q42 := eq_true q42
                                go_wp2
                                go_ret
                                exact ⟨by first | rfl | (simp [errW_none, errW_some] <;> rfl) | (simp [*, errW_none, errW_some] <;> rfl), by repeat (first | (with_reducible first | exact HB.out | apply below_alloc | apply pw_below_drewN | apply below_drew1) | exact HB.out)⟩
                              · rw [if_neg c43] at H
                                have c43b0 : decide ((bt a1 x10_4) ≤ 57) = false := decide_eq_false c43
                                clear c43
                                have H' := Aside0.mk H
                                clear H
                                have p40 : 0 ≤ (x10_4 : Int) := of_decide_eq_true (by first | (with_reducible assumption) | assumption)
                                have q40 : x10_4 < (a1.size : Int) := of_decide_eq_true (by first | (with_reducible assumption) | assumption)
                                have hx40 := bt_at a1 x10_4
                                replace p40 := eq_true p40
                                replace q40 := eq_true q40
                                have p42 : 0 ≤ (x10_4 : Int) := of_decide_eq_true (by first | (with_reducible assumption) | assumption)
                                have q42 : x10_4 < (a1.size : Int) := of_decide_eq_true (by first | (with_reducible assumption) | assumption)
                                have hx42 := bt_at a1 x10_4
                                replace p42 := eq_true p42
                                replace q42 := eq_true q42
                                go_wp2
                                go_roundg k4
                                case measure => have := HJ4.out; have := HJ7.out; have := HK3.out; have := HK4.out; omega
                                case rel => exact ⟨(wrap64 (x10_4 + 1)), (by first | rfl | (simp; done) | (simp [*]; done)), H', ⟨by have := HJ4.out; have := HJ7.out; have := HK3.out; have := HK4.out; omega⟩, ⟨by repeat (first | (with_reducible first | exact HB.out | apply below_alloc | apply pw_below_drewN | apply below_drew1) | exact HB.out)⟩⟩
                            · rw [if_neg c41] at H
                              have c41b0 : decide (48 ≤ (bt a1 x10_4)) = false := decide_eq_false c41
                              clear c41
                              have H' := Aside0.mk H
                              clear H
                              have p40 : 0 ≤ (x10_4 : Int) := of_decide_eq_true (by first | (with_reducible assumption) | assumption)
                              have q40 : x10_4 < (a1.size : Int) := of_decide_eq_true (by first | (with_reducible assumption) | assumption)
                              have hx40 := bt_at a1 x10_4
                              replace p40 := eq_true p40
                              replace q40 := eq_true q40
                              go_wp2
                              go_roundg k4
                              case measure => have := HJ4.out; have := HJ7.out; have := HK3.out; have := HK4.out; omega
                              case rel => exact ⟨(wrap64 (x10_4 + 1)), (by first | rfl | (simp; done) | (simp [*]; done)), H', ⟨by have := HJ4.out; have := HJ7.out; have := HK3.out; have := HK4.out; omega⟩, ⟨by repeat (first | (with_reducible first | exact HB.out | apply below_alloc | apply pw_below_drewN | apply below_drew1) | exact HB.out)⟩⟩
                          · rw [if_neg c39] at H
                            exact absurd H (by simp)
                        · rw [if_neg c38] at H
                          have c38b0 : decide (x10_4 < (a1.size : Int)) = false := decide_eq_false c38
                          clear c38
                          by_cases c44 : a0.size + 2 ≤ 9223372036854775807
                          · rw [if_pos c44] at H
                            have c44b0 := eq_true c44
                            have c44b1 : decide (a0.size + 2 ≤ 9223372036854775807) = true := decide_eq_true c44
                            try have c44b2 : (9223372036854775807 < a0.size + 2) = False := eq_false (Nat.not_lt.2 c44)
                            replace H := Option.bind_eq_some_iff.mp H
                            obtain ⟨⟨t196, t197⟩, A450, H⟩ := H
                            replace H : (if a0.size + 1 ≤ 9223372036854775807 then (if (a0 ++ (⟨#[46]⟩ : ByteArray)).size + a1.size ≤ 9223372036854775807 then ((impl_RubyCompare.f k4 ((a0 ++ (⟨#[46]⟩ : ByteArray)) ++ a1) a0).bind fun bt198 => ((laws_decimal.f (wrap64 (a2))).bind fun t200 => (if ((a0 ++ (⟨#[46]⟩ : ByteArray)) ++ a1).size + t200.size ≤ 9223372036854775807 then ((laws_decimal.f (wrap64 (a3))).bind fun t201 => (if ((a0 ++ (⟨#[46]⟩ : ByteArray)) ++ a1).size + t201.size ≤ 9223372036854775807 then ((impl_RubyCompare.f k4 (((a0 ++ (⟨#[46]⟩ : ByteArray)) ++ a1) ++ t200) (((a0 ++ (⟨#[46]⟩ : ByteArray)) ++ a1) ++ t201)).bind fun bt202 => (if a2 < a3 then (if t197 = true then (if bt198.2 = true then (if bt202.2 = true then (if t196 = 0 then (if bt198.1 = (-1) then (some (bt202.1 == (-1))) else (some false)) else (some false)) else (some false)) else (some false)) else (some false)) else (if a2 > a3 then (if t197 = true then (if bt198.2 = true then (if bt202.2 = true then (if t196 = 0 then (if bt198.1 = (-1) then (some (bt202.1 == 1)) else (some false)) else (some false)) else (some false)) else (some false)) else (some false)) else (if t197 = true then (if bt198.2 = true then (if bt202.2 = true then (if t196 = 0 then (if bt198.1 = (-1) then (some (bt202.1 == 0)) else (some false)) else (some false)) else (some false)) else (some false)) else (some false))))) else (none))) else (none)))) else (none)) else (none)) = some r := H
                            have A45 := Aside0.mk A450
                            clear A450
                            by_cases c46 : a0.size + 1 ≤ 9223372036854775807
                            · rw [if_pos c46] at H
                              have c46b0 := eq_true c46
                              have c46b1 : decide (a0.size + 1 ≤ 9223372036854775807) = true := decide_eq_true c46
                              try have c46b2 : (9223372036854775807 < a0.size + 1) = False := eq_false (Nat.not_lt.2 c46)
                              by_cases c47 : (a0 ++ (⟨#[46]⟩ : ByteArray)).size + a1.size ≤ 9223372036854775807
                              · rw [if_pos c47] at H
                                have c47b0 := eq_true c47
                                have c47b1 : decide ((a0 ++ (⟨#[46]⟩ : ByteArray)).size + a1.size ≤ 9223372036854775807) = true := decide_eq_true c47
                                try have c47b2 : (9223372036854775807 < (a0 ++ (⟨#[46]⟩ : ByteArray)).size + a1.size) = False := eq_false (Nat.not_lt.2 c47)
                                try (have c47b3 := c47b2; simp [ByteArray.size_append, show (⟨#[46]⟩ : ByteArray).size = 1 from rfl] at c47b3; replace c47b3 := eq_false (Nat.not_lt.2 c47b3))
                                replace H := Option.bind_eq_some_iff.mp H
                                obtain ⟨⟨t198, t199⟩, A480, H⟩ := H
                                replace H : ((laws_decimal.f (wrap64 (a2))).bind fun t200 => (if ((a0 ++ (⟨#[46]⟩ : ByteArray)) ++ a1).size + t200.size ≤ 9223372036854775807 then ((laws_decimal.f (wrap64 (a3))).bind fun t201 => (if ((a0 ++ (⟨#[46]⟩ : ByteArray)) ++ a1).size + t201.size ≤ 9223372036854775807 then ((impl_RubyCompare.f k4 (((a0 ++ (⟨#[46]⟩ : ByteArray)) ++ a1) ++ t200) (((a0 ++ (⟨#[46]⟩ : ByteArray)) ++ a1) ++ t201)).bind fun bt202 => (if a2 < a3 then (if t197 = true then (if t199 = true then (if bt202.2 = true then (if t196 = 0 then (if t198 = (-1) then (some (bt202.1 == (-1))) else (some false)) else (some false)) else (some false)) else (some false)) else (some false)) else (if a2 > a3 then (if t197 = true then (if t199 = true then (if bt202.2 = true then (if t196 = 0 then (if t198 = (-1) then (some (bt202.1 == 1)) else (some false)) else (some false)) else (some false)) else (some false)) else (some false)) else (if t197 = true then (if t199 = true then (if bt202.2 = true then (if t196 = 0 then (if t198 = (-1) then (some (bt202.1 == 0)) else (some false)) else (some false)) else (some false)) else (some false)) else (some false))))) else (none))) else (none))) = some r := H
                                have A48 := Aside0.mk A480
                                clear A480
                                replace H := Option.bind_eq_some_iff.mp H
                                obtain ⟨t200, A490, H⟩ := H
                                replace H : (if ((a0 ++ (⟨#[46]⟩ : ByteArray)) ++ a1).size + t200.size ≤ 9223372036854775807 then ((laws_decimal.f (wrap64 (a3))).bind fun t201 => (if ((a0 ++ (⟨#[46]⟩ : ByteArray)) ++ a1).size + t201.size ≤ 9223372036854775807 then ((impl_RubyCompare.f k4 (((a0 ++ (⟨#[46]⟩ : ByteArray)) ++ a1) ++ t200) (((a0 ++ (⟨#[46]⟩ : ByteArray)) ++ a1) ++ t201)).bind fun bt202 => (if a2 < a3 then (if t197 = true then (if t199 = true then (if bt202.2 = true then (if t196 = 0 then (if t198 = (-1) then (some (bt202.1 == (-1))) else (some false)) else (some false)) else (some false)) else (some false)) else (some false)) else (if a2 > a3 then (if t197 = true then (if t199 = true then (if bt202.2 = true then (if t196 = 0 then (if t198 = (-1) then (some (bt202.1 == 1)) else (some false)) else (some false)) else (some false)) else (some false)) else (some false)) else (if t197 = true then (if t199 = true then (if bt202.2 = true then (if t196 = 0 then (if t198 = (-1) then (some (bt202.1 == 0)) else (some false)) else (some false)) else (some false)) else (some false)) else (some false))))) else (none))) else (none)) = some r := H
                                have A49 := Aside0.mk A490
                                clear A490
                                by_cases c50 : ((a0 ++ (⟨#[46]⟩ : ByteArray)) ++ a1).size + t200.size ≤ 9223372036854775807
                                · rw [if_pos c50] at H
                                  have c50b0 := eq_true c50
                                  have c50b1 : decide (((a0 ++ (⟨#[46]⟩ : ByteArray)) ++ a1).size + t200.size ≤ 9223372036854775807) = true := decide_eq_true c50
                                  try have c50b2 : (9223372036854775807 < ((a0 ++ (⟨#[46]⟩ : ByteArray)) ++ a1).size + t200.size) = False := eq_false (Nat.not_lt.2 c50)
                                  try (have c50b3 := c50b2; simp [ByteArray.size_append, show (⟨#[46]⟩ : ByteArray).size = 1 from rfl] at c50b3; replace c50b3 := eq_false (Nat.not_lt.2 c50b3))
                                  replace H := Option.bind_eq_some_iff.mp H
                                  obtain ⟨t201, A510, H⟩ := H
                                  replace H : (if ((a0 ++ (⟨#[46]⟩ : ByteArray)) ++ a1).size + t201.size ≤ 9223372036854775807 then ((impl_RubyCompare.f k4 (((a0 ++ (⟨#[46]⟩ : ByteArray)) ++ a1) ++ t200) (((a0 ++ (⟨#[46]⟩ : ByteArray)) ++ a1) ++ t201)).bind fun bt202 => (if a2 < a3 then (if t197 = true then (if t199 = true then (if bt202.2 = true then (if t196 = 0 then (if t198 = (-1) then (some (bt202.1 == (-1))) else (some false)) else (some false)) else (some false)) else (some false)) else (some false)) else (if a2 > a3 then (if t197 = true then (if t199 = true then (if bt202.2 = true then (if t196 = 0 then (if t198 = (-1) then (some (bt202.1 == 1)) else (some false)) else (some false)) else (some false)) else (some false)) else (some false)) else (if t197 = true then (if t199 = true then (if bt202.2 = true then (if t196 = 0 then (if t198 = (-1) then (some (bt202.1 == 0)) else (some false)) else (some false)) else (some false)) else (some false)) else (some false))))) else (none)) = some r := H
                                  have A51 := Aside0.mk A510
                                  clear A510
                                  by_cases c52 : ((a0 ++ (⟨#[46]⟩ : ByteArray)) ++ a1).size + t201.size ≤ 9223372036854775807
                                  · rw [if_pos c52] at H
                                    have c52b0 := eq_true c52
                                    have c52b1 : decide (((a0 ++ (⟨#[46]⟩ : ByteArray)) ++ a1).size + t201.size ≤ 9223372036854775807) = true := decide_eq_true c52
                                    try have c52b2 : (9223372036854775807 < ((a0 ++ (⟨#[46]⟩ : ByteArray)) ++ a1).size + t201.size) = False := eq_false (Nat.not_lt.2 c52)
                                    try (have c52b3 := c52b2; simp [ByteArray.size_append, show (⟨#[46]⟩ : ByteArray).size = 1 from rfl] at c52b3; replace c52b3 := eq_false (Nat.not_lt.2 c52b3))
                                    replace H := Option.bind_eq_some_iff.mp H
                                    obtain ⟨⟨t202, t203⟩, A530, H⟩ := H
                                    replace H : (if a2 < a3 then (if t197 = true then (if t199 = true then (if t203 = true then (if t196 = 0 then (if t198 = (-1) then (some (t202 == (-1))) else (some false)) else (some false)) else (some false)) else (some false)) else (some false)) else (if a2 > a3 then (if t197 = true then (if t199 = true then (if t203 = true then (if t196 = 0 then (if t198 = (-1) then (some (t202 == 1)) else (some false)) else (some false)) else (some false)) else (some false)) else (some false)) else (if t197 = true then (if t199 = true then (if t203 = true then (if t196 = 0 then (if t198 = (-1) then (some (t202 == 0)) else (some false)) else (some false)) else (some false)) else (some false)) else (some false)))) = some r := H
                                    have A53 := Aside0.mk A530
                                    clear A530
                                    by_cases c54 : a2 < a3
                                    · rw [if_pos c54] at H
                                      have c54b0 : decide (a2 < a3) = true := decide_eq_true c54
                                      clear c54
                                      by_cases c55 : t197 = true
                                      · subst c55
                                        have H1 : (if t199 = true then (if t203 = true then (if t196 = 0 then (if t198 = (-1) then (some (t202 == (-1))) else (some false)) else (some false)) else (some false)) else (some false)) = some r := by rw [if_pos rfl] at H; exact H
                                        clear H
                                        have H := H1
                                        clear H1
                                        by_cases c56 : t199 = true
                                        · subst c56
                                          have H1 : (if t203 = true then (if t196 = 0 then (if t198 = (-1) then (some (t202 == (-1))) else (some false)) else (some false)) else (some false)) = some r := by rw [if_pos rfl] at H; exact H
                                          clear H
                                          have H := H1
                                          clear H1
                                          by_cases c57 : t203 = true
                                          · subst c57
                                            have H1 : (if t196 = 0 then (if t198 = (-1) then (some (t202 == (-1))) else (some false)) else (some false)) = some r := by rw [if_pos rfl] at H; exact H
                                            clear H
                                            have H := H1
                                            clear H1
                                            by_cases c58 : t196 = 0
                                            · rw [if_pos c58] at H
                                              have c58b0 : (t196 == 0) = true := beq_iff_eq.mpr c58
                                              have c58b1 : (t196 != 0) = false := bne_eq_false_iff_eq.mpr c58
                                              clear c58
                                              by_cases c59 : t198 = (-1)
                                              · rw [if_pos c59] at H
                                                have c59b0 : (t198 == (-1)) = true := beq_iff_eq.mpr c59
                                                have c59b1 : (t198 != (-1)) = false := bne_eq_false_iff_eq.mpr c59
                                                clear c59
                                                obtain rfl := Option.some.inj H
                                                go_wp2_with (first | ((with_reducible refine gate_callee (f := 23) rfl ?_); refine goesL_ (some 88) rfl rfl Tryd.func23 (by kernel_rfl) rfl #[.string (a0 ++ (⟨#[46, 48]⟩ : ByteArray)), .string a0] rfl (by (try simp only [List.map_toArray, List.map_cons, List.map_nil]); first | done | rfl | (simp only [List.length_drop, List.length_take]; rfl)) ?_; (with_reducible refine (impl_RubyCompare.calls k4 (a0 ++ (⟨#[46, 48]⟩ : ByteArray)) a0 t196 true _ ?side1 A45.out).mono ?_); (case side1 => first | exact HG.out | exact GW.below HG.out (by repeat (first | (with_reducible first | exact HB.out | exact Below.refl _ _ | apply below_alloc | apply pw_below_drewN | apply below_drew1 | apply below_drew | refine below_set ?_ (Aside0.out (by assumption))) | exact HB.out))); rintro e w60 ⟨rfl, hb⟩; refine ⟨_, rfl, ?_⟩; have n0_ := Aside0.mk (below_step (by repeat (first | (with_reducible first | exact HB.out | apply below_alloc | apply pw_below_drewN | apply below_drew1) | exact HB.out)) hb); clear HB; have HB := n0_; clear n0_; (try clear hb); (try clear hb2); (try clear hk); (try clear hi)) | ((with_reducible refine gate_callee (f := 23) rfl ?_); refine goesL_ (some 97) rfl rfl Tryd.func23 (by kernel_rfl) rfl #[.string ((a0 ++ (⟨#[46]⟩ : ByteArray)) ++ a1), .string a0] rfl (by (try simp only [List.map_toArray, List.map_cons, List.map_nil]); first | done | rfl | (simp only [List.length_drop, List.length_take]; rfl)) ?_; (with_reducible refine (impl_RubyCompare.calls k4 ((a0 ++ (⟨#[46]⟩ : ByteArray)) ++ a1) a0 t198 true _ ?side1 A48.out).mono ?_); (case side1 => first | exact HG.out | exact GW.below HG.out (by repeat (first | (with_reducible first | exact HB.out | exact Below.refl _ _ | apply below_alloc | apply pw_below_drewN | apply below_drew1 | apply below_drew | refine below_set ?_ (Aside0.out (by assumption))) | exact HB.out))); rintro e w61 ⟨rfl, hb⟩; refine ⟨_, rfl, ?_⟩; have n0_ := Aside0.mk (below_step (by repeat (first | (with_reducible first | exact HB.out | apply below_alloc | apply pw_below_drewN | apply below_drew1) | exact HB.out)) hb); clear HB; have HB := n0_; clear n0_; (try clear hb); (try clear hb2); (try clear hk); (try clear hi)) | ((with_reducible refine gate_callee (f := 26) rfl ?_); refine goesL_ (some 107) rfl rfl Tryd.func26 (by kernel_rfl) rfl #[.int .i64 (wrap64 (a2))] rfl (by (try simp only [List.map_toArray, List.map_cons, List.map_nil]); first | done | rfl | (simp only [List.length_drop, List.length_take]; rfl)) ?_; (with_reducible refine (laws_decimal.calls (wrap64 (a2)) t200 _ A49.out).mono ?_); rintro e w62 ⟨rfl, hb⟩; refine ⟨_, rfl, ?_⟩; have n0_ := Aside0.mk (below_step (by repeat (first | (with_reducible first | exact HB.out | apply below_alloc | apply pw_below_drewN | apply below_drew1) | exact HB.out)) hb); clear HB; have HB := n0_; clear n0_; (try clear hb); (try clear hb2); (try clear hk); (try clear hi)) | ((with_reducible refine gate_callee (f := 26) rfl ?_); refine goesL_ (some 115) rfl rfl Tryd.func26 (by kernel_rfl) rfl #[.int .i64 (wrap64 (a3))] rfl (by (try simp only [List.map_toArray, List.map_cons, List.map_nil]); first | done | rfl | (simp only [List.length_drop, List.length_take]; rfl)) ?_; (with_reducible refine (laws_decimal.calls (wrap64 (a3)) t201 _ A51.out).mono ?_); rintro e w63 ⟨rfl, hb⟩; refine ⟨_, rfl, ?_⟩; have n0_ := Aside0.mk (below_step (by repeat (first | (with_reducible first | exact HB.out | apply below_alloc | apply pw_below_drewN | apply below_drew1) | exact HB.out)) hb); clear HB; have HB := n0_; clear n0_; (try clear hb); (try clear hb2); (try clear hk); (try clear hi)) | ((with_reducible refine gate_callee (f := 23) rfl ?_); refine goesL_ (some 117) rfl rfl Tryd.func23 (by kernel_rfl) rfl #[.string (((a0 ++ (⟨#[46]⟩ : ByteArray)) ++ a1) ++ t200), .string (((a0 ++ (⟨#[46]⟩ : ByteArray)) ++ a1) ++ t201)] rfl (by (try simp only [List.map_toArray, List.map_cons, List.map_nil]); first | done | rfl | (simp only [List.length_drop, List.length_take]; rfl)) ?_; (with_reducible refine (impl_RubyCompare.calls k4 (((a0 ++ (⟨#[46]⟩ : ByteArray)) ++ a1) ++ t200) (((a0 ++ (⟨#[46]⟩ : ByteArray)) ++ a1) ++ t201) t202 true _ ?side1 A53.out).mono ?_); (case side1 => first | exact HG.out | exact GW.below HG.out (by repeat (first | (with_reducible first | exact HB.out | exact Below.refl _ _ | apply below_alloc | apply pw_below_drewN | apply below_drew1 | apply below_drew | refine below_set ?_ (Aside0.out (by assumption))) | exact HB.out))); rintro e w64 ⟨rfl, hb⟩; refine ⟨_, rfl, ?_⟩; have n0_ := Aside0.mk (below_step (by repeat (first | (with_reducible first | exact HB.out | apply below_alloc | apply pw_below_drewN | apply below_drew1) | exact HB.out)) hb); clear HB; have HB := n0_; clear n0_; (try clear hb); (try clear hb2); (try clear hk); (try clear hi)))
                                                go_ret
                                                exact ⟨by first | rfl | (simp [errW_none, errW_some] <;> rfl) | (simp [*, errW_none, errW_some] <;> rfl), by repeat (first | (with_reducible first | exact HB.out | apply below_alloc | apply pw_below_drewN | apply below_drew1) | exact HB.out)⟩
                                              · rw [if_neg c59] at H
                                                have c59b0 : (t198 == (-1)) = false := beq_eq_false_iff_ne.mpr c59
                                                have c59b1 : (t198 != (-1)) = true := bne_iff_ne.mpr c59
                                                obtain rfl := Option.some.inj H
                                                go_wp2_with (first | ((with_reducible refine gate_callee (f := 23) rfl ?_); refine goesL_ (some 88) rfl rfl Tryd.func23 (by kernel_rfl) rfl #[.string (a0 ++ (⟨#[46, 48]⟩ : ByteArray)), .string a0] rfl (by (try simp only [List.map_toArray, List.map_cons, List.map_nil]); first | done | rfl | (simp only [List.length_drop, List.length_take]; rfl)) ?_; (with_reducible refine (impl_RubyCompare.calls k4 (a0 ++ (⟨#[46, 48]⟩ : ByteArray)) a0 t196 true _ ?side1 A45.out).mono ?_); (case side1 => first | exact HG.out | exact GW.below HG.out (by repeat (first | (with_reducible first | exact HB.out | exact Below.refl _ _ | apply below_alloc | apply pw_below_drewN | apply below_drew1 | apply below_drew | refine below_set ?_ (Aside0.out (by assumption))) | exact HB.out))); rintro e w65 ⟨rfl, hb⟩; refine ⟨_, rfl, ?_⟩; have n0_ := Aside0.mk (below_step (by repeat (first | (with_reducible first | exact HB.out | apply below_alloc | apply pw_below_drewN | apply below_drew1) | exact HB.out)) hb); clear HB; have HB := n0_; clear n0_; (try clear hb); (try clear hb2); (try clear hk); (try clear hi)) | ((with_reducible refine gate_callee (f := 23) rfl ?_); refine goesL_ (some 97) rfl rfl Tryd.func23 (by kernel_rfl) rfl #[.string ((a0 ++ (⟨#[46]⟩ : ByteArray)) ++ a1), .string a0] rfl (by (try simp only [List.map_toArray, List.map_cons, List.map_nil]); first | done | rfl | (simp only [List.length_drop, List.length_take]; rfl)) ?_; (with_reducible refine (impl_RubyCompare.calls k4 ((a0 ++ (⟨#[46]⟩ : ByteArray)) ++ a1) a0 t198 true _ ?side1 A48.out).mono ?_); (case side1 => first | exact HG.out | exact GW.below HG.out (by repeat (first | (with_reducible first | exact HB.out | exact Below.refl _ _ | apply below_alloc | apply pw_below_drewN | apply below_drew1 | apply below_drew | refine below_set ?_ (Aside0.out (by assumption))) | exact HB.out))); rintro e w66 ⟨rfl, hb⟩; refine ⟨_, rfl, ?_⟩; have n0_ := Aside0.mk (below_step (by repeat (first | (with_reducible first | exact HB.out | apply below_alloc | apply pw_below_drewN | apply below_drew1) | exact HB.out)) hb); clear HB; have HB := n0_; clear n0_; (try clear hb); (try clear hb2); (try clear hk); (try clear hi)) | ((with_reducible refine gate_callee (f := 26) rfl ?_); refine goesL_ (some 107) rfl rfl Tryd.func26 (by kernel_rfl) rfl #[.int .i64 (wrap64 (a2))] rfl (by (try simp only [List.map_toArray, List.map_cons, List.map_nil]); first | done | rfl | (simp only [List.length_drop, List.length_take]; rfl)) ?_; (with_reducible refine (laws_decimal.calls (wrap64 (a2)) t200 _ A49.out).mono ?_); rintro e w67 ⟨rfl, hb⟩; refine ⟨_, rfl, ?_⟩; have n0_ := Aside0.mk (below_step (by repeat (first | (with_reducible first | exact HB.out | apply below_alloc | apply pw_below_drewN | apply below_drew1) | exact HB.out)) hb); clear HB; have HB := n0_; clear n0_; (try clear hb); (try clear hb2); (try clear hk); (try clear hi)) | ((with_reducible refine gate_callee (f := 26) rfl ?_); refine goesL_ (some 115) rfl rfl Tryd.func26 (by kernel_rfl) rfl #[.int .i64 (wrap64 (a3))] rfl (by (try simp only [List.map_toArray, List.map_cons, List.map_nil]); first | done | rfl | (simp only [List.length_drop, List.length_take]; rfl)) ?_; (with_reducible refine (laws_decimal.calls (wrap64 (a3)) t201 _ A51.out).mono ?_); rintro e w68 ⟨rfl, hb⟩; refine ⟨_, rfl, ?_⟩; have n0_ := Aside0.mk (below_step (by repeat (first | (with_reducible first | exact HB.out | apply below_alloc | apply pw_below_drewN | apply below_drew1) | exact HB.out)) hb); clear HB; have HB := n0_; clear n0_; (try clear hb); (try clear hb2); (try clear hk); (try clear hi)) | ((with_reducible refine gate_callee (f := 23) rfl ?_); refine goesL_ (some 117) rfl rfl Tryd.func23 (by kernel_rfl) rfl #[.string (((a0 ++ (⟨#[46]⟩ : ByteArray)) ++ a1) ++ t200), .string (((a0 ++ (⟨#[46]⟩ : ByteArray)) ++ a1) ++ t201)] rfl (by (try simp only [List.map_toArray, List.map_cons, List.map_nil]); first | done | rfl | (simp only [List.length_drop, List.length_take]; rfl)) ?_; (with_reducible refine (impl_RubyCompare.calls k4 (((a0 ++ (⟨#[46]⟩ : ByteArray)) ++ a1) ++ t200) (((a0 ++ (⟨#[46]⟩ : ByteArray)) ++ a1) ++ t201) t202 true _ ?side1 A53.out).mono ?_); (case side1 => first | exact HG.out | exact GW.below HG.out (by repeat (first | (with_reducible first | exact HB.out | exact Below.refl _ _ | apply below_alloc | apply pw_below_drewN | apply below_drew1 | apply below_drew | refine below_set ?_ (Aside0.out (by assumption))) | exact HB.out))); rintro e w69 ⟨rfl, hb⟩; refine ⟨_, rfl, ?_⟩; have n0_ := Aside0.mk (below_step (by repeat (first | (with_reducible first | exact HB.out | apply below_alloc | apply pw_below_drewN | apply below_drew1) | exact HB.out)) hb); clear HB; have HB := n0_; clear n0_; (try clear hb); (try clear hb2); (try clear hk); (try clear hi)))
                                                go_ret
                                                exact ⟨by first | rfl | (simp [errW_none, errW_some] <;> rfl) | (simp [*, errW_none, errW_some] <;> rfl), by repeat (first | (with_reducible first | exact HB.out | apply below_alloc | apply pw_below_drewN | apply below_drew1) | exact HB.out)⟩
                                            · rw [if_neg c58] at H
                                              have c58b0 : (t196 == 0) = false := beq_eq_false_iff_ne.mpr c58
                                              have c58b1 : (t196 != 0) = true := bne_iff_ne.mpr c58
                                              obtain rfl := Option.some.inj H
                                              go_wp2_with (first | ((with_reducible refine gate_callee (f := 23) rfl ?_); refine goesL_ (some 88) rfl rfl Tryd.func23 (by kernel_rfl) rfl #[.string (a0 ++ (⟨#[46, 48]⟩ : ByteArray)), .string a0] rfl (by (try simp only [List.map_toArray, List.map_cons, List.map_nil]); first | done | rfl | (simp only [List.length_drop, List.length_take]; rfl)) ?_; (with_reducible refine (impl_RubyCompare.calls k4 (a0 ++ (⟨#[46, 48]⟩ : ByteArray)) a0 t196 true _ ?side1 A45.out).mono ?_); (case side1 => first | exact HG.out | exact GW.below HG.out (by repeat (first | (with_reducible first | exact HB.out | exact Below.refl _ _ | apply below_alloc | apply pw_below_drewN | apply below_drew1 | apply below_drew | refine below_set ?_ (Aside0.out (by assumption))) | exact HB.out))); rintro e w70 ⟨rfl, hb⟩; refine ⟨_, rfl, ?_⟩; have n0_ := Aside0.mk (below_step (by repeat (first | (with_reducible first | exact HB.out | apply below_alloc | apply pw_below_drewN | apply below_drew1) | exact HB.out)) hb); clear HB; have HB := n0_; clear n0_; (try clear hb); (try clear hb2); (try clear hk); (try clear hi)) | ((with_reducible refine gate_callee (f := 23) rfl ?_); refine goesL_ (some 97) rfl rfl Tryd.func23 (by kernel_rfl) rfl #[.string ((a0 ++ (⟨#[46]⟩ : ByteArray)) ++ a1), .string a0] rfl (by (try simp only [List.map_toArray, List.map_cons, List.map_nil]); first | done | rfl | (simp only [List.length_drop, List.length_take]; rfl)) ?_; (with_reducible refine (impl_RubyCompare.calls k4 ((a0 ++ (⟨#[46]⟩ : ByteArray)) ++ a1) a0 t198 true _ ?side1 A48.out).mono ?_); (case side1 => first | exact HG.out | exact GW.below HG.out (by repeat (first | (with_reducible first | exact HB.out | exact Below.refl _ _ | apply below_alloc | apply pw_below_drewN | apply below_drew1 | apply below_drew | refine below_set ?_ (Aside0.out (by assumption))) | exact HB.out))); rintro e w71 ⟨rfl, hb⟩; refine ⟨_, rfl, ?_⟩; have n0_ := Aside0.mk (below_step (by repeat (first | (with_reducible first | exact HB.out | apply below_alloc | apply pw_below_drewN | apply below_drew1) | exact HB.out)) hb); clear HB; have HB := n0_; clear n0_; (try clear hb); (try clear hb2); (try clear hk); (try clear hi)) | ((with_reducible refine gate_callee (f := 26) rfl ?_); refine goesL_ (some 107) rfl rfl Tryd.func26 (by kernel_rfl) rfl #[.int .i64 (wrap64 (a2))] rfl (by (try simp only [List.map_toArray, List.map_cons, List.map_nil]); first | done | rfl | (simp only [List.length_drop, List.length_take]; rfl)) ?_; (with_reducible refine (laws_decimal.calls (wrap64 (a2)) t200 _ A49.out).mono ?_); rintro e w72 ⟨rfl, hb⟩; refine ⟨_, rfl, ?_⟩; have n0_ := Aside0.mk (below_step (by repeat (first | (with_reducible first | exact HB.out | apply below_alloc | apply pw_below_drewN | apply below_drew1) | exact HB.out)) hb); clear HB; have HB := n0_; clear n0_; (try clear hb); (try clear hb2); (try clear hk); (try clear hi)) | ((with_reducible refine gate_callee (f := 26) rfl ?_); refine goesL_ (some 115) rfl rfl Tryd.func26 (by kernel_rfl) rfl #[.int .i64 (wrap64 (a3))] rfl (by (try simp only [List.map_toArray, List.map_cons, List.map_nil]); first | done | rfl | (simp only [List.length_drop, List.length_take]; rfl)) ?_; (with_reducible refine (laws_decimal.calls (wrap64 (a3)) t201 _ A51.out).mono ?_); rintro e w73 ⟨rfl, hb⟩; refine ⟨_, rfl, ?_⟩; have n0_ := Aside0.mk (below_step (by repeat (first | (with_reducible first | exact HB.out | apply below_alloc | apply pw_below_drewN | apply below_drew1) | exact HB.out)) hb); clear HB; have HB := n0_; clear n0_; (try clear hb); (try clear hb2); (try clear hk); (try clear hi)) | ((with_reducible refine gate_callee (f := 23) rfl ?_); refine goesL_ (some 117) rfl rfl Tryd.func23 (by kernel_rfl) rfl #[.string (((a0 ++ (⟨#[46]⟩ : ByteArray)) ++ a1) ++ t200), .string (((a0 ++ (⟨#[46]⟩ : ByteArray)) ++ a1) ++ t201)] rfl (by (try simp only [List.map_toArray, List.map_cons, List.map_nil]); first | done | rfl | (simp only [List.length_drop, List.length_take]; rfl)) ?_; (with_reducible refine (impl_RubyCompare.calls k4 (((a0 ++ (⟨#[46]⟩ : ByteArray)) ++ a1) ++ t200) (((a0 ++ (⟨#[46]⟩ : ByteArray)) ++ a1) ++ t201) t202 true _ ?side1 A53.out).mono ?_); (case side1 => first | exact HG.out | exact GW.below HG.out (by repeat (first | (with_reducible first | exact HB.out | exact Below.refl _ _ | apply below_alloc | apply pw_below_drewN | apply below_drew1 | apply below_drew | refine below_set ?_ (Aside0.out (by assumption))) | exact HB.out))); rintro e w74 ⟨rfl, hb⟩; refine ⟨_, rfl, ?_⟩; have n0_ := Aside0.mk (below_step (by repeat (first | (with_reducible first | exact HB.out | apply below_alloc | apply pw_below_drewN | apply below_drew1) | exact HB.out)) hb); clear HB; have HB := n0_; clear n0_; (try clear hb); (try clear hb2); (try clear hk); (try clear hi)))
                                              go_ret
                                              exact ⟨by first | rfl | (simp [errW_none, errW_some] <;> rfl) | (simp [*, errW_none, errW_some] <;> rfl), by repeat (first | (with_reducible first | exact HB.out | apply below_alloc | apply pw_below_drewN | apply below_drew1) | exact HB.out)⟩
                                          · replace c57 := Bool.eq_false_iff.mpr c57
                                            subst c57
                                            have H1 : (some false) = some r := by rw [if_neg (show ¬ (false = true) by decide)] at H; exact H
                                            clear H
                                            have H := H1
                                            clear H1
                                            obtain rfl := Option.some.inj H
                                            go_wp2_with (first | ((with_reducible refine gate_callee (f := 23) rfl ?_); refine goesL_ (some 88) rfl rfl Tryd.func23 (by kernel_rfl) rfl #[.string (a0 ++ (⟨#[46, 48]⟩ : ByteArray)), .string a0] rfl (by (try simp only [List.map_toArray, List.map_cons, List.map_nil]); first | done | rfl | (simp only [List.length_drop, List.length_take]; rfl)) ?_; (with_reducible refine (impl_RubyCompare.calls k4 (a0 ++ (⟨#[46, 48]⟩ : ByteArray)) a0 t196 true _ ?side1 A45.out).mono ?_); (case side1 => first | exact HG.out | exact GW.below HG.out (by repeat (first | (with_reducible first | exact HB.out | exact Below.refl _ _ | apply below_alloc | apply pw_below_drewN | apply below_drew1 | apply below_drew | refine below_set ?_ (Aside0.out (by assumption))) | exact HB.out))); rintro e w75 ⟨rfl, hb⟩; refine ⟨_, rfl, ?_⟩; have n0_ := Aside0.mk (below_step (by repeat (first | (with_reducible first | exact HB.out | apply below_alloc | apply pw_below_drewN | apply below_drew1) | exact HB.out)) hb); clear HB; have HB := n0_; clear n0_; (try clear hb); (try clear hb2); (try clear hk); (try clear hi)) | ((with_reducible refine gate_callee (f := 23) rfl ?_); refine goesL_ (some 97) rfl rfl Tryd.func23 (by kernel_rfl) rfl #[.string ((a0 ++ (⟨#[46]⟩ : ByteArray)) ++ a1), .string a0] rfl (by (try simp only [List.map_toArray, List.map_cons, List.map_nil]); first | done | rfl | (simp only [List.length_drop, List.length_take]; rfl)) ?_; (with_reducible refine (impl_RubyCompare.calls k4 ((a0 ++ (⟨#[46]⟩ : ByteArray)) ++ a1) a0 t198 true _ ?side1 A48.out).mono ?_); (case side1 => first | exact HG.out | exact GW.below HG.out (by repeat (first | (with_reducible first | exact HB.out | exact Below.refl _ _ | apply below_alloc | apply pw_below_drewN | apply below_drew1 | apply below_drew | refine below_set ?_ (Aside0.out (by assumption))) | exact HB.out))); rintro e w76 ⟨rfl, hb⟩; refine ⟨_, rfl, ?_⟩; have n0_ := Aside0.mk (below_step (by repeat (first | (with_reducible first | exact HB.out | apply below_alloc | apply pw_below_drewN | apply below_drew1) | exact HB.out)) hb); clear HB; have HB := n0_; clear n0_; (try clear hb); (try clear hb2); (try clear hk); (try clear hi)) | ((with_reducible refine gate_callee (f := 26) rfl ?_); refine goesL_ (some 107) rfl rfl Tryd.func26 (by kernel_rfl) rfl #[.int .i64 (wrap64 (a2))] rfl (by (try simp only [List.map_toArray, List.map_cons, List.map_nil]); first | done | rfl | (simp only [List.length_drop, List.length_take]; rfl)) ?_; (with_reducible refine (laws_decimal.calls (wrap64 (a2)) t200 _ A49.out).mono ?_); rintro e w77 ⟨rfl, hb⟩; refine ⟨_, rfl, ?_⟩; have n0_ := Aside0.mk (below_step (by repeat (first | (with_reducible first | exact HB.out | apply below_alloc | apply pw_below_drewN | apply below_drew1) | exact HB.out)) hb); clear HB; have HB := n0_; clear n0_; (try clear hb); (try clear hb2); (try clear hk); (try clear hi)) | ((with_reducible refine gate_callee (f := 26) rfl ?_); refine goesL_ (some 115) rfl rfl Tryd.func26 (by kernel_rfl) rfl #[.int .i64 (wrap64 (a3))] rfl (by (try simp only [List.map_toArray, List.map_cons, List.map_nil]); first | done | rfl | (simp only [List.length_drop, List.length_take]; rfl)) ?_; (with_reducible refine (laws_decimal.calls (wrap64 (a3)) t201 _ A51.out).mono ?_); rintro e w78 ⟨rfl, hb⟩; refine ⟨_, rfl, ?_⟩; have n0_ := Aside0.mk (below_step (by repeat (first | (with_reducible first | exact HB.out | apply below_alloc | apply pw_below_drewN | apply below_drew1) | exact HB.out)) hb); clear HB; have HB := n0_; clear n0_; (try clear hb); (try clear hb2); (try clear hk); (try clear hi)) | ((with_reducible refine gate_callee (f := 23) rfl ?_); refine goesL_ (some 117) rfl rfl Tryd.func23 (by kernel_rfl) rfl #[.string (((a0 ++ (⟨#[46]⟩ : ByteArray)) ++ a1) ++ t200), .string (((a0 ++ (⟨#[46]⟩ : ByteArray)) ++ a1) ++ t201)] rfl (by (try simp only [List.map_toArray, List.map_cons, List.map_nil]); first | done | rfl | (simp only [List.length_drop, List.length_take]; rfl)) ?_; (with_reducible refine (impl_RubyCompare.calls k4 (((a0 ++ (⟨#[46]⟩ : ByteArray)) ++ a1) ++ t200) (((a0 ++ (⟨#[46]⟩ : ByteArray)) ++ a1) ++ t201) t202 false _ ?side1 A53.out).mono ?_); (case side1 => first | exact HG.out | exact GW.below HG.out (by repeat (first | (with_reducible first | exact HB.out | exact Below.refl _ _ | apply below_alloc | apply pw_below_drewN | apply below_drew1 | apply below_drew | refine below_set ?_ (Aside0.out (by assumption))) | exact HB.out))); rintro e w79 ⟨rfl, hb⟩; refine ⟨_, rfl, ?_⟩; have n0_ := Aside0.mk (below_step (by repeat (first | (with_reducible first | exact HB.out | apply below_alloc | apply pw_below_drewN | apply below_drew1) | exact HB.out)) hb); clear HB; have HB := n0_; clear n0_; (try clear hb); (try clear hb2); (try clear hk); (try clear hi)))
                                            go_ret
                                            exact ⟨by first | rfl | (simp [errW_none, errW_some] <;> rfl) | (simp [*, errW_none, errW_some] <;> rfl), by repeat (first | (with_reducible first | exact HB.out | apply below_alloc | apply pw_below_drewN | apply below_drew1) | exact HB.out)⟩
                                        · replace c56 := Bool.eq_false_iff.mpr c56
                                          subst c56
                                          have H1 : (some false) = some r := by rw [if_neg (show ¬ (false = true) by decide)] at H; exact H
                                          clear H
                                          have H := H1
                                          clear H1
                                          obtain rfl := Option.some.inj H
                                          go_wp2_with (first | ((with_reducible refine gate_callee (f := 23) rfl ?_); refine goesL_ (some 88) rfl rfl Tryd.func23 (by kernel_rfl) rfl #[.string (a0 ++ (⟨#[46, 48]⟩ : ByteArray)), .string a0] rfl (by (try simp only [List.map_toArray, List.map_cons, List.map_nil]); first | done | rfl | (simp only [List.length_drop, List.length_take]; rfl)) ?_; (with_reducible refine (impl_RubyCompare.calls k4 (a0 ++ (⟨#[46, 48]⟩ : ByteArray)) a0 t196 true _ ?side1 A45.out).mono ?_); (case side1 => first | exact HG.out | exact GW.below HG.out (by repeat (first | (with_reducible first | exact HB.out | exact Below.refl _ _ | apply below_alloc | apply pw_below_drewN | apply below_drew1 | apply below_drew | refine below_set ?_ (Aside0.out (by assumption))) | exact HB.out))); rintro e w80 ⟨rfl, hb⟩; refine ⟨_, rfl, ?_⟩; have n0_ := Aside0.mk (below_step (by repeat (first | (with_reducible first | exact HB.out | apply below_alloc | apply pw_below_drewN | apply below_drew1) | exact HB.out)) hb); clear HB; have HB := n0_; clear n0_; (try clear hb); (try clear hb2); (try clear hk); (try clear hi)) | ((with_reducible refine gate_callee (f := 23) rfl ?_); refine goesL_ (some 97) rfl rfl Tryd.func23 (by kernel_rfl) rfl #[.string ((a0 ++ (⟨#[46]⟩ : ByteArray)) ++ a1), .string a0] rfl (by (try simp only [List.map_toArray, List.map_cons, List.map_nil]); first | done | rfl | (simp only [List.length_drop, List.length_take]; rfl)) ?_; (with_reducible refine (impl_RubyCompare.calls k4 ((a0 ++ (⟨#[46]⟩ : ByteArray)) ++ a1) a0 t198 false _ ?side1 A48.out).mono ?_); (case side1 => first | exact HG.out | exact GW.below HG.out (by repeat (first | (with_reducible first | exact HB.out | exact Below.refl _ _ | apply below_alloc | apply pw_below_drewN | apply below_drew1 | apply below_drew | refine below_set ?_ (Aside0.out (by assumption))) | exact HB.out))); rintro e w81 ⟨rfl, hb⟩; refine ⟨_, rfl, ?_⟩; have n0_ := Aside0.mk (below_step (by repeat (first | (with_reducible first | exact HB.out | apply below_alloc | apply pw_below_drewN | apply below_drew1) | exact HB.out)) hb); clear HB; have HB := n0_; clear n0_; (try clear hb); (try clear hb2); (try clear hk); (try clear hi)) | ((with_reducible refine gate_callee (f := 26) rfl ?_); refine goesL_ (some 107) rfl rfl Tryd.func26 (by kernel_rfl) rfl #[.int .i64 (wrap64 (a2))] rfl (by (try simp only [List.map_toArray, List.map_cons, List.map_nil]); first | done | rfl | (simp only [List.length_drop, List.length_take]; rfl)) ?_; (with_reducible refine (laws_decimal.calls (wrap64 (a2)) t200 _ A49.out).mono ?_); rintro e w82 ⟨rfl, hb⟩; refine ⟨_, rfl, ?_⟩; have n0_ := Aside0.mk (below_step (by repeat (first | (with_reducible first | exact HB.out | apply below_alloc | apply pw_below_drewN | apply below_drew1) | exact HB.out)) hb); clear HB; have HB := n0_; clear n0_; (try clear hb); (try clear hb2); (try clear hk); (try clear hi)) | ((with_reducible refine gate_callee (f := 26) rfl ?_); refine goesL_ (some 115) rfl rfl Tryd.func26 (by kernel_rfl) rfl #[.int .i64 (wrap64 (a3))] rfl (by (try simp only [List.map_toArray, List.map_cons, List.map_nil]); first | done | rfl | (simp only [List.length_drop, List.length_take]; rfl)) ?_; (with_reducible refine (laws_decimal.calls (wrap64 (a3)) t201 _ A51.out).mono ?_); rintro e w83 ⟨rfl, hb⟩; refine ⟨_, rfl, ?_⟩; have n0_ := Aside0.mk (below_step (by repeat (first | (with_reducible first | exact HB.out | apply below_alloc | apply pw_below_drewN | apply below_drew1) | exact HB.out)) hb); clear HB; have HB := n0_; clear n0_; (try clear hb); (try clear hb2); (try clear hk); (try clear hi)) | ((with_reducible refine gate_callee (f := 23) rfl ?_); refine goesL_ (some 117) rfl rfl Tryd.func23 (by kernel_rfl) rfl #[.string (((a0 ++ (⟨#[46]⟩ : ByteArray)) ++ a1) ++ t200), .string (((a0 ++ (⟨#[46]⟩ : ByteArray)) ++ a1) ++ t201)] rfl (by (try simp only [List.map_toArray, List.map_cons, List.map_nil]); first | done | rfl | (simp only [List.length_drop, List.length_take]; rfl)) ?_; (with_reducible refine (impl_RubyCompare.calls k4 (((a0 ++ (⟨#[46]⟩ : ByteArray)) ++ a1) ++ t200) (((a0 ++ (⟨#[46]⟩ : ByteArray)) ++ a1) ++ t201) t202 t203 _ ?side1 A53.out).mono ?_); (case side1 => first | exact HG.out | exact GW.below HG.out (by repeat (first | (with_reducible first | exact HB.out | exact Below.refl _ _ | apply below_alloc | apply pw_below_drewN | apply below_drew1 | apply below_drew | refine below_set ?_ (Aside0.out (by assumption))) | exact HB.out))); rintro e w84 ⟨rfl, hb⟩; refine ⟨_, rfl, ?_⟩; have n0_ := Aside0.mk (below_step (by repeat (first | (with_reducible first | exact HB.out | apply below_alloc | apply pw_below_drewN | apply below_drew1) | exact HB.out)) hb); clear HB; have HB := n0_; clear n0_; (try clear hb); (try clear hb2); (try clear hk); (try clear hi)))
                                          go_ret
                                          exact ⟨by first | rfl | (simp [errW_none, errW_some] <;> rfl) | (simp [*, errW_none, errW_some] <;> rfl), by repeat (first | (with_reducible first | exact HB.out | apply below_alloc | apply pw_below_drewN | apply below_drew1) | exact HB.out)⟩
                                      · replace c55 := Bool.eq_false_iff.mpr c55
                                        subst c55
                                        have H1 : (some false) = some r := by rw [if_neg (show ¬ (false = true) by decide)] at H; exact H
                                        clear H
                                        have H := H1
                                        clear H1
                                        obtain rfl := Option.some.inj H
                                        go_wp2_with (first | ((with_reducible refine gate_callee (f := 23) rfl ?_); refine goesL_ (some 88) rfl rfl Tryd.func23 (by kernel_rfl) rfl #[.string (a0 ++ (⟨#[46, 48]⟩ : ByteArray)), .string a0] rfl (by (try simp only [List.map_toArray, List.map_cons, List.map_nil]); first | done | rfl | (simp only [List.length_drop, List.length_take]; rfl)) ?_; (with_reducible refine (impl_RubyCompare.calls k4 (a0 ++ (⟨#[46, 48]⟩ : ByteArray)) a0 t196 false _ ?side1 A45.out).mono ?_); (case side1 => first | exact HG.out | exact GW.below HG.out (by repeat (first | (with_reducible first | exact HB.out | exact Below.refl _ _ | apply below_alloc | apply pw_below_drewN | apply below_drew1 | apply below_drew | refine below_set ?_ (Aside0.out (by assumption))) | exact HB.out))); rintro e w85 ⟨rfl, hb⟩; refine ⟨_, rfl, ?_⟩; have n0_ := Aside0.mk (below_step (by repeat (first | (with_reducible first | exact HB.out | apply below_alloc | apply pw_below_drewN | apply below_drew1) | exact HB.out)) hb); clear HB; have HB := n0_; clear n0_; (try clear hb); (try clear hb2); (try clear hk); (try clear hi)) | ((with_reducible refine gate_callee (f := 23) rfl ?_); refine goesL_ (some 97) rfl rfl Tryd.func23 (by kernel_rfl) rfl #[.string ((a0 ++ (⟨#[46]⟩ : ByteArray)) ++ a1), .string a0] rfl (by (try simp only [List.map_toArray, List.map_cons, List.map_nil]); first | done | rfl | (simp only [List.length_drop, List.length_take]; rfl)) ?_; (with_reducible refine (impl_RubyCompare.calls k4 ((a0 ++ (⟨#[46]⟩ : ByteArray)) ++ a1) a0 t198 t199 _ ?side1 A48.out).mono ?_); (case side1 => first | exact HG.out | exact GW.below HG.out (by repeat (first | (with_reducible first | exact HB.out | exact Below.refl _ _ | apply below_alloc | apply pw_below_drewN | apply below_drew1 | apply below_drew | refine below_set ?_ (Aside0.out (by assumption))) | exact HB.out))); rintro e w86 ⟨rfl, hb⟩; refine ⟨_, rfl, ?_⟩; have n0_ := Aside0.mk (below_step (by repeat (first | (with_reducible first | exact HB.out | apply below_alloc | apply pw_below_drewN | apply below_drew1) | exact HB.out)) hb); clear HB; have HB := n0_; clear n0_; (try clear hb); (try clear hb2); (try clear hk); (try clear hi)) | ((with_reducible refine gate_callee (f := 26) rfl ?_); refine goesL_ (some 107) rfl rfl Tryd.func26 (by kernel_rfl) rfl #[.int .i64 (wrap64 (a2))] rfl (by (try simp only [List.map_toArray, List.map_cons, List.map_nil]); first | done | rfl | (simp only [List.length_drop, List.length_take]; rfl)) ?_; (with_reducible refine (laws_decimal.calls (wrap64 (a2)) t200 _ A49.out).mono ?_); rintro e w87 ⟨rfl, hb⟩; refine ⟨_, rfl, ?_⟩; have n0_ := Aside0.mk (below_step (by repeat (first | (with_reducible first | exact HB.out | apply below_alloc | apply pw_below_drewN | apply below_drew1) | exact HB.out)) hb); clear HB; have HB := n0_; clear n0_; (try clear hb); (try clear hb2); (try clear hk); (try clear hi)) | ((with_reducible refine gate_callee (f := 26) rfl ?_); refine goesL_ (some 115) rfl rfl Tryd.func26 (by kernel_rfl) rfl #[.int .i64 (wrap64 (a3))] rfl (by (try simp only [List.map_toArray, List.map_cons, List.map_nil]); first | done | rfl | (simp only [List.length_drop, List.length_take]; rfl)) ?_; (with_reducible refine (laws_decimal.calls (wrap64 (a3)) t201 _ A51.out).mono ?_); rintro e w88 ⟨rfl, hb⟩; refine ⟨_, rfl, ?_⟩; have n0_ := Aside0.mk (below_step (by repeat (first | (with_reducible first | exact HB.out | apply below_alloc | apply pw_below_drewN | apply below_drew1) | exact HB.out)) hb); clear HB; have HB := n0_; clear n0_; (try clear hb); (try clear hb2); (try clear hk); (try clear hi)) | ((with_reducible refine gate_callee (f := 23) rfl ?_); refine goesL_ (some 117) rfl rfl Tryd.func23 (by kernel_rfl) rfl #[.string (((a0 ++ (⟨#[46]⟩ : ByteArray)) ++ a1) ++ t200), .string (((a0 ++ (⟨#[46]⟩ : ByteArray)) ++ a1) ++ t201)] rfl (by (try simp only [List.map_toArray, List.map_cons, List.map_nil]); first | done | rfl | (simp only [List.length_drop, List.length_take]; rfl)) ?_; (with_reducible refine (impl_RubyCompare.calls k4 (((a0 ++ (⟨#[46]⟩ : ByteArray)) ++ a1) ++ t200) (((a0 ++ (⟨#[46]⟩ : ByteArray)) ++ a1) ++ t201) t202 t203 _ ?side1 A53.out).mono ?_); (case side1 => first | exact HG.out | exact GW.below HG.out (by repeat (first | (with_reducible first | exact HB.out | exact Below.refl _ _ | apply below_alloc | apply pw_below_drewN | apply below_drew1 | apply below_drew | refine below_set ?_ (Aside0.out (by assumption))) | exact HB.out))); rintro e w89 ⟨rfl, hb⟩; refine ⟨_, rfl, ?_⟩; have n0_ := Aside0.mk (below_step (by repeat (first | (with_reducible first | exact HB.out | apply below_alloc | apply pw_below_drewN | apply below_drew1) | exact HB.out)) hb); clear HB; have HB := n0_; clear n0_; (try clear hb); (try clear hb2); (try clear hk); (try clear hi)))
                                        go_ret
                                        exact ⟨by first | rfl | (simp [errW_none, errW_some] <;> rfl) | (simp [*, errW_none, errW_some] <;> rfl), by repeat (first | (with_reducible first | exact HB.out | apply below_alloc | apply pw_below_drewN | apply below_drew1) | exact HB.out)⟩
                                    · rw [if_neg c54] at H
                                      have c54b0 : decide (a2 < a3) = false := decide_eq_false c54
                                      clear c54
                                      by_cases c90 : a2 > a3
                                      · rw [if_pos c90] at H
                                        have c90b0 : decide (a3 < a2) = true := decide_eq_true c90
                                        clear c90
                                        by_cases c91 : t197 = true
                                        · subst c91
                                          have H1 : (if t199 = true then (if t203 = true then (if t196 = 0 then (if t198 = (-1) then (some (t202 == 1)) else (some false)) else (some false)) else (some false)) else (some false)) = some r := by rw [if_pos rfl] at H; exact H
                                          clear H
                                          have H := H1
                                          clear H1
                                          by_cases c92 : t199 = true
                                          · subst c92
                                            have H1 : (if t203 = true then (if t196 = 0 then (if t198 = (-1) then (some (t202 == 1)) else (some false)) else (some false)) else (some false)) = some r := by rw [if_pos rfl] at H; exact H
                                            clear H
                                            have H := H1
                                            clear H1
                                            by_cases c93 : t203 = true
                                            · subst c93
                                              have H1 : (if t196 = 0 then (if t198 = (-1) then (some (t202 == 1)) else (some false)) else (some false)) = some r := by rw [if_pos rfl] at H; exact H
                                              clear H
                                              have H := H1
                                              clear H1
                                              by_cases c94 : t196 = 0
                                              · rw [if_pos c94] at H
                                                have c94b0 : (t196 == 0) = true := beq_iff_eq.mpr c94
                                                have c94b1 : (t196 != 0) = false := bne_eq_false_iff_eq.mpr c94
                                                clear c94
                                                by_cases c95 : t198 = (-1)
                                                · rw [if_pos c95] at H
                                                  have c95b0 : (t198 == (-1)) = true := beq_iff_eq.mpr c95
                                                  have c95b1 : (t198 != (-1)) = false := bne_eq_false_iff_eq.mpr c95
                                                  clear c95
                                                  obtain rfl := Option.some.inj H
                                                  go_wp2_with (first | ((with_reducible refine gate_callee (f := 23) rfl ?_); refine goesL_ (some 88) rfl rfl Tryd.func23 (by kernel_rfl) rfl #[.string (a0 ++ (⟨#[46, 48]⟩ : ByteArray)), .string a0] rfl (by (try simp only [List.map_toArray, List.map_cons, List.map_nil]); first | done | rfl | (simp only [List.length_drop, List.length_take]; rfl)) ?_; (with_reducible refine (impl_RubyCompare.calls k4 (a0 ++ (⟨#[46, 48]⟩ : ByteArray)) a0 t196 true _ ?side1 A45.out).mono ?_); (case side1 => first | exact HG.out | exact GW.below HG.out (by repeat (first | (with_reducible first | exact HB.out | exact Below.refl _ _ | apply below_alloc | apply pw_below_drewN | apply below_drew1 | apply below_drew | refine below_set ?_ (Aside0.out (by assumption))) | exact HB.out))); rintro e w96 ⟨rfl, hb⟩; refine ⟨_, rfl, ?_⟩; have n0_ := Aside0.mk (below_step (by repeat (first | (with_reducible first | exact HB.out | apply below_alloc | apply pw_below_drewN | apply below_drew1) | exact HB.out)) hb); clear HB; have HB := n0_; clear n0_; (try clear hb); (try clear hb2); (try clear hk); (try clear hi)) | ((with_reducible refine gate_callee (f := 23) rfl ?_); refine goesL_ (some 97) rfl rfl Tryd.func23 (by kernel_rfl) rfl #[.string ((a0 ++ (⟨#[46]⟩ : ByteArray)) ++ a1), .string a0] rfl (by (try simp only [List.map_toArray, List.map_cons, List.map_nil]); first | done | rfl | (simp only [List.length_drop, List.length_take]; rfl)) ?_; (with_reducible refine (impl_RubyCompare.calls k4 ((a0 ++ (⟨#[46]⟩ : ByteArray)) ++ a1) a0 t198 true _ ?side1 A48.out).mono ?_); (case side1 => first | exact HG.out | exact GW.below HG.out (by repeat (first | (with_reducible first | exact HB.out | exact Below.refl _ _ | apply below_alloc | apply pw_below_drewN | apply below_drew1 | apply below_drew | refine below_set ?_ (Aside0.out (by assumption))) | exact HB.out))); rintro e w97 ⟨rfl, hb⟩; refine ⟨_, rfl, ?_⟩; have n0_ := Aside0.mk (below_step (by repeat (first | (with_reducible first | exact HB.out | apply below_alloc | apply pw_below_drewN | apply below_drew1) | exact HB.out)) hb); clear HB; have HB := n0_; clear n0_; (try clear hb); (try clear hb2); (try clear hk); (try clear hi)) | ((with_reducible refine gate_callee (f := 26) rfl ?_); refine goesL_ (some 107) rfl rfl Tryd.func26 (by kernel_rfl) rfl #[.int .i64 (wrap64 (a2))] rfl (by (try simp only [List.map_toArray, List.map_cons, List.map_nil]); first | done | rfl | (simp only [List.length_drop, List.length_take]; rfl)) ?_; (with_reducible refine (laws_decimal.calls (wrap64 (a2)) t200 _ A49.out).mono ?_); rintro e w98 ⟨rfl, hb⟩; refine ⟨_, rfl, ?_⟩; have n0_ := Aside0.mk (below_step (by repeat (first | (with_reducible first | exact HB.out | apply below_alloc | apply pw_below_drewN | apply below_drew1) | exact HB.out)) hb); clear HB; have HB := n0_; clear n0_; (try clear hb); (try clear hb2); (try clear hk); (try clear hi)) | ((with_reducible refine gate_callee (f := 26) rfl ?_); refine goesL_ (some 115) rfl rfl Tryd.func26 (by kernel_rfl) rfl #[.int .i64 (wrap64 (a3))] rfl (by (try simp only [List.map_toArray, List.map_cons, List.map_nil]); first | done | rfl | (simp only [List.length_drop, List.length_take]; rfl)) ?_; (with_reducible refine (laws_decimal.calls (wrap64 (a3)) t201 _ A51.out).mono ?_); rintro e w99 ⟨rfl, hb⟩; refine ⟨_, rfl, ?_⟩; have n0_ := Aside0.mk (below_step (by repeat (first | (with_reducible first | exact HB.out | apply below_alloc | apply pw_below_drewN | apply below_drew1) | exact HB.out)) hb); clear HB; have HB := n0_; clear n0_; (try clear hb); (try clear hb2); (try clear hk); (try clear hi)) | ((with_reducible refine gate_callee (f := 23) rfl ?_); refine goesL_ (some 117) rfl rfl Tryd.func23 (by kernel_rfl) rfl #[.string (((a0 ++ (⟨#[46]⟩ : ByteArray)) ++ a1) ++ t200), .string (((a0 ++ (⟨#[46]⟩ : ByteArray)) ++ a1) ++ t201)] rfl (by (try simp only [List.map_toArray, List.map_cons, List.map_nil]); first | done | rfl | (simp only [List.length_drop, List.length_take]; rfl)) ?_; (with_reducible refine (impl_RubyCompare.calls k4 (((a0 ++ (⟨#[46]⟩ : ByteArray)) ++ a1) ++ t200) (((a0 ++ (⟨#[46]⟩ : ByteArray)) ++ a1) ++ t201) t202 true _ ?side1 A53.out).mono ?_); (case side1 => first | exact HG.out | exact GW.below HG.out (by repeat (first | (with_reducible first | exact HB.out | exact Below.refl _ _ | apply below_alloc | apply pw_below_drewN | apply below_drew1 | apply below_drew | refine below_set ?_ (Aside0.out (by assumption))) | exact HB.out))); rintro e w100 ⟨rfl, hb⟩; refine ⟨_, rfl, ?_⟩; have n0_ := Aside0.mk (below_step (by repeat (first | (with_reducible first | exact HB.out | apply below_alloc | apply pw_below_drewN | apply below_drew1) | exact HB.out)) hb); clear HB; have HB := n0_; clear n0_; (try clear hb); (try clear hb2); (try clear hk); (try clear hi)))
                                                  go_ret
                                                  exact ⟨by first | rfl | (simp [errW_none, errW_some] <;> rfl) | (simp [*, errW_none, errW_some] <;> rfl), by repeat (first | (with_reducible first | exact HB.out | apply below_alloc | apply pw_below_drewN | apply below_drew1) | exact HB.out)⟩
                                                · rw [if_neg c95] at H
                                                  have c95b0 : (t198 == (-1)) = false := beq_eq_false_iff_ne.mpr c95
                                                  have c95b1 : (t198 != (-1)) = true := bne_iff_ne.mpr c95
                                                  obtain rfl := Option.some.inj H
                                                  go_wp2_with (first | ((with_reducible refine gate_callee (f := 23) rfl ?_); refine goesL_ (some 88) rfl rfl Tryd.func23 (by kernel_rfl) rfl #[.string (a0 ++ (⟨#[46, 48]⟩ : ByteArray)), .string a0] rfl (by (try simp only [List.map_toArray, List.map_cons, List.map_nil]); first | done | rfl | (simp only [List.length_drop, List.length_take]; rfl)) ?_; (with_reducible refine (impl_RubyCompare.calls k4 (a0 ++ (⟨#[46, 48]⟩ : ByteArray)) a0 t196 true _ ?side1 A45.out).mono ?_); (case side1 => first | exact HG.out | exact GW.below HG.out (by repeat (first | (with_reducible first | exact HB.out | exact Below.refl _ _ | apply below_alloc | apply pw_below_drewN | apply below_drew1 | apply below_drew | refine below_set ?_ (Aside0.out (by assumption))) | exact HB.out))); rintro e w101 ⟨rfl, hb⟩; refine ⟨_, rfl, ?_⟩; have n0_ := Aside0.mk (below_step (by repeat (first | (with_reducible first | exact HB.out | apply below_alloc | apply pw_below_drewN | apply below_drew1) | exact HB.out)) hb); clear HB; have HB := n0_; clear n0_; (try clear hb); (try clear hb2); (try clear hk); (try clear hi)) | ((with_reducible refine gate_callee (f := 23) rfl ?_); refine goesL_ (some 97) rfl rfl Tryd.func23 (by kernel_rfl) rfl #[.string ((a0 ++ (⟨#[46]⟩ : ByteArray)) ++ a1), .string a0] rfl (by (try simp only [List.map_toArray, List.map_cons, List.map_nil]); first | done | rfl | (simp only [List.length_drop, List.length_take]; rfl)) ?_; (with_reducible refine (impl_RubyCompare.calls k4 ((a0 ++ (⟨#[46]⟩ : ByteArray)) ++ a1) a0 t198 true _ ?side1 A48.out).mono ?_); (case side1 => first | exact HG.out | exact GW.below HG.out (by repeat (first | (with_reducible first | exact HB.out | exact Below.refl _ _ | apply below_alloc | apply pw_below_drewN | apply below_drew1 | apply below_drew | refine below_set ?_ (Aside0.out (by assumption))) | exact HB.out))); rintro e w102 ⟨rfl, hb⟩; refine ⟨_, rfl, ?_⟩; have n0_ := Aside0.mk (below_step (by repeat (first | (with_reducible first | exact HB.out | apply below_alloc | apply pw_below_drewN | apply below_drew1) | exact HB.out)) hb); clear HB; have HB := n0_; clear n0_; (try clear hb); (try clear hb2); (try clear hk); (try clear hi)) | ((with_reducible refine gate_callee (f := 26) rfl ?_); refine goesL_ (some 107) rfl rfl Tryd.func26 (by kernel_rfl) rfl #[.int .i64 (wrap64 (a2))] rfl (by (try simp only [List.map_toArray, List.map_cons, List.map_nil]); first | done | rfl | (simp only [List.length_drop, List.length_take]; rfl)) ?_; (with_reducible refine (laws_decimal.calls (wrap64 (a2)) t200 _ A49.out).mono ?_); rintro e w103 ⟨rfl, hb⟩; refine ⟨_, rfl, ?_⟩; have n0_ := Aside0.mk (below_step (by repeat (first | (with_reducible first | exact HB.out | apply below_alloc | apply pw_below_drewN | apply below_drew1) | exact HB.out)) hb); clear HB; have HB := n0_; clear n0_; (try clear hb); (try clear hb2); (try clear hk); (try clear hi)) | ((with_reducible refine gate_callee (f := 26) rfl ?_); refine goesL_ (some 115) rfl rfl Tryd.func26 (by kernel_rfl) rfl #[.int .i64 (wrap64 (a3))] rfl (by (try simp only [List.map_toArray, List.map_cons, List.map_nil]); first | done | rfl | (simp only [List.length_drop, List.length_take]; rfl)) ?_; (with_reducible refine (laws_decimal.calls (wrap64 (a3)) t201 _ A51.out).mono ?_); rintro e w104 ⟨rfl, hb⟩; refine ⟨_, rfl, ?_⟩; have n0_ := Aside0.mk (below_step (by repeat (first | (with_reducible first | exact HB.out | apply below_alloc | apply pw_below_drewN | apply below_drew1) | exact HB.out)) hb); clear HB; have HB := n0_; clear n0_; (try clear hb); (try clear hb2); (try clear hk); (try clear hi)) | ((with_reducible refine gate_callee (f := 23) rfl ?_); refine goesL_ (some 117) rfl rfl Tryd.func23 (by kernel_rfl) rfl #[.string (((a0 ++ (⟨#[46]⟩ : ByteArray)) ++ a1) ++ t200), .string (((a0 ++ (⟨#[46]⟩ : ByteArray)) ++ a1) ++ t201)] rfl (by (try simp only [List.map_toArray, List.map_cons, List.map_nil]); first | done | rfl | (simp only [List.length_drop, List.length_take]; rfl)) ?_; (with_reducible refine (impl_RubyCompare.calls k4 (((a0 ++ (⟨#[46]⟩ : ByteArray)) ++ a1) ++ t200) (((a0 ++ (⟨#[46]⟩ : ByteArray)) ++ a1) ++ t201) t202 true _ ?side1 A53.out).mono ?_); (case side1 => first | exact HG.out | exact GW.below HG.out (by repeat (first | (with_reducible first | exact HB.out | exact Below.refl _ _ | apply below_alloc | apply pw_below_drewN | apply below_drew1 | apply below_drew | refine below_set ?_ (Aside0.out (by assumption))) | exact HB.out))); rintro e w105 ⟨rfl, hb⟩; refine ⟨_, rfl, ?_⟩; have n0_ := Aside0.mk (below_step (by repeat (first | (with_reducible first | exact HB.out | apply below_alloc | apply pw_below_drewN | apply below_drew1) | exact HB.out)) hb); clear HB; have HB := n0_; clear n0_; (try clear hb); (try clear hb2); (try clear hk); (try clear hi)))
                                                  go_ret
                                                  exact ⟨by first | rfl | (simp [errW_none, errW_some] <;> rfl) | (simp [*, errW_none, errW_some] <;> rfl), by repeat (first | (with_reducible first | exact HB.out | apply below_alloc | apply pw_below_drewN | apply below_drew1) | exact HB.out)⟩
                                              · rw [if_neg c94] at H
                                                have c94b0 : (t196 == 0) = false := beq_eq_false_iff_ne.mpr c94
                                                have c94b1 : (t196 != 0) = true := bne_iff_ne.mpr c94
                                                obtain rfl := Option.some.inj H
                                                go_wp2_with (first | ((with_reducible refine gate_callee (f := 23) rfl ?_); refine goesL_ (some 88) rfl rfl Tryd.func23 (by kernel_rfl) rfl #[.string (a0 ++ (⟨#[46, 48]⟩ : ByteArray)), .string a0] rfl (by (try simp only [List.map_toArray, List.map_cons, List.map_nil]); first | done | rfl | (simp only [List.length_drop, List.length_take]; rfl)) ?_; (with_reducible refine (impl_RubyCompare.calls k4 (a0 ++ (⟨#[46, 48]⟩ : ByteArray)) a0 t196 true _ ?side1 A45.out).mono ?_); (case side1 => first | exact HG.out | exact GW.below HG.out (by repeat (first | (with_reducible first | exact HB.out | exact Below.refl _ _ | apply below_alloc | apply pw_below_drewN | apply below_drew1 | apply below_drew | refine below_set ?_ (Aside0.out (by assumption))) | exact HB.out))); rintro e w106 ⟨rfl, hb⟩; refine ⟨_, rfl, ?_⟩; have n0_ := Aside0.mk (below_step (by repeat (first | (with_reducible first | exact HB.out | apply below_alloc | apply pw_below_drewN | apply below_drew1) | exact HB.out)) hb); clear HB; have HB := n0_; clear n0_; (try clear hb); (try clear hb2); (try clear hk); (try clear hi)) | ((with_reducible refine gate_callee (f := 23) rfl ?_); refine goesL_ (some 97) rfl rfl Tryd.func23 (by kernel_rfl) rfl #[.string ((a0 ++ (⟨#[46]⟩ : ByteArray)) ++ a1), .string a0] rfl (by (try simp only [List.map_toArray, List.map_cons, List.map_nil]); first | done | rfl | (simp only [List.length_drop, List.length_take]; rfl)) ?_; (with_reducible refine (impl_RubyCompare.calls k4 ((a0 ++ (⟨#[46]⟩ : ByteArray)) ++ a1) a0 t198 true _ ?side1 A48.out).mono ?_); (case side1 => first | exact HG.out | exact GW.below HG.out (by repeat (first | (with_reducible first | exact HB.out | exact Below.refl _ _ | apply below_alloc | apply pw_below_drewN | apply below_drew1 | apply below_drew | refine below_set ?_ (Aside0.out (by assumption))) | exact HB.out))); rintro e w107 ⟨rfl, hb⟩; refine ⟨_, rfl, ?_⟩; have n0_ := Aside0.mk (below_step (by repeat (first | (with_reducible first | exact HB.out | apply below_alloc | apply pw_below_drewN | apply below_drew1) | exact HB.out)) hb); clear HB; have HB := n0_; clear n0_; (try clear hb); (try clear hb2); (try clear hk); (try clear hi)) | ((with_reducible refine gate_callee (f := 26) rfl ?_); refine goesL_ (some 107) rfl rfl Tryd.func26 (by kernel_rfl) rfl #[.int .i64 (wrap64 (a2))] rfl (by (try simp only [List.map_toArray, List.map_cons, List.map_nil]); first | done | rfl | (simp only [List.length_drop, List.length_take]; rfl)) ?_; (with_reducible refine (laws_decimal.calls (wrap64 (a2)) t200 _ A49.out).mono ?_); rintro e w108 ⟨rfl, hb⟩; refine ⟨_, rfl, ?_⟩; have n0_ := Aside0.mk (below_step (by repeat (first | (with_reducible first | exact HB.out | apply below_alloc | apply pw_below_drewN | apply below_drew1) | exact HB.out)) hb); clear HB; have HB := n0_; clear n0_; (try clear hb); (try clear hb2); (try clear hk); (try clear hi)) | ((with_reducible refine gate_callee (f := 26) rfl ?_); refine goesL_ (some 115) rfl rfl Tryd.func26 (by kernel_rfl) rfl #[.int .i64 (wrap64 (a3))] rfl (by (try simp only [List.map_toArray, List.map_cons, List.map_nil]); first | done | rfl | (simp only [List.length_drop, List.length_take]; rfl)) ?_; (with_reducible refine (laws_decimal.calls (wrap64 (a3)) t201 _ A51.out).mono ?_); rintro e w109 ⟨rfl, hb⟩; refine ⟨_, rfl, ?_⟩; have n0_ := Aside0.mk (below_step (by repeat (first | (with_reducible first | exact HB.out | apply below_alloc | apply pw_below_drewN | apply below_drew1) | exact HB.out)) hb); clear HB; have HB := n0_; clear n0_; (try clear hb); (try clear hb2); (try clear hk); (try clear hi)) | ((with_reducible refine gate_callee (f := 23) rfl ?_); refine goesL_ (some 117) rfl rfl Tryd.func23 (by kernel_rfl) rfl #[.string (((a0 ++ (⟨#[46]⟩ : ByteArray)) ++ a1) ++ t200), .string (((a0 ++ (⟨#[46]⟩ : ByteArray)) ++ a1) ++ t201)] rfl (by (try simp only [List.map_toArray, List.map_cons, List.map_nil]); first | done | rfl | (simp only [List.length_drop, List.length_take]; rfl)) ?_; (with_reducible refine (impl_RubyCompare.calls k4 (((a0 ++ (⟨#[46]⟩ : ByteArray)) ++ a1) ++ t200) (((a0 ++ (⟨#[46]⟩ : ByteArray)) ++ a1) ++ t201) t202 true _ ?side1 A53.out).mono ?_); (case side1 => first | exact HG.out | exact GW.below HG.out (by repeat (first | (with_reducible first | exact HB.out | exact Below.refl _ _ | apply below_alloc | apply pw_below_drewN | apply below_drew1 | apply below_drew | refine below_set ?_ (Aside0.out (by assumption))) | exact HB.out))); rintro e w110 ⟨rfl, hb⟩; refine ⟨_, rfl, ?_⟩; have n0_ := Aside0.mk (below_step (by repeat (first | (with_reducible first | exact HB.out | apply below_alloc | apply pw_below_drewN | apply below_drew1) | exact HB.out)) hb); clear HB; have HB := n0_; clear n0_; (try clear hb); (try clear hb2); (try clear hk); (try clear hi)))
                                                go_ret
                                                exact ⟨by first | rfl | (simp [errW_none, errW_some] <;> rfl) | (simp [*, errW_none, errW_some] <;> rfl), by repeat (first | (with_reducible first | exact HB.out | apply below_alloc | apply pw_below_drewN | apply below_drew1) | exact HB.out)⟩
                                            · replace c93 := Bool.eq_false_iff.mpr c93
                                              subst c93
                                              have H1 : (some false) = some r := by rw [if_neg (show ¬ (false = true) by decide)] at H; exact H
                                              clear H
                                              have H := H1
                                              clear H1
                                              obtain rfl := Option.some.inj H
                                              go_wp2_with (first | ((with_reducible refine gate_callee (f := 23) rfl ?_); refine goesL_ (some 88) rfl rfl Tryd.func23 (by kernel_rfl) rfl #[.string (a0 ++ (⟨#[46, 48]⟩ : ByteArray)), .string a0] rfl (by (try simp only [List.map_toArray, List.map_cons, List.map_nil]); first | done | rfl | (simp only [List.length_drop, List.length_take]; rfl)) ?_; (with_reducible refine (impl_RubyCompare.calls k4 (a0 ++ (⟨#[46, 48]⟩ : ByteArray)) a0 t196 true _ ?side1 A45.out).mono ?_); (case side1 => first | exact HG.out | exact GW.below HG.out (by repeat (first | (with_reducible first | exact HB.out | exact Below.refl _ _ | apply below_alloc | apply pw_below_drewN | apply below_drew1 | apply below_drew | refine below_set ?_ (Aside0.out (by assumption))) | exact HB.out))); rintro e w111 ⟨rfl, hb⟩; refine ⟨_, rfl, ?_⟩; have n0_ := Aside0.mk (below_step (by repeat (first | (with_reducible first | exact HB.out | apply below_alloc | apply pw_below_drewN | apply below_drew1) | exact HB.out)) hb); clear HB; have HB := n0_; clear n0_; (try clear hb); (try clear hb2); (try clear hk); (try clear hi)) | ((with_reducible refine gate_callee (f := 23) rfl ?_); refine goesL_ (some 97) rfl rfl Tryd.func23 (by kernel_rfl) rfl #[.string ((a0 ++ (⟨#[46]⟩ : ByteArray)) ++ a1), .string a0] rfl (by (try simp only [List.map_toArray, List.map_cons, List.map_nil]); first | done | rfl | (simp only [List.length_drop, List.length_take]; rfl)) ?_; (with_reducible refine (impl_RubyCompare.calls k4 ((a0 ++ (⟨#[46]⟩ : ByteArray)) ++ a1) a0 t198 true _ ?side1 A48.out).mono ?_); (case side1 => first | exact HG.out | exact GW.below HG.out (by repeat (first | (with_reducible first | exact HB.out | exact Below.refl _ _ | apply below_alloc | apply pw_below_drewN | apply below_drew1 | apply below_drew | refine below_set ?_ (Aside0.out (by assumption))) | exact HB.out))); rintro e w112 ⟨rfl, hb⟩; refine ⟨_, rfl, ?_⟩; have n0_ := Aside0.mk (below_step (by repeat (first | (with_reducible first | exact HB.out | apply below_alloc | apply pw_below_drewN | apply below_drew1) | exact HB.out)) hb); clear HB; have HB := n0_; clear n0_; (try clear hb); (try clear hb2); (try clear hk); (try clear hi)) | ((with_reducible refine gate_callee (f := 26) rfl ?_); refine goesL_ (some 107) rfl rfl Tryd.func26 (by kernel_rfl) rfl #[.int .i64 (wrap64 (a2))] rfl (by (try simp only [List.map_toArray, List.map_cons, List.map_nil]); first | done | rfl | (simp only [List.length_drop, List.length_take]; rfl)) ?_; (with_reducible refine (laws_decimal.calls (wrap64 (a2)) t200 _ A49.out).mono ?_); rintro e w113 ⟨rfl, hb⟩; refine ⟨_, rfl, ?_⟩; have n0_ := Aside0.mk (below_step (by repeat (first | (with_reducible first | exact HB.out | apply below_alloc | apply pw_below_drewN | apply below_drew1) | exact HB.out)) hb); clear HB; have HB := n0_; clear n0_; (try clear hb); (try clear hb2); (try clear hk); (try clear hi)) | ((with_reducible refine gate_callee (f := 26) rfl ?_); refine goesL_ (some 115) rfl rfl Tryd.func26 (by kernel_rfl) rfl #[.int .i64 (wrap64 (a3))] rfl (by (try simp only [List.map_toArray, List.map_cons, List.map_nil]); first | done | rfl | (simp only [List.length_drop, List.length_take]; rfl)) ?_; (with_reducible refine (laws_decimal.calls (wrap64 (a3)) t201 _ A51.out).mono ?_); rintro e w114 ⟨rfl, hb⟩; refine ⟨_, rfl, ?_⟩; have n0_ := Aside0.mk (below_step (by repeat (first | (with_reducible first | exact HB.out | apply below_alloc | apply pw_below_drewN | apply below_drew1) | exact HB.out)) hb); clear HB; have HB := n0_; clear n0_; (try clear hb); (try clear hb2); (try clear hk); (try clear hi)) | ((with_reducible refine gate_callee (f := 23) rfl ?_); refine goesL_ (some 117) rfl rfl Tryd.func23 (by kernel_rfl) rfl #[.string (((a0 ++ (⟨#[46]⟩ : ByteArray)) ++ a1) ++ t200), .string (((a0 ++ (⟨#[46]⟩ : ByteArray)) ++ a1) ++ t201)] rfl (by (try simp only [List.map_toArray, List.map_cons, List.map_nil]); first | done | rfl | (simp only [List.length_drop, List.length_take]; rfl)) ?_; (with_reducible refine (impl_RubyCompare.calls k4 (((a0 ++ (⟨#[46]⟩ : ByteArray)) ++ a1) ++ t200) (((a0 ++ (⟨#[46]⟩ : ByteArray)) ++ a1) ++ t201) t202 false _ ?side1 A53.out).mono ?_); (case side1 => first | exact HG.out | exact GW.below HG.out (by repeat (first | (with_reducible first | exact HB.out | exact Below.refl _ _ | apply below_alloc | apply pw_below_drewN | apply below_drew1 | apply below_drew | refine below_set ?_ (Aside0.out (by assumption))) | exact HB.out))); rintro e w115 ⟨rfl, hb⟩; refine ⟨_, rfl, ?_⟩; have n0_ := Aside0.mk (below_step (by repeat (first | (with_reducible first | exact HB.out | apply below_alloc | apply pw_below_drewN | apply below_drew1) | exact HB.out)) hb); clear HB; have HB := n0_; clear n0_; (try clear hb); (try clear hb2); (try clear hk); (try clear hi)))
                                              go_ret
                                              exact ⟨by first | rfl | (simp [errW_none, errW_some] <;> rfl) | (simp [*, errW_none, errW_some] <;> rfl), by repeat (first | (with_reducible first | exact HB.out | apply below_alloc | apply pw_below_drewN | apply below_drew1) | exact HB.out)⟩
                                          · replace c92 := Bool.eq_false_iff.mpr c92
                                            subst c92
                                            have H1 : (some false) = some r := by rw [if_neg (show ¬ (false = true) by decide)] at H; exact H
                                            clear H
                                            have H := H1
                                            clear H1
                                            obtain rfl := Option.some.inj H
                                            go_wp2_with (first | ((with_reducible refine gate_callee (f := 23) rfl ?_); refine goesL_ (some 88) rfl rfl Tryd.func23 (by kernel_rfl) rfl #[.string (a0 ++ (⟨#[46, 48]⟩ : ByteArray)), .string a0] rfl (by (try simp only [List.map_toArray, List.map_cons, List.map_nil]); first | done | rfl | (simp only [List.length_drop, List.length_take]; rfl)) ?_; (with_reducible refine (impl_RubyCompare.calls k4 (a0 ++ (⟨#[46, 48]⟩ : ByteArray)) a0 t196 true _ ?side1 A45.out).mono ?_); (case side1 => first | exact HG.out | exact GW.below HG.out (by repeat (first | (with_reducible first | exact HB.out | exact Below.refl _ _ | apply below_alloc | apply pw_below_drewN | apply below_drew1 | apply below_drew | refine below_set ?_ (Aside0.out (by assumption))) | exact HB.out))); rintro e w116 ⟨rfl, hb⟩; refine ⟨_, rfl, ?_⟩; have n0_ := Aside0.mk (below_step (by repeat (first | (with_reducible first | exact HB.out | apply below_alloc | apply pw_below_drewN | apply below_drew1) | exact HB.out)) hb); clear HB; have HB := n0_; clear n0_; (try clear hb); (try clear hb2); (try clear hk); (try clear hi)) | ((with_reducible refine gate_callee (f := 23) rfl ?_); refine goesL_ (some 97) rfl rfl Tryd.func23 (by kernel_rfl) rfl #[.string ((a0 ++ (⟨#[46]⟩ : ByteArray)) ++ a1), .string a0] rfl (by (try simp only [List.map_toArray, List.map_cons, List.map_nil]); first | done | rfl | (simp only [List.length_drop, List.length_take]; rfl)) ?_; (with_reducible refine (impl_RubyCompare.calls k4 ((a0 ++ (⟨#[46]⟩ : ByteArray)) ++ a1) a0 t198 false _ ?side1 A48.out).mono ?_); (case side1 => first | exact HG.out | exact GW.below HG.out (by repeat (first | (with_reducible first | exact HB.out | exact Below.refl _ _ | apply below_alloc | apply pw_below_drewN | apply below_drew1 | apply below_drew | refine below_set ?_ (Aside0.out (by assumption))) | exact HB.out))); rintro e w117 ⟨rfl, hb⟩; refine ⟨_, rfl, ?_⟩; have n0_ := Aside0.mk (below_step (by repeat (first | (with_reducible first | exact HB.out | apply below_alloc | apply pw_below_drewN | apply below_drew1) | exact HB.out)) hb); clear HB; have HB := n0_; clear n0_; (try clear hb); (try clear hb2); (try clear hk); (try clear hi)) | ((with_reducible refine gate_callee (f := 26) rfl ?_); refine goesL_ (some 107) rfl rfl Tryd.func26 (by kernel_rfl) rfl #[.int .i64 (wrap64 (a2))] rfl (by (try simp only [List.map_toArray, List.map_cons, List.map_nil]); first | done | rfl | (simp only [List.length_drop, List.length_take]; rfl)) ?_; (with_reducible refine (laws_decimal.calls (wrap64 (a2)) t200 _ A49.out).mono ?_); rintro e w118 ⟨rfl, hb⟩; refine ⟨_, rfl, ?_⟩; have n0_ := Aside0.mk (below_step (by repeat (first | (with_reducible first | exact HB.out | apply below_alloc | apply pw_below_drewN | apply below_drew1) | exact HB.out)) hb); clear HB; have HB := n0_; clear n0_; (try clear hb); (try clear hb2); (try clear hk); (try clear hi)) | ((with_reducible refine gate_callee (f := 26) rfl ?_); refine goesL_ (some 115) rfl rfl Tryd.func26 (by kernel_rfl) rfl #[.int .i64 (wrap64 (a3))] rfl (by (try simp only [List.map_toArray, List.map_cons, List.map_nil]); first | done | rfl | (simp only [List.length_drop, List.length_take]; rfl)) ?_; (with_reducible refine (laws_decimal.calls (wrap64 (a3)) t201 _ A51.out).mono ?_); rintro e w119 ⟨rfl, hb⟩; refine ⟨_, rfl, ?_⟩; have n0_ := Aside0.mk (below_step (by repeat (first | (with_reducible first | exact HB.out | apply below_alloc | apply pw_below_drewN | apply below_drew1) | exact HB.out)) hb); clear HB; have HB := n0_; clear n0_; (try clear hb); (try clear hb2); (try clear hk); (try clear hi)) | ((with_reducible refine gate_callee (f := 23) rfl ?_); refine goesL_ (some 117) rfl rfl Tryd.func23 (by kernel_rfl) rfl #[.string (((a0 ++ (⟨#[46]⟩ : ByteArray)) ++ a1) ++ t200), .string (((a0 ++ (⟨#[46]⟩ : ByteArray)) ++ a1) ++ t201)] rfl (by (try simp only [List.map_toArray, List.map_cons, List.map_nil]); first | done | rfl | (simp only [List.length_drop, List.length_take]; rfl)) ?_; (with_reducible refine (impl_RubyCompare.calls k4 (((a0 ++ (⟨#[46]⟩ : ByteArray)) ++ a1) ++ t200) (((a0 ++ (⟨#[46]⟩ : ByteArray)) ++ a1) ++ t201) t202 t203 _ ?side1 A53.out).mono ?_); (case side1 => first | exact HG.out | exact GW.below HG.out (by repeat (first | (with_reducible first | exact HB.out | exact Below.refl _ _ | apply below_alloc | apply pw_below_drewN | apply below_drew1 | apply below_drew | refine below_set ?_ (Aside0.out (by assumption))) | exact HB.out))); rintro e w120 ⟨rfl, hb⟩; refine ⟨_, rfl, ?_⟩; have n0_ := Aside0.mk (below_step (by repeat (first | (with_reducible first | exact HB.out | apply below_alloc | apply pw_below_drewN | apply below_drew1) | exact HB.out)) hb); clear HB; have HB := n0_; clear n0_; (try clear hb); (try clear hb2); (try clear hk); (try clear hi)))
                                            go_ret
                                            exact ⟨by first | rfl | (simp [errW_none, errW_some] <;> rfl) | (simp [*, errW_none, errW_some] <;> rfl), by repeat (first | (with_reducible first | exact HB.out | apply below_alloc | apply pw_below_drewN | apply below_drew1) | exact HB.out)⟩
                                        · replace c91 := Bool.eq_false_iff.mpr c91
                                          subst c91
                                          have H1 : (some false) = some r := by rw [if_neg (show ¬ (false = true) by decide)] at H; exact H
                                          clear H
                                          have H := H1
                                          clear H1
                                          obtain rfl := Option.some.inj H
                                          go_wp2_with (first | ((with_reducible refine gate_callee (f := 23) rfl ?_); refine goesL_ (some 88) rfl rfl Tryd.func23 (by kernel_rfl) rfl #[.string (a0 ++ (⟨#[46, 48]⟩ : ByteArray)), .string a0] rfl (by (try simp only [List.map_toArray, List.map_cons, List.map_nil]); first | done | rfl | (simp only [List.length_drop, List.length_take]; rfl)) ?_; (with_reducible refine (impl_RubyCompare.calls k4 (a0 ++ (⟨#[46, 48]⟩ : ByteArray)) a0 t196 false _ ?side1 A45.out).mono ?_); (case side1 => first | exact HG.out | exact GW.below HG.out (by repeat (first | (with_reducible first | exact HB.out | exact Below.refl _ _ | apply below_alloc | apply pw_below_drewN | apply below_drew1 | apply below_drew | refine below_set ?_ (Aside0.out (by assumption))) | exact HB.out))); rintro e w121 ⟨rfl, hb⟩; refine ⟨_, rfl, ?_⟩; have n0_ := Aside0.mk (below_step (by repeat (first | (with_reducible first | exact HB.out | apply below_alloc | apply pw_below_drewN | apply below_drew1) | exact HB.out)) hb); clear HB; have HB := n0_; clear n0_; (try clear hb); (try clear hb2); (try clear hk); (try clear hi)) | ((with_reducible refine gate_callee (f := 23) rfl ?_); refine goesL_ (some 97) rfl rfl Tryd.func23 (by kernel_rfl) rfl #[.string ((a0 ++ (⟨#[46]⟩ : ByteArray)) ++ a1), .string a0] rfl (by (try simp only [List.map_toArray, List.map_cons, List.map_nil]); first | done | rfl | (simp only [List.length_drop, List.length_take]; rfl)) ?_; (with_reducible refine (impl_RubyCompare.calls k4 ((a0 ++ (⟨#[46]⟩ : ByteArray)) ++ a1) a0 t198 t199 _ ?side1 A48.out).mono ?_); (case side1 => first | exact HG.out | exact GW.below HG.out (by repeat (first | (with_reducible first | exact HB.out | exact Below.refl _ _ | apply below_alloc | apply pw_below_drewN | apply below_drew1 | apply below_drew | refine below_set ?_ (Aside0.out (by assumption))) | exact HB.out))); rintro e w122 ⟨rfl, hb⟩; refine ⟨_, rfl, ?_⟩; have n0_ := Aside0.mk (below_step (by repeat (first | (with_reducible first | exact HB.out | apply below_alloc | apply pw_below_drewN | apply below_drew1) | exact HB.out)) hb); clear HB; have HB := n0_; clear n0_; (try clear hb); (try clear hb2); (try clear hk); (try clear hi)) | ((with_reducible refine gate_callee (f := 26) rfl ?_); refine goesL_ (some 107) rfl rfl Tryd.func26 (by kernel_rfl) rfl #[.int .i64 (wrap64 (a2))] rfl (by (try simp only [List.map_toArray, List.map_cons, List.map_nil]); first | done | rfl | (simp only [List.length_drop, List.length_take]; rfl)) ?_; (with_reducible refine (laws_decimal.calls (wrap64 (a2)) t200 _ A49.out).mono ?_); rintro e w123 ⟨rfl, hb⟩; refine ⟨_, rfl, ?_⟩; have n0_ := Aside0.mk (below_step (by repeat (first | (with_reducible first | exact HB.out | apply below_alloc | apply pw_below_drewN | apply below_drew1) | exact HB.out)) hb); clear HB; have HB := n0_; clear n0_; (try clear hb); (try clear hb2); (try clear hk); (try clear hi)) | ((with_reducible refine gate_callee (f := 26) rfl ?_); refine goesL_ (some 115) rfl rfl Tryd.func26 (by kernel_rfl) rfl #[.int .i64 (wrap64 (a3))] rfl (by (try simp only [List.map_toArray, List.map_cons, List.map_nil]); first | done | rfl | (simp only [List.length_drop, List.length_take]; rfl)) ?_; (with_reducible refine (laws_decimal.calls (wrap64 (a3)) t201 _ A51.out).mono ?_); rintro e w124 ⟨rfl, hb⟩; refine ⟨_, rfl, ?_⟩; have n0_ := Aside0.mk (below_step (by repeat (first | (with_reducible first | exact HB.out | apply below_alloc | apply pw_below_drewN | apply below_drew1) | exact HB.out)) hb); clear HB; have HB := n0_; clear n0_; (try clear hb); (try clear hb2); (try clear hk); (try clear hi)) | ((with_reducible refine gate_callee (f := 23) rfl ?_); refine goesL_ (some 117) rfl rfl Tryd.func23 (by kernel_rfl) rfl #[.string (((a0 ++ (⟨#[46]⟩ : ByteArray)) ++ a1) ++ t200), .string (((a0 ++ (⟨#[46]⟩ : ByteArray)) ++ a1) ++ t201)] rfl (by (try simp only [List.map_toArray, List.map_cons, List.map_nil]); first | done | rfl | (simp only [List.length_drop, List.length_take]; rfl)) ?_; (with_reducible refine (impl_RubyCompare.calls k4 (((a0 ++ (⟨#[46]⟩ : ByteArray)) ++ a1) ++ t200) (((a0 ++ (⟨#[46]⟩ : ByteArray)) ++ a1) ++ t201) t202 t203 _ ?side1 A53.out).mono ?_); (case side1 => first | exact HG.out | exact GW.below HG.out (by repeat (first | (with_reducible first | exact HB.out | exact Below.refl _ _ | apply below_alloc | apply pw_below_drewN | apply below_drew1 | apply below_drew | refine below_set ?_ (Aside0.out (by assumption))) | exact HB.out))); rintro e w125 ⟨rfl, hb⟩; refine ⟨_, rfl, ?_⟩; have n0_ := Aside0.mk (below_step (by repeat (first | (with_reducible first | exact HB.out | apply below_alloc | apply pw_below_drewN | apply below_drew1) | exact HB.out)) hb); clear HB; have HB := n0_; clear n0_; (try clear hb); (try clear hb2); (try clear hk); (try clear hi)))
                                          go_ret
                                          exact ⟨by first | rfl | (simp [errW_none, errW_some] <;> rfl) | (simp [*, errW_none, errW_some] <;> rfl), by repeat (first | (with_reducible first | exact HB.out | apply below_alloc | apply pw_below_drewN | apply below_drew1) | exact HB.out)⟩
                                      · rw [if_neg c90] at H
                                        have c90b0 : decide (a3 < a2) = false := decide_eq_false c90
                                        clear c90
                                        by_cases c126 : t197 = true
                                        · subst c126
                                          have H1 : (if t199 = true then (if t203 = true then (if t196 = 0 then (if t198 = (-1) then (some (t202 == 0)) else (some false)) else (some false)) else (some false)) else (some false)) = some r := by rw [if_pos rfl] at H; exact H
                                          clear H
                                          have H := H1
                                          clear H1
                                          by_cases c127 : t199 = true
                                          · subst c127
                                            have H1 : (if t203 = true then (if t196 = 0 then (if t198 = (-1) then (some (t202 == 0)) else (some false)) else (some false)) else (some false)) = some r := by rw [if_pos rfl] at H; exact H
                                            clear H
                                            have H := H1
                                            clear H1
                                            by_cases c128 : t203 = true
                                            · subst c128
                                              have H1 : (if t196 = 0 then (if t198 = (-1) then (some (t202 == 0)) else (some false)) else (some false)) = some r := by rw [if_pos rfl] at H; exact H
                                              clear H
                                              have H := H1
                                              clear H1
                                              by_cases c129 : t196 = 0
                                              · rw [if_pos c129] at H
                                                have c129b0 : (t196 == 0) = true := beq_iff_eq.mpr c129
                                                have c129b1 : (t196 != 0) = false := bne_eq_false_iff_eq.mpr c129
                                                clear c129
                                                by_cases c130 : t198 = (-1)
                                                · rw [if_pos c130] at H
                                                  have c130b0 : (t198 == (-1)) = true := beq_iff_eq.mpr c130
                                                  have c130b1 : (t198 != (-1)) = false := bne_eq_false_iff_eq.mpr c130
                                                  clear c130
                                                  obtain rfl := Option.some.inj H
                                                  go_wp2_with (first | ((with_reducible refine gate_callee (f := 23) rfl ?_); refine goesL_ (some 88) rfl rfl Tryd.func23 (by kernel_rfl) rfl #[.string (a0 ++ (⟨#[46, 48]⟩ : ByteArray)), .string a0] rfl (by (try simp only [List.map_toArray, List.map_cons, List.map_nil]); first | done | rfl | (simp only [List.length_drop, List.length_take]; rfl)) ?_; (with_reducible refine (impl_RubyCompare.calls k4 (a0 ++ (⟨#[46, 48]⟩ : ByteArray)) a0 t196 true _ ?side1 A45.out).mono ?_); (case side1 => first | exact HG.out | exact GW.below HG.out (by repeat (first | (with_reducible first | exact HB.out | exact Below.refl _ _ | apply below_alloc | apply pw_below_drewN | apply below_drew1 | apply below_drew | refine below_set ?_ (Aside0.out (by assumption))) | exact HB.out))); rintro e w131 ⟨rfl, hb⟩; refine ⟨_, rfl, ?_⟩; have n0_ := Aside0.mk (below_step (by repeat (first | (with_reducible first | exact HB.out | apply below_alloc | apply pw_below_drewN | apply below_drew1) | exact HB.out)) hb); clear HB; have HB := n0_; clear n0_; (try clear hb); (try clear hb2); (try clear hk); (try clear hi)) | ((with_reducible refine gate_callee (f := 23) rfl ?_); refine goesL_ (some 97) rfl rfl Tryd.func23 (by kernel_rfl) rfl #[.string ((a0 ++ (⟨#[46]⟩ : ByteArray)) ++ a1), .string a0] rfl (by (try simp only [List.map_toArray, List.map_cons, List.map_nil]); first | done | rfl | (simp only [List.length_drop, List.length_take]; rfl)) ?_; (with_reducible refine (impl_RubyCompare.calls k4 ((a0 ++ (⟨#[46]⟩ : ByteArray)) ++ a1) a0 t198 true _ ?side1 A48.out).mono ?_); (case side1 => first | exact HG.out | exact GW.below HG.out (by repeat (first | (with_reducible first | exact HB.out | exact Below.refl _ _ | apply below_alloc | apply pw_below_drewN | apply below_drew1 | apply below_drew | refine below_set ?_ (Aside0.out (by assumption))) | exact HB.out))); rintro e w132 ⟨rfl, hb⟩; refine ⟨_, rfl, ?_⟩; have n0_ := Aside0.mk (below_step (by repeat (first | (with_reducible first | exact HB.out | apply below_alloc | apply pw_below_drewN | apply below_drew1) | exact HB.out)) hb); clear HB; have HB := n0_; clear n0_; (try clear hb); (try clear hb2); (try clear hk); (try clear hi)) | ((with_reducible refine gate_callee (f := 26) rfl ?_); refine goesL_ (some 107) rfl rfl Tryd.func26 (by kernel_rfl) rfl #[.int .i64 (wrap64 (a2))] rfl (by (try simp only [List.map_toArray, List.map_cons, List.map_nil]); first | done | rfl | (simp only [List.length_drop, List.length_take]; rfl)) ?_; (with_reducible refine (laws_decimal.calls (wrap64 (a2)) t200 _ A49.out).mono ?_); rintro e w133 ⟨rfl, hb⟩; refine ⟨_, rfl, ?_⟩; have n0_ := Aside0.mk (below_step (by repeat (first | (with_reducible first | exact HB.out | apply below_alloc | apply pw_below_drewN | apply below_drew1) | exact HB.out)) hb); clear HB; have HB := n0_; clear n0_; (try clear hb); (try clear hb2); (try clear hk); (try clear hi)) | ((with_reducible refine gate_callee (f := 26) rfl ?_); refine goesL_ (some 115) rfl rfl Tryd.func26 (by kernel_rfl) rfl #[.int .i64 (wrap64 (a3))] rfl (by (try simp only [List.map_toArray, List.map_cons, List.map_nil]); first | done | rfl | (simp only [List.length_drop, List.length_take]; rfl)) ?_; (with_reducible refine (laws_decimal.calls (wrap64 (a3)) t201 _ A51.out).mono ?_); rintro e w134 ⟨rfl, hb⟩; refine ⟨_, rfl, ?_⟩; have n0_ := Aside0.mk (below_step (by repeat (first | (with_reducible first | exact HB.out | apply below_alloc | apply pw_below_drewN | apply below_drew1) | exact HB.out)) hb); clear HB; have HB := n0_; clear n0_; (try clear hb); (try clear hb2); (try clear hk); (try clear hi)) | ((with_reducible refine gate_callee (f := 23) rfl ?_); refine goesL_ (some 117) rfl rfl Tryd.func23 (by kernel_rfl) rfl #[.string (((a0 ++ (⟨#[46]⟩ : ByteArray)) ++ a1) ++ t200), .string (((a0 ++ (⟨#[46]⟩ : ByteArray)) ++ a1) ++ t201)] rfl (by (try simp only [List.map_toArray, List.map_cons, List.map_nil]); first | done | rfl | (simp only [List.length_drop, List.length_take]; rfl)) ?_; (with_reducible refine (impl_RubyCompare.calls k4 (((a0 ++ (⟨#[46]⟩ : ByteArray)) ++ a1) ++ t200) (((a0 ++ (⟨#[46]⟩ : ByteArray)) ++ a1) ++ t201) t202 true _ ?side1 A53.out).mono ?_); (case side1 => first | exact HG.out | exact GW.below HG.out (by repeat (first | (with_reducible first | exact HB.out | exact Below.refl _ _ | apply below_alloc | apply pw_below_drewN | apply below_drew1 | apply below_drew | refine below_set ?_ (Aside0.out (by assumption))) | exact HB.out))); rintro e w135 ⟨rfl, hb⟩; refine ⟨_, rfl, ?_⟩; have n0_ := Aside0.mk (below_step (by repeat (first | (with_reducible first | exact HB.out | apply below_alloc | apply pw_below_drewN | apply below_drew1) | exact HB.out)) hb); clear HB; have HB := n0_; clear n0_; (try clear hb); (try clear hb2); (try clear hk); (try clear hi)))
                                                  go_ret
                                                  exact ⟨by first | rfl | (simp [errW_none, errW_some] <;> rfl) | (simp [*, errW_none, errW_some] <;> rfl), by repeat (first | (with_reducible first | exact HB.out | apply below_alloc | apply pw_below_drewN | apply below_drew1) | exact HB.out)⟩
                                                · rw [if_neg c130] at H
                                                  have c130b0 : (t198 == (-1)) = false := beq_eq_false_iff_ne.mpr c130
                                                  have c130b1 : (t198 != (-1)) = true := bne_iff_ne.mpr c130
                                                  obtain rfl := Option.some.inj H
                                                  go_wp2_with (first | ((with_reducible refine gate_callee (f := 23) rfl ?_); refine goesL_ (some 88) rfl rfl Tryd.func23 (by kernel_rfl) rfl #[.string (a0 ++ (⟨#[46, 48]⟩ : ByteArray)), .string a0] rfl (by (try simp only [List.map_toArray, List.map_cons, List.map_nil]); first | done | rfl | (simp only [List.length_drop, List.length_take]; rfl)) ?_; (with_reducible refine (impl_RubyCompare.calls k4 (a0 ++ (⟨#[46, 48]⟩ : ByteArray)) a0 t196 true _ ?side1 A45.out).mono ?_); (case side1 => first | exact HG.out | exact GW.below HG.out (by repeat (first | (with_reducible first | exact HB.out | exact Below.refl _ _ | apply below_alloc | apply pw_below_drewN | apply below_drew1 | apply below_drew | refine below_set ?_ (Aside0.out (by assumption))) | exact HB.out))); rintro e w136 ⟨rfl, hb⟩; refine ⟨_, rfl, ?_⟩; have n0_ := Aside0.mk (below_step (by repeat (first | (with_reducible first | exact HB.out | apply below_alloc | apply pw_below_drewN | apply below_drew1) | exact HB.out)) hb); clear HB; have HB := n0_; clear n0_; (try clear hb); (try clear hb2); (try clear hk); (try clear hi)) | ((with_reducible refine gate_callee (f := 23) rfl ?_); refine goesL_ (some 97) rfl rfl Tryd.func23 (by kernel_rfl) rfl #[.string ((a0 ++ (⟨#[46]⟩ : ByteArray)) ++ a1), .string a0] rfl (by (try simp only [List.map_toArray, List.map_cons, List.map_nil]); first | done | rfl | (simp only [List.length_drop, List.length_take]; rfl)) ?_; (with_reducible refine (impl_RubyCompare.calls k4 ((a0 ++ (⟨#[46]⟩ : ByteArray)) ++ a1) a0 t198 true _ ?side1 A48.out).mono ?_); (case side1 => first | exact HG.out | exact GW.below HG.out (by repeat (first | (with_reducible first | exact HB.out | exact Below.refl _ _ | apply below_alloc | apply pw_below_drewN | apply below_drew1 | apply below_drew | refine below_set ?_ (Aside0.out (by assumption))) | exact HB.out))); rintro e w137 ⟨rfl, hb⟩; refine ⟨_, rfl, ?_⟩; have n0_ := Aside0.mk (below_step (by repeat (first | (with_reducible first | exact HB.out | apply below_alloc | apply pw_below_drewN | apply below_drew1) | exact HB.out)) hb); clear HB; have HB := n0_; clear n0_; (try clear hb); (try clear hb2); (try clear hk); (try clear hi)) | ((with_reducible refine gate_callee (f := 26) rfl ?_); refine goesL_ (some 107) rfl rfl Tryd.func26 (by kernel_rfl) rfl #[.int .i64 (wrap64 (a2))] rfl (by (try simp only [List.map_toArray, List.map_cons, List.map_nil]); first | done | rfl | (simp only [List.length_drop, List.length_take]; rfl)) ?_; (with_reducible refine (laws_decimal.calls (wrap64 (a2)) t200 _ A49.out).mono ?_); rintro e w138 ⟨rfl, hb⟩; refine ⟨_, rfl, ?_⟩; have n0_ := Aside0.mk (below_step (by repeat (first | (with_reducible first | exact HB.out | apply below_alloc | apply pw_below_drewN | apply below_drew1) | exact HB.out)) hb); clear HB; have HB := n0_; clear n0_; (try clear hb); (try clear hb2); (try clear hk); (try clear hi)) | ((with_reducible refine gate_callee (f := 26) rfl ?_); refine goesL_ (some 115) rfl rfl Tryd.func26 (by kernel_rfl) rfl #[.int .i64 (wrap64 (a3))] rfl (by (try simp only [List.map_toArray, List.map_cons, List.map_nil]); first | done | rfl | (simp only [List.length_drop, List.length_take]; rfl)) ?_; (with_reducible refine (laws_decimal.calls (wrap64 (a3)) t201 _ A51.out).mono ?_); rintro e w139 ⟨rfl, hb⟩; refine ⟨_, rfl, ?_⟩; have n0_ := Aside0.mk (below_step (by repeat (first | (with_reducible first | exact HB.out | apply below_alloc | apply pw_below_drewN | apply below_drew1) | exact HB.out)) hb); clear HB; have HB := n0_; clear n0_; (try clear hb); (try clear hb2); (try clear hk); (try clear hi)) | ((with_reducible refine gate_callee (f := 23) rfl ?_); refine goesL_ (some 117) rfl rfl Tryd.func23 (by kernel_rfl) rfl #[.string (((a0 ++ (⟨#[46]⟩ : ByteArray)) ++ a1) ++ t200), .string (((a0 ++ (⟨#[46]⟩ : ByteArray)) ++ a1) ++ t201)] rfl (by (try simp only [List.map_toArray, List.map_cons, List.map_nil]); first | done | rfl | (simp only [List.length_drop, List.length_take]; rfl)) ?_; (with_reducible refine (impl_RubyCompare.calls k4 (((a0 ++ (⟨#[46]⟩ : ByteArray)) ++ a1) ++ t200) (((a0 ++ (⟨#[46]⟩ : ByteArray)) ++ a1) ++ t201) t202 true _ ?side1 A53.out).mono ?_); (case side1 => first | exact HG.out | exact GW.below HG.out (by repeat (first | (with_reducible first | exact HB.out | exact Below.refl _ _ | apply below_alloc | apply pw_below_drewN | apply below_drew1 | apply below_drew | refine below_set ?_ (Aside0.out (by assumption))) | exact HB.out))); rintro e w140 ⟨rfl, hb⟩; refine ⟨_, rfl, ?_⟩; have n0_ := Aside0.mk (below_step (by repeat (first | (with_reducible first | exact HB.out | apply below_alloc | apply pw_below_drewN | apply below_drew1) | exact HB.out)) hb); clear HB; have HB := n0_; clear n0_; (try clear hb); (try clear hb2); (try clear hk); (try clear hi)))
                                                  go_ret
                                                  exact ⟨by first | rfl | (simp [errW_none, errW_some] <;> rfl) | (simp [*, errW_none, errW_some] <;> rfl), by repeat (first | (with_reducible first | exact HB.out | apply below_alloc | apply pw_below_drewN | apply below_drew1) | exact HB.out)⟩
                                              · rw [if_neg c129] at H
                                                have c129b0 : (t196 == 0) = false := beq_eq_false_iff_ne.mpr c129
                                                have c129b1 : (t196 != 0) = true := bne_iff_ne.mpr c129
                                                obtain rfl := Option.some.inj H
                                                go_wp2_with (first | ((with_reducible refine gate_callee (f := 23) rfl ?_); refine goesL_ (some 88) rfl rfl Tryd.func23 (by kernel_rfl) rfl #[.string (a0 ++ (⟨#[46, 48]⟩ : ByteArray)), .string a0] rfl (by (try simp only [List.map_toArray, List.map_cons, List.map_nil]); first | done | rfl | (simp only [List.length_drop, List.length_take]; rfl)) ?_; (with_reducible refine (impl_RubyCompare.calls k4 (a0 ++ (⟨#[46, 48]⟩ : ByteArray)) a0 t196 true _ ?side1 A45.out).mono ?_); (case side1 => first | exact HG.out | exact GW.below HG.out (by repeat (first | (with_reducible first | exact HB.out | exact Below.refl _ _ | apply below_alloc | apply pw_below_drewN | apply below_drew1 | apply below_drew | refine below_set ?_ (Aside0.out (by assumption))) | exact HB.out))); rintro e w141 ⟨rfl, hb⟩; refine ⟨_, rfl, ?_⟩; have n0_ := Aside0.mk (below_step (by repeat (first | (with_reducible first | exact HB.out | apply below_alloc | apply pw_below_drewN | apply below_drew1) | exact HB.out)) hb); clear HB; have HB := n0_; clear n0_; (try clear hb); (try clear hb2); (try clear hk); (try clear hi)) | ((with_reducible refine gate_callee (f := 23) rfl ?_); refine goesL_ (some 97) rfl rfl Tryd.func23 (by kernel_rfl) rfl #[.string ((a0 ++ (⟨#[46]⟩ : ByteArray)) ++ a1), .string a0] rfl (by (try simp only [List.map_toArray, List.map_cons, List.map_nil]); first | done | rfl | (simp only [List.length_drop, List.length_take]; rfl)) ?_; (with_reducible refine (impl_RubyCompare.calls k4 ((a0 ++ (⟨#[46]⟩ : ByteArray)) ++ a1) a0 t198 true _ ?side1 A48.out).mono ?_); (case side1 => first | exact HG.out | exact GW.below HG.out (by repeat (first | (with_reducible first | exact HB.out | exact Below.refl _ _ | apply below_alloc | apply pw_below_drewN | apply below_drew1 | apply below_drew | refine below_set ?_ (Aside0.out (by assumption))) | exact HB.out))); rintro e w142 ⟨rfl, hb⟩; refine ⟨_, rfl, ?_⟩; have n0_ := Aside0.mk (below_step (by repeat (first | (with_reducible first | exact HB.out | apply below_alloc | apply pw_below_drewN | apply below_drew1) | exact HB.out)) hb); clear HB; have HB := n0_; clear n0_; (try clear hb); (try clear hb2); (try clear hk); (try clear hi)) | ((with_reducible refine gate_callee (f := 26) rfl ?_); refine goesL_ (some 107) rfl rfl Tryd.func26 (by kernel_rfl) rfl #[.int .i64 (wrap64 (a2))] rfl (by (try simp only [List.map_toArray, List.map_cons, List.map_nil]); first | done | rfl | (simp only [List.length_drop, List.length_take]; rfl)) ?_; (with_reducible refine (laws_decimal.calls (wrap64 (a2)) t200 _ A49.out).mono ?_); rintro e w143 ⟨rfl, hb⟩; refine ⟨_, rfl, ?_⟩; have n0_ := Aside0.mk (below_step (by repeat (first | (with_reducible first | exact HB.out | apply below_alloc | apply pw_below_drewN | apply below_drew1) | exact HB.out)) hb); clear HB; have HB := n0_; clear n0_; (try clear hb); (try clear hb2); (try clear hk); (try clear hi)) | ((with_reducible refine gate_callee (f := 26) rfl ?_); refine goesL_ (some 115) rfl rfl Tryd.func26 (by kernel_rfl) rfl #[.int .i64 (wrap64 (a3))] rfl (by (try simp only [List.map_toArray, List.map_cons, List.map_nil]); first | done | rfl | (simp only [List.length_drop, List.length_take]; rfl)) ?_; (with_reducible refine (laws_decimal.calls (wrap64 (a3)) t201 _ A51.out).mono ?_); rintro e w144 ⟨rfl, hb⟩; refine ⟨_, rfl, ?_⟩; have n0_ := Aside0.mk (below_step (by repeat (first | (with_reducible first | exact HB.out | apply below_alloc | apply pw_below_drewN | apply below_drew1) | exact HB.out)) hb); clear HB; have HB := n0_; clear n0_; (try clear hb); (try clear hb2); (try clear hk); (try clear hi)) | ((with_reducible refine gate_callee (f := 23) rfl ?_); refine goesL_ (some 117) rfl rfl Tryd.func23 (by kernel_rfl) rfl #[.string (((a0 ++ (⟨#[46]⟩ : ByteArray)) ++ a1) ++ t200), .string (((a0 ++ (⟨#[46]⟩ : ByteArray)) ++ a1) ++ t201)] rfl (by (try simp only [List.map_toArray, List.map_cons, List.map_nil]); first | done | rfl | (simp only [List.length_drop, List.length_take]; rfl)) ?_; (with_reducible refine (impl_RubyCompare.calls k4 (((a0 ++ (⟨#[46]⟩ : ByteArray)) ++ a1) ++ t200) (((a0 ++ (⟨#[46]⟩ : ByteArray)) ++ a1) ++ t201) t202 true _ ?side1 A53.out).mono ?_); (case side1 => first | exact HG.out | exact GW.below HG.out (by repeat (first | (with_reducible first | exact HB.out | exact Below.refl _ _ | apply below_alloc | apply pw_below_drewN | apply below_drew1 | apply below_drew | refine below_set ?_ (Aside0.out (by assumption))) | exact HB.out))); rintro e w145 ⟨rfl, hb⟩; refine ⟨_, rfl, ?_⟩; have n0_ := Aside0.mk (below_step (by repeat (first | (with_reducible first | exact HB.out | apply below_alloc | apply pw_below_drewN | apply below_drew1) | exact HB.out)) hb); clear HB; have HB := n0_; clear n0_; (try clear hb); (try clear hb2); (try clear hk); (try clear hi)))
                                                go_ret
                                                exact ⟨by first | rfl | (simp [errW_none, errW_some] <;> rfl) | (simp [*, errW_none, errW_some] <;> rfl), by repeat (first | (with_reducible first | exact HB.out | apply below_alloc | apply pw_below_drewN | apply below_drew1) | exact HB.out)⟩
                                            · replace c128 := Bool.eq_false_iff.mpr c128
                                              subst c128
                                              have H1 : (some false) = some r := by rw [if_neg (show ¬ (false = true) by decide)] at H; exact H
                                              clear H
                                              have H := H1
                                              clear H1
                                              obtain rfl := Option.some.inj H
                                              go_wp2_with (first | ((with_reducible refine gate_callee (f := 23) rfl ?_); refine goesL_ (some 88) rfl rfl Tryd.func23 (by kernel_rfl) rfl #[.string (a0 ++ (⟨#[46, 48]⟩ : ByteArray)), .string a0] rfl (by (try simp only [List.map_toArray, List.map_cons, List.map_nil]); first | done | rfl | (simp only [List.length_drop, List.length_take]; rfl)) ?_; (with_reducible refine (impl_RubyCompare.calls k4 (a0 ++ (⟨#[46, 48]⟩ : ByteArray)) a0 t196 true _ ?side1 A45.out).mono ?_); (case side1 => first | exact HG.out | exact GW.below HG.out (by repeat (first | (with_reducible first | exact HB.out | exact Below.refl _ _ | apply below_alloc | apply pw_below_drewN | apply below_drew1 | apply below_drew | refine below_set ?_ (Aside0.out (by assumption))) | exact HB.out))); rintro e w146 ⟨rfl, hb⟩; refine ⟨_, rfl, ?_⟩; have n0_ := Aside0.mk (below_step (by repeat (first | (with_reducible first | exact HB.out | apply below_alloc | apply pw_below_drewN | apply below_drew1) | exact HB.out)) hb); clear HB; have HB := n0_; clear n0_; (try clear hb); (try clear hb2); (try clear hk); (try clear hi)) | ((with_reducible refine gate_callee (f := 23) rfl ?_); refine goesL_ (some 97) rfl rfl Tryd.func23 (by kernel_rfl) rfl #[.string ((a0 ++ (⟨#[46]⟩ : ByteArray)) ++ a1), .string a0] rfl (by (try simp only [List.map_toArray, List.map_cons, List.map_nil]); first | done | rfl | (simp only [List.length_drop, List.length_take]; rfl)) ?_; (with_reducible refine (impl_RubyCompare.calls k4 ((a0 ++ (⟨#[46]⟩ : ByteArray)) ++ a1) a0 t198 true _ ?side1 A48.out).mono ?_); (case side1 => first | exact HG.out | exact GW.below HG.out (by repeat (first | (with_reducible first | exact HB.out | exact Below.refl _ _ | apply below_alloc | apply pw_below_drewN | apply below_drew1 | apply below_drew | refine below_set ?_ (Aside0.out (by assumption))) | exact HB.out))); rintro e w147 ⟨rfl, hb⟩; refine ⟨_, rfl, ?_⟩; have n0_ := Aside0.mk (below_step (by repeat (first | (with_reducible first | exact HB.out | apply below_alloc | apply pw_below_drewN | apply below_drew1) | exact HB.out)) hb); clear HB; have HB := n0_; clear n0_; (try clear hb); (try clear hb2); (try clear hk); (try clear hi)) | ((with_reducible refine gate_callee (f := 26) rfl ?_); refine goesL_ (some 107) rfl rfl Tryd.func26 (by kernel_rfl) rfl #[.int .i64 (wrap64 (a2))] rfl (by (try simp only [List.map_toArray, List.map_cons, List.map_nil]); first | done | rfl | (simp only [List.length_drop, List.length_take]; rfl)) ?_; (with_reducible refine (laws_decimal.calls (wrap64 (a2)) t200 _ A49.out).mono ?_); rintro e w148 ⟨rfl, hb⟩; refine ⟨_, rfl, ?_⟩; have n0_ := Aside0.mk (below_step (by repeat (first | (with_reducible first | exact HB.out | apply below_alloc | apply pw_below_drewN | apply below_drew1) | exact HB.out)) hb); clear HB; have HB := n0_; clear n0_; (try clear hb); (try clear hb2); (try clear hk); (try clear hi)) | ((with_reducible refine gate_callee (f := 26) rfl ?_); refine goesL_ (some 115) rfl rfl Tryd.func26 (by kernel_rfl) rfl #[.int .i64 (wrap64 (a3))] rfl (by (try simp only [List.map_toArray, List.map_cons, List.map_nil]); first | done | rfl | (simp only [List.length_drop, List.length_take]; rfl)) ?_; (with_reducible refine (laws_decimal.calls (wrap64 (a3)) t201 _ A51.out).mono ?_); rintro e w149 ⟨rfl, hb⟩; refine ⟨_, rfl, ?_⟩; have n0_ := Aside0.mk (below_step (by repeat (first | (with_reducible first | exact HB.out | apply below_alloc | apply pw_below_drewN | apply below_drew1) | exact HB.out)) hb); clear HB; have HB := n0_; clear n0_; (try clear hb); (try clear hb2); (try clear hk); (try clear hi)) | ((with_reducible refine gate_callee (f := 23) rfl ?_); refine goesL_ (some 117) rfl rfl Tryd.func23 (by kernel_rfl) rfl #[.string (((a0 ++ (⟨#[46]⟩ : ByteArray)) ++ a1) ++ t200), .string (((a0 ++ (⟨#[46]⟩ : ByteArray)) ++ a1) ++ t201)] rfl (by (try simp only [List.map_toArray, List.map_cons, List.map_nil]); first | done | rfl | (simp only [List.length_drop, List.length_take]; rfl)) ?_; (with_reducible refine (impl_RubyCompare.calls k4 (((a0 ++ (⟨#[46]⟩ : ByteArray)) ++ a1) ++ t200) (((a0 ++ (⟨#[46]⟩ : ByteArray)) ++ a1) ++ t201) t202 false _ ?side1 A53.out).mono ?_); (case side1 => first | exact HG.out | exact GW.below HG.out (by repeat (first | (with_reducible first | exact HB.out | exact Below.refl _ _ | apply below_alloc | apply pw_below_drewN | apply below_drew1 | apply below_drew | refine below_set ?_ (Aside0.out (by assumption))) | exact HB.out))); rintro e w150 ⟨rfl, hb⟩; refine ⟨_, rfl, ?_⟩; have n0_ := Aside0.mk (below_step (by repeat (first | (with_reducible first | exact HB.out | apply below_alloc | apply pw_below_drewN | apply below_drew1) | exact HB.out)) hb); clear HB; have HB := n0_; clear n0_; (try clear hb); (try clear hb2); (try clear hk); (try clear hi)))
                                              go_ret
                                              exact ⟨by first | rfl | (simp [errW_none, errW_some] <;> rfl) | (simp [*, errW_none, errW_some] <;> rfl), by repeat (first | (with_reducible first | exact HB.out | apply below_alloc | apply pw_below_drewN | apply below_drew1) | exact HB.out)⟩
                                          · replace c127 := Bool.eq_false_iff.mpr c127
                                            subst c127
                                            have H1 : (some false) = some r := by rw [if_neg (show ¬ (false = true) by decide)] at H; exact H
                                            clear H
                                            have H := H1
                                            clear H1
                                            obtain rfl := Option.some.inj H
                                            go_wp2_with (first | ((with_reducible refine gate_callee (f := 23) rfl ?_); refine goesL_ (some 88) rfl rfl Tryd.func23 (by kernel_rfl) rfl #[.string (a0 ++ (⟨#[46, 48]⟩ : ByteArray)), .string a0] rfl (by (try simp only [List.map_toArray, List.map_cons, List.map_nil]); first | done | rfl | (simp only [List.length_drop, List.length_take]; rfl)) ?_; (with_reducible refine (impl_RubyCompare.calls k4 (a0 ++ (⟨#[46, 48]⟩ : ByteArray)) a0 t196 true _ ?side1 A45.out).mono ?_); (case side1 => first | exact HG.out | exact GW.below HG.out (by repeat (first | (with_reducible first | exact HB.out | exact Below.refl _ _ | apply below_alloc | apply pw_below_drewN | apply below_drew1 | apply below_drew | refine below_set ?_ (Aside0.out (by assumption))) | exact HB.out))); rintro e w151 ⟨rfl, hb⟩; refine ⟨_, rfl, ?_⟩; have n0_ := Aside0.mk (below_step (by repeat (first | (with_reducible first | exact HB.out | apply below_alloc | apply pw_below_drewN | apply below_drew1) | exact HB.out)) hb); clear HB; have HB := n0_; clear n0_; (try clear hb); (try clear hb2); (try clear hk); (try clear hi)) | ((with_reducible refine gate_callee (f := 23) rfl ?_); refine goesL_ (some 97) rfl rfl Tryd.func23 (by kernel_rfl) rfl #[.string ((a0 ++ (⟨#[46]⟩ : ByteArray)) ++ a1), .string a0] rfl (by (try simp only [List.map_toArray, List.map_cons, List.map_nil]); first | done | rfl | (simp only [List.length_drop, List.length_take]; rfl)) ?_; (with_reducible refine (impl_RubyCompare.calls k4 ((a0 ++ (⟨#[46]⟩ : ByteArray)) ++ a1) a0 t198 false _ ?side1 A48.out).mono ?_); (case side1 => first | exact HG.out | exact GW.below HG.out (by repeat (first | (with_reducible first | exact HB.out | exact Below.refl _ _ | apply below_alloc | apply pw_below_drewN | apply below_drew1 | apply below_drew | refine below_set ?_ (Aside0.out (by assumption))) | exact HB.out))); rintro e w152 ⟨rfl, hb⟩; refine ⟨_, rfl, ?_⟩; have n0_ := Aside0.mk (below_step (by repeat (first | (with_reducible first | exact HB.out | apply below_alloc | apply pw_below_drewN | apply below_drew1) | exact HB.out)) hb); clear HB; have HB := n0_; clear n0_; (try clear hb); (try clear hb2); (try clear hk); (try clear hi)) | ((with_reducible refine gate_callee (f := 26) rfl ?_); refine goesL_ (some 107) rfl rfl Tryd.func26 (by kernel_rfl) rfl #[.int .i64 (wrap64 (a2))] rfl (by (try simp only [List.map_toArray, List.map_cons, List.map_nil]); first | done | rfl | (simp only [List.length_drop, List.length_take]; rfl)) ?_; (with_reducible refine (laws_decimal.calls (wrap64 (a2)) t200 _ A49.out).mono ?_); rintro e w153 ⟨rfl, hb⟩; refine ⟨_, rfl, ?_⟩; have n0_ := Aside0.mk (below_step (by repeat (first | (with_reducible first | exact HB.out | apply below_alloc | apply pw_below_drewN | apply below_drew1) | exact HB.out)) hb); clear HB; have HB := n0_; clear n0_; (try clear hb); (try clear hb2); (try clear hk); (try clear hi)) | ((with_reducible refine gate_callee (f := 26) rfl ?_); refine goesL_ (some 115) rfl rfl Tryd.func26 (by kernel_rfl) rfl #[.int .i64 (wrap64 (a3))] rfl (by (try simp only [List.map_toArray, List.map_cons, List.map_nil]); first | done | rfl | (simp only [List.length_drop, List.length_take]; rfl)) ?_; (with_reducible refine (laws_decimal.calls (wrap64 (a3)) t201 _ A51.out).mono ?_); rintro e w154 ⟨rfl, hb⟩; refine ⟨_, rfl, ?_⟩; have n0_ := Aside0.mk (below_step (by repeat (first | (with_reducible first | exact HB.out | apply below_alloc | apply pw_below_drewN | apply below_drew1) | exact HB.out)) hb); clear HB; have HB := n0_; clear n0_; (try clear hb); (try clear hb2); (try clear hk); (try clear hi)) | ((with_reducible refine gate_callee (f := 23) rfl ?_); refine goesL_ (some 117) rfl rfl Tryd.func23 (by kernel_rfl) rfl #[.string (((a0 ++ (⟨#[46]⟩ : ByteArray)) ++ a1) ++ t200), .string (((a0 ++ (⟨#[46]⟩ : ByteArray)) ++ a1) ++ t201)] rfl (by (try simp only [List.map_toArray, List.map_cons, List.map_nil]); first | done | rfl | (simp only [List.length_drop, List.length_take]; rfl)) ?_; (with_reducible refine (impl_RubyCompare.calls k4 (((a0 ++ (⟨#[46]⟩ : ByteArray)) ++ a1) ++ t200) (((a0 ++ (⟨#[46]⟩ : ByteArray)) ++ a1) ++ t201) t202 t203 _ ?side1 A53.out).mono ?_); (case side1 => first | exact HG.out | exact GW.below HG.out (by repeat (first | (with_reducible first | exact HB.out | exact Below.refl _ _ | apply below_alloc | apply pw_below_drewN | apply below_drew1 | apply below_drew | refine below_set ?_ (Aside0.out (by assumption))) | exact HB.out))); rintro e w155 ⟨rfl, hb⟩; refine ⟨_, rfl, ?_⟩; have n0_ := Aside0.mk (below_step (by repeat (first | (with_reducible first | exact HB.out | apply below_alloc | apply pw_below_drewN | apply below_drew1) | exact HB.out)) hb); clear HB; have HB := n0_; clear n0_; (try clear hb); (try clear hb2); (try clear hk); (try clear hi)))
                                            go_ret
                                            exact ⟨by first | rfl | (simp [errW_none, errW_some] <;> rfl) | (simp [*, errW_none, errW_some] <;> rfl), by repeat (first | (with_reducible first | exact HB.out | apply below_alloc | apply pw_below_drewN | apply below_drew1) | exact HB.out)⟩
                                        · replace c126 := Bool.eq_false_iff.mpr c126
                                          subst c126
                                          have H1 : (some false) = some r := by rw [if_neg (show ¬ (false = true) by decide)] at H; exact H
                                          clear H
                                          have H := H1
                                          clear H1
                                          obtain rfl := Option.some.inj H
                                          go_wp2_with (first | ((with_reducible refine gate_callee (f := 23) rfl ?_); refine goesL_ (some 88) rfl rfl Tryd.func23 (by kernel_rfl) rfl #[.string (a0 ++ (⟨#[46, 48]⟩ : ByteArray)), .string a0] rfl (by (try simp only [List.map_toArray, List.map_cons, List.map_nil]); first | done | rfl | (simp only [List.length_drop, List.length_take]; rfl)) ?_; (with_reducible refine (impl_RubyCompare.calls k4 (a0 ++ (⟨#[46, 48]⟩ : ByteArray)) a0 t196 false _ ?side1 A45.out).mono ?_); (case side1 => first | exact HG.out | exact GW.below HG.out (by repeat (first | (with_reducible first | exact HB.out | exact Below.refl _ _ | apply below_alloc | apply pw_below_drewN | apply below_drew1 | apply below_drew | refine below_set ?_ (Aside0.out (by assumption))) | exact HB.out))); rintro e w156 ⟨rfl, hb⟩; refine ⟨_, rfl, ?_⟩; have n0_ := Aside0.mk (below_step (by repeat (first | (with_reducible first | exact HB.out | apply below_alloc | apply pw_below_drewN | apply below_drew1) | exact HB.out)) hb); clear HB; have HB := n0_; clear n0_; (try clear hb); (try clear hb2); (try clear hk); (try clear hi)) | ((with_reducible refine gate_callee (f := 23) rfl ?_); refine goesL_ (some 97) rfl rfl Tryd.func23 (by kernel_rfl) rfl #[.string ((a0 ++ (⟨#[46]⟩ : ByteArray)) ++ a1), .string a0] rfl (by (try simp only [List.map_toArray, List.map_cons, List.map_nil]); first | done | rfl | (simp only [List.length_drop, List.length_take]; rfl)) ?_; (with_reducible refine (impl_RubyCompare.calls k4 ((a0 ++ (⟨#[46]⟩ : ByteArray)) ++ a1) a0 t198 t199 _ ?side1 A48.out).mono ?_); (case side1 => first | exact HG.out | exact GW.below HG.out (by repeat (first | (with_reducible first | exact HB.out | exact Below.refl _ _ | apply below_alloc | apply pw_below_drewN | apply below_drew1 | apply below_drew | refine below_set ?_ (Aside0.out (by assumption))) | exact HB.out))); rintro e w157 ⟨rfl, hb⟩; refine ⟨_, rfl, ?_⟩; have n0_ := Aside0.mk (below_step (by repeat (first | (with_reducible first | exact HB.out | apply below_alloc | apply pw_below_drewN | apply below_drew1) | exact HB.out)) hb); clear HB; have HB := n0_; clear n0_; (try clear hb); (try clear hb2); (try clear hk); (try clear hi)) | ((with_reducible refine gate_callee (f := 26) rfl ?_); refine goesL_ (some 107) rfl rfl Tryd.func26 (by kernel_rfl) rfl #[.int .i64 (wrap64 (a2))] rfl (by (try simp only [List.map_toArray, List.map_cons, List.map_nil]); first | done | rfl | (simp only [List.length_drop, List.length_take]; rfl)) ?_; (with_reducible refine (laws_decimal.calls (wrap64 (a2)) t200 _ A49.out).mono ?_); rintro e w158 ⟨rfl, hb⟩; refine ⟨_, rfl, ?_⟩; have n0_ := Aside0.mk (below_step (by repeat (first | (with_reducible first | exact HB.out | apply below_alloc | apply pw_below_drewN | apply below_drew1) | exact HB.out)) hb); clear HB; have HB := n0_; clear n0_; (try clear hb); (try clear hb2); (try clear hk); (try clear hi)) | ((with_reducible refine gate_callee (f := 26) rfl ?_); refine goesL_ (some 115) rfl rfl Tryd.func26 (by kernel_rfl) rfl #[.int .i64 (wrap64 (a3))] rfl (by (try simp only [List.map_toArray, List.map_cons, List.map_nil]); first | done | rfl | (simp only [List.length_drop, List.length_take]; rfl)) ?_; (with_reducible refine (laws_decimal.calls (wrap64 (a3)) t201 _ A51.out).mono ?_); rintro e w159 ⟨rfl, hb⟩; refine ⟨_, rfl, ?_⟩; have n0_ := Aside0.mk (below_step (by repeat (first | (with_reducible first | exact HB.out | apply below_alloc | apply pw_below_drewN | apply below_drew1) | exact HB.out)) hb); clear HB; have HB := n0_; clear n0_; (try clear hb); (try clear hb2); (try clear hk); (try clear hi)) | ((with_reducible refine gate_callee (f := 23) rfl ?_); refine goesL_ (some 117) rfl rfl Tryd.func23 (by kernel_rfl) rfl #[.string (((a0 ++ (⟨#[46]⟩ : ByteArray)) ++ a1) ++ t200), .string (((a0 ++ (⟨#[46]⟩ : ByteArray)) ++ a1) ++ t201)] rfl (by (try simp only [List.map_toArray, List.map_cons, List.map_nil]); first | done | rfl | (simp only [List.length_drop, List.length_take]; rfl)) ?_; (with_reducible refine (impl_RubyCompare.calls k4 (((a0 ++ (⟨#[46]⟩ : ByteArray)) ++ a1) ++ t200) (((a0 ++ (⟨#[46]⟩ : ByteArray)) ++ a1) ++ t201) t202 t203 _ ?side1 A53.out).mono ?_); (case side1 => first | exact HG.out | exact GW.below HG.out (by repeat (first | (with_reducible first | exact HB.out | exact Below.refl _ _ | apply below_alloc | apply pw_below_drewN | apply below_drew1 | apply below_drew | refine below_set ?_ (Aside0.out (by assumption))) | exact HB.out))); rintro e w160 ⟨rfl, hb⟩; refine ⟨_, rfl, ?_⟩; have n0_ := Aside0.mk (below_step (by repeat (first | (with_reducible first | exact HB.out | apply below_alloc | apply pw_below_drewN | apply below_drew1) | exact HB.out)) hb); clear HB; have HB := n0_; clear n0_; (try clear hb); (try clear hb2); (try clear hk); (try clear hi)))
                                          go_ret
                                          exact ⟨by first | rfl | (simp [errW_none, errW_some] <;> rfl) | (simp [*, errW_none, errW_some] <;> rfl), by repeat (first | (with_reducible first | exact HB.out | apply below_alloc | apply pw_below_drewN | apply below_drew1) | exact HB.out)⟩
                                  · rw [if_neg c52] at H
                                    exact absurd H (by simp)
                                · rw [if_neg c50] at H
                                  exact absurd H (by simp)
                              · rw [if_neg c47] at H
                                exact absurd H (by simp)
                            · rw [if_neg c46] at H
                              exact absurd H (by simp)
                          · rw [if_neg c44] at H
                            exact absurd H (by simp)

/-- THE ONE PURE STATEMENT of laws_FnRubyBehind. -/
def laws_FnRubyBehind.Pure : Prop := ∀ (a0 : ByteArray) (a1 : ByteArray) (a2 : Int) (a3 : Int), a0.size ≤ 140737488351232 → a1.size ≤ 140737488351232 → (Lit.int .u16 a2).wf = true → (Lit.int .u16 a3).wf = true → ∃ k, laws_FnRubyBehind.f k a0 a1 a2 a3 = some true
theorem laws_FnRubyBehind.walk (P : laws_FnRubyBehind.Pure) (a0 : ByteArray) (a1 : ByteArray) (a2 : Int) (a3 : Int) (w : World) (hm0 : a0.size ≤ 140737488351232) (hm1 : a1.size ≤ 140737488351232) (hm2 : (Lit.int .u16 a2).wf = true) (hm3 : (Lit.int .u16 a3).wf = true) (hG : GW w) :
    Calls Tryd.prog 8 #[.string a0, .string a1, .int .u16 a2, .int .u16 a3] w fun e w' => e = .returned (.bool true) ∧ Below w.heap.size w w' := by
  obtain ⟨k, h⟩ := P a0 a1 a2 a3 hm0 hm1 hm2 hm3
  refine (laws_FnRubyBehind.calls k a0 a1 a2 a3 true w hG h).mono ?_
  rintro e w' ⟨rfl, hd⟩
  exact ⟨rfl, hd⟩

end Go.Proofs.YtmhlmkefnmdbcaaDoor.Z
