-- Written by a program of this session (myprint.py).
import Derived.Test.YtkcciinapkeaiaaDoorZ0
import Derived.Test.YtkcciinapkeaiaaDoorGe
namespace Go.Proofs.YtkcciinapkeaiaaDoor.Z
open Go.Proofs.YtkcciinapkeaiaaDoor.Gw
open Go.RowKit Go.Proofs.YtkcciinapkeaiaaDoorW.PrintWords Go.Proofs.YtkcciinapkeaiaaDoorW.PrintLast Go.Proofs.YtkcciinapkeaiaaDoorW.PrintMore
attribute [local go_sem high] Go.Proofs.YtkcciinapkeaiaaDoor.Ge.gtr_str
attribute [local go_sem] max2_int min2_int max_two min_two max_three min_three max_four min_four   -- for this text's walks alone
set_option linter.unusedVariables false
set_option linter.unusedSimpArgs false

/-! ### laws_short: function 8 -/
def laws_short.l0 : Nat → List ByteArray → List ByteArray → Int → Int → Option (Bool)
 | 0, _, _, _, _ => none
 | k + 1, x0, x5, x6, x7 => if x7 < x6 then (if 0 ≤ x7 then (if x7 < (x5.length : Int) then (if ((rdOf ByteArray.empty x5 x7).size : Int) > 1500 then (some false) else (laws_short.l0 k x0 x5 x6 (wrap64 (x7 + 1)))) else (none)) else (none)) else (some (decide ((x0.length : Int) ≤ 150)))
def laws_short.f (k : Nat) (l0 : List ByteArray) : Option (Bool) := laws_short.l0 k l0 l0 (l0.length : Int) 0
theorem laws_short.mono_l : ∀ k, (∀ y0 y1 y2 y3, LeO (laws_short.l0 k y0 y1 y2 y3) (laws_short.l0 (k + 1) y0 y1 y2 y3))
 | 0 => fun _ _ _ _ r h => by simp [laws_short.l0] at h
 | k + 1 => by
  have ih0 := laws_short.mono_l k
  ·intro y0 y1 y2 y3
   unfold laws_short.l0
   repeat' first
   | (with_reducible exact ih0 _ _ _ _)
   | (with_reducible exact LeO.refl _)
   | (with_reducible exact LeO.none _)
   | (with_reducible refine LeO.ite ?_ ?_)
   | (with_reducible refine LeO.bind ?_ (fun _ => ?_))
   | exact ih0 _ _ _ _
   | exact LeO.none _
   | refine LeO.ite ?_ ?_
   | refine LeO.bind ?_ (fun _ => ?_)
theorem laws_short.mono : ∀ a0 k, LeO (laws_short.f k a0) (laws_short.f (k + 1) a0) := by
 intro a0 k
 have ih0 := laws_short.mono_l k
 unfold laws_short.f
 repeat' first
   | (with_reducible exact ih0 _ _ _ _)
   | (with_reducible exact LeO.refl _)
   | (with_reducible exact LeO.none _)
   | (with_reducible refine LeO.ite ?_ ?_)
   | (with_reducible refine LeO.bind ?_ (fun _ => ?_))
   | exact ih0 _ _ _ _
   | exact LeO.none _
   | refine LeO.ite ?_ ?_
   | refine LeO.bind ?_ (fun _ => ?_)
set_option maxHeartbeats 8000000 in
set_option maxRecDepth 100000 in
theorem laws_short.calls (k : Nat) (A0 : Option Addr) (c0 : Nat) (l0 : List ByteArray) (r : Bool) (w : World) (hr0 : Kd.C Kd.string w A0 l0.length l0) (hc0 : l0.length ≤ c0) (h : laws_short.f k l0 = some r) :
  Calls Tryd.prog 8 #[.slice A0 l0.length c0] w fun e w' => e = .returned (.bool r) ∧ Drawn0 w w' := by
 have HR0 := Aside0.mk hr0
 have HC0 := Aside0.mk hc0
 clear hr0 hc0
 have H : (laws_short.l0 k l0 l0 (l0.length : Int) 0) = some r := h
 clear h
 have H' := Aside0.mk H
 clear H
 go_enter Tryd.func8, Tryd.ntmps8
 go_wp2
 go_loopg [7] k (fun kq v7 w' => ∃ (x7_1 : Int), v7 = .int .i64 x7_1 ∧ Aside0 (laws_short.l0 kq l0 l0 (l0.length : Int) x7_1 = some r) ∧ Aside0 (kq ≤ k) ∧ Drawn0 w w')
 case atStart => exact ⟨(0), (by first | rfl | (simp; done) | (simp [*]; done)), H', ⟨Nat.le_refl _⟩, by repeat (first | exact Drawn0.refl _ | apply Drawn0.step)⟩
 case round =>
  clear H'
  obtain ⟨x7_1, rfl, HA, HK1, ⟨m1, rfl⟩⟩ := hrel
  cases gk with
  | zero => exact absurd HA.out (by simp [laws_short.l0])
  | succ k1 =>
   have H := HA.out
   clear HA
   simp only [laws_short.l0] at H
   by_cases c2 : x7_1 < (l0.length : Int)
   ·rw [if_pos c2] at H
    have c2b0 : decide (x7_1 < (l0.length : Int)) = true := decide_eq_true c2
    clear c2
    by_cases c3 : 0 ≤ x7_1
    ·rw [if_pos c3] at H
     have c3b0 : decide (0 ≤ x7_1) = true := decide_eq_true c3
     clear c3
     by_cases c4 : x7_1 < (l0.length : Int)
     ·rw [if_pos c4] at H
      have c4b0 : decide (x7_1 < (l0.length : Int)) = true := decide_eq_true c4
      clear c4
      by_cases c5 : ((rdOf ByteArray.empty l0 x7_1).size : Int) > 1500
      ·rw [if_pos c5] at H
       have c5b0 : decide (1500 < ((rdOf ByteArray.empty l0 x7_1).size : Int)) = true := decide_eq_true c5
       have c5b1 : decide (1500 < (rdOf ByteArray.empty l0 x7_1).size) = true := decide_eq_true (by omega)
       clear c5
       obtain rfl := Option.some.inj H
       have p101 : 0 ≤ (x7_1 : Int) := of_decide_eq_true (by first | (with_reducible assumption) | assumption)
       have q101 : x7_1 < (l0.length : Int) := of_decide_eq_true (by first | (with_reducible assumption) | assumption)
       obtain ⟨ad101, e101, hx101_0⟩ := Kd.at_string HR0.out x7_1 p101 q101
       cases e101
       replace p101 := eq_true p101
       replace q101 := eq_true q101
       go_wp2
       go_ret
       exact ⟨by first | rfl | (simp; done) | (simp [*]; done), by repeat (first | exact Drawn0.refl _ | apply Drawn0.step)⟩
      ·rw [if_neg c5] at H
       have c5b0 : decide (1500 < ((rdOf ByteArray.empty l0 x7_1).size : Int)) = false := decide_eq_false c5
       have c5b1 : decide (1500 < (rdOf ByteArray.empty l0 x7_1).size) = false := decide_eq_false (by omega)
       clear c5
       have H' := Aside0.mk H
       clear H
       have p101 : 0 ≤ (x7_1 : Int) := of_decide_eq_true (by first | (with_reducible assumption) | assumption)
       have q101 : x7_1 < (l0.length : Int) := of_decide_eq_true (by first | (with_reducible assumption) | assumption)
       obtain ⟨ad101, e101, hx101_0⟩ := Kd.at_string HR0.out x7_1 p101 q101
       cases e101
       replace p101 := eq_true p101
       replace q101 := eq_true q101
       go_wp2
       go_roundg k1
       case measure => have := HK1.out; omega
       case rel => exact ⟨(wrap64 (x7_1 + 1)), (by first | rfl | (simp; done) | (simp [*]; done)), H', ⟨by have := HK1.out; omega⟩, by repeat (first | exact Drawn0.refl _ | apply Drawn0.step)⟩
     ·rw [if_neg c4] at H
      exact absurd H (by simp)
    ·rw [if_neg c3] at H
     exact absurd H (by simp)
   ·rw [if_neg c2] at H
    have c2b0 : decide (x7_1 < (l0.length : Int)) = false := decide_eq_false c2
    clear c2
    obtain rfl := Option.some.inj H
    go_wp2
    go_ret
    exact ⟨by first | rfl | (simp; done) | (simp [*]; done), by repeat (first | exact Drawn0.refl _ | apply Drawn0.step)⟩

/-! ### spec_debBlank: function 36 -/
def spec_debBlank.f (a0 : Int) : Option (Bool) := if a0 = 32 then (some true) else (if a0 ≥ 9 then (some (decide (a0 ≤ 13))) else (some false))
set_option maxHeartbeats 8000000 in
set_option maxRecDepth 100000 in
theorem spec_debBlank.calls (a0 : Int) (r : Bool) (w : World) (h : spec_debBlank.f a0 = some r) :
  Calls Tryd.prog 36 #[.int .u8 a0] w fun e w' => e = .returned (.bool r) ∧ Drawn0 w w' := by
 have H : (if a0 = 32 then (some true) else (if a0 ≥ 9 then (some (decide (a0 ≤ 13))) else (some false))) = some r := h
 clear h
 by_cases c2 : a0 = 32
 ·rw [if_pos c2] at H
  have c2b0 : (a0 == 32) = true := beq_iff_eq.mpr c2
  have c2b1 : (a0 != 32) = false := bne_eq_false_iff_eq.mpr c2
  clear c2
  obtain rfl := Option.some.inj H
  go_enter Tryd.func36, Tryd.ntmps36
  go_wp2
  go_ret
  exact ⟨by first | rfl | (simp; done) | (simp [*]; done), by repeat (first | exact Drawn0.refl _ | apply Drawn0.step)⟩
 ·rw [if_neg c2] at H
  have c2b0 : (a0 == 32) = false := beq_eq_false_iff_ne.mpr c2
  have c2b1 : (a0 != 32) = true := bne_iff_ne.mpr c2
  by_cases c3 : a0 ≥ 9
  ·rw [if_pos c3] at H
   have c3b0 : decide (9 ≤ a0) = true := decide_eq_true c3
   clear c3
   obtain rfl := Option.some.inj H
   go_enter Tryd.func36, Tryd.ntmps36
   go_wp2
   go_ret
   exact ⟨by first | rfl | (simp; done) | (simp [*]; done), by repeat (first | exact Drawn0.refl _ | apply Drawn0.step)⟩
  ·rw [if_neg c3] at H
   have c3b0 : decide (9 ≤ a0) = false := decide_eq_false c3
   clear c3
   obtain rfl := Option.some.inj H
   go_enter Tryd.func36, Tryd.ntmps36
   go_wp2
   go_ret
   exact ⟨by first | rfl | (simp; done) | (simp [*]; done), by repeat (first | exact Drawn0.refl _ | apply Drawn0.step)⟩

/-! ### spec_debTrim: function 23 -/
mutual
def spec_debTrim.j1 : Nat → ByteArray → Option (ByteArray)
 | 0, _ => none
 | k + 1, x0 => spec_debTrim.l1 k x0
def spec_debTrim.l1 : Nat → ByteArray → Option (ByteArray)
 | 0, _ => none
 | k + 1, x0 => if (x0.size : Int) > 0 then (if 0 ≤ (wrap64 ((x0.size : Int) - 1)) then (if (wrap64 ((x0.size : Int) - 1)) < (x0.size : Int) then ((spec_debBlank.f (bt x0 (wrap64 ((x0.size : Int) - 1)))).bind fun t103 => (if t103 = true then (if (wrap64 ((x0.size : Int) - 1)) ≤ (x0.size : Int) then (spec_debTrim.l1 k (x0.extract 0 ((wrap64 ((x0.size : Int) - 1)) : Int).toNat)) else (none)) else (some x0))) else (none)) else (none)) else (some x0)
def spec_debTrim.l0 : Nat → ByteArray → Option (ByteArray)
 | 0, _ => none
 | k + 1, x0 => if (x0.size : Int) > 0 then (if 0 < (x0.size : Int) then ((spec_debBlank.f (bt x0 0)).bind fun t102 => (if t102 = true then (if 1 ≤ (x0.size : Int) then (spec_debTrim.l0 k (x0.extract 1 x0.size)) else (none)) else (spec_debTrim.j1 k x0))) else (none)) else (spec_debTrim.j1 k x0)
end
def spec_debTrim.f (k : Nat) (a0 : ByteArray) : Option (ByteArray) := spec_debTrim.l0 k a0
theorem spec_debTrim.mono_l : ∀ k, (∀ y0, LeO (spec_debTrim.j1 k y0) (spec_debTrim.j1 (k + 1) y0)) ∧ (∀ y0, LeO (spec_debTrim.l1 k y0) (spec_debTrim.l1 (k + 1) y0)) ∧ (∀ y0, LeO (spec_debTrim.l0 k y0) (spec_debTrim.l0 (k + 1) y0))
 | 0 => ⟨fun _ r h => by simp [spec_debTrim.j1] at h, fun _ r h => by simp [spec_debTrim.l1] at h, fun _ r h => by simp [spec_debTrim.l0] at h⟩
 | k + 1 => by
  obtain ⟨ih0, ih1, ih2⟩ := spec_debTrim.mono_l k
  refine ⟨?_, ?_, ?_⟩
  ·intro y0
   unfold spec_debTrim.j1
   repeat' first
   | (with_reducible exact ih0 _)
   | (with_reducible exact ih1 _)
   | (with_reducible exact ih2 _)
   | (with_reducible exact LeO.refl _)
   | (with_reducible exact LeO.none _)
   | (with_reducible refine LeO.ite ?_ ?_)
   | (with_reducible refine LeO.bind ?_ (fun _ => ?_))
   | exact ih0 _
   | exact ih1 _
   | exact ih2 _
   | exact LeO.none _
   | refine LeO.ite ?_ ?_
   | refine LeO.bind ?_ (fun _ => ?_)
  ·intro y0
   unfold spec_debTrim.l1
   repeat' first
   | (with_reducible exact ih0 _)
   | (with_reducible exact ih1 _)
   | (with_reducible exact ih2 _)
   | (with_reducible exact LeO.refl _)
   | (with_reducible exact LeO.none _)
   | (with_reducible refine LeO.ite ?_ ?_)
   | (with_reducible refine LeO.bind ?_ (fun _ => ?_))
   | exact ih0 _
   | exact ih1 _
   | exact ih2 _
   | exact LeO.none _
   | refine LeO.ite ?_ ?_
   | refine LeO.bind ?_ (fun _ => ?_)
  ·intro y0
   unfold spec_debTrim.l0
   repeat' first
   | (with_reducible exact ih0 _)
   | (with_reducible exact ih1 _)
   | (with_reducible exact ih2 _)
   | (with_reducible exact LeO.refl _)
   | (with_reducible exact LeO.none _)
   | (with_reducible refine LeO.ite ?_ ?_)
   | (with_reducible refine LeO.bind ?_ (fun _ => ?_))
   | exact ih0 _
   | exact ih1 _
   | exact ih2 _
   | exact LeO.none _
   | refine LeO.ite ?_ ?_
   | refine LeO.bind ?_ (fun _ => ?_)
theorem spec_debTrim.mono : ∀ a0 k, LeO (spec_debTrim.f k a0) (spec_debTrim.f (k + 1) a0) := by
 intro a0 k
 obtain ⟨ih0, ih1, ih2⟩ := spec_debTrim.mono_l k
 unfold spec_debTrim.f
 repeat' first
   | (with_reducible exact ih0 _)
   | (with_reducible exact ih1 _)
   | (with_reducible exact ih2 _)
   | (with_reducible exact LeO.refl _)
   | (with_reducible exact LeO.none _)
   | (with_reducible refine LeO.ite ?_ ?_)
   | (with_reducible refine LeO.bind ?_ (fun _ => ?_))
   | exact ih0 _
   | exact ih1 _
   | exact ih2 _
   | exact LeO.none _
   | refine LeO.ite ?_ ?_
   | refine LeO.bind ?_ (fun _ => ?_)
set_option maxHeartbeats 8000000 in
set_option maxRecDepth 100000 in
theorem spec_debTrim.calls (k : Nat) (a0 : ByteArray) (r : ByteArray) (w : World) (h : spec_debTrim.f k a0 = some r) :
  Calls Tryd.prog 23 #[.string a0] w fun e w' => e = .returned (.string r) ∧ Drawn0 w w' := by
 have H : (spec_debTrim.l0 k a0) = some r := h
 clear h
 have HC2 := Aside0.mk H
 clear H
 go_enter Tryd.func23, Tryd.ntmps23
 go_upto_block 0 with (fail)
 go_cut [0] (fun v0 wc => ∃ (kq : Nat) (x0_1 : ByteArray), v0 = .string x0_1 ∧ Aside0 (spec_debTrim.j1 kq x0_1 = some r) ∧ Aside0 (kq ≤ k) ∧ Drawn0 w wc)
 case first =>
  have H := HC2.out
  clear HC2
  have H' := Aside0.mk H
  clear H
  go_wp2
  go_loopg [0] k (fun kq v0 w' => ∃ (x0_1 : ByteArray), v0 = .string x0_1 ∧ Aside0 (spec_debTrim.l0 kq x0_1 = some r) ∧ Aside0 (kq ≤ k) ∧ Drawn0 w w')
  case atStart => exact ⟨(a0), (by first | rfl | (simp; done) | (simp [*]; done)), H', ⟨Nat.le_refl _⟩, by repeat (first | exact Drawn0.refl _ | apply Drawn0.step)⟩
  case round =>
   clear H'
   try clear c2
   try clear p2
   obtain ⟨x0_1, rfl, HA, HK1, ⟨m1, rfl⟩⟩ := hrel
   cases gk with
   | zero => exact absurd HA.out (by simp [spec_debTrim.l0])
   | succ k1 =>
    have H := HA.out
    clear HA
    simp only [spec_debTrim.l0] at H
    by_cases c3 : (x0_1.size : Int) > 0
    ·rw [if_pos c3] at H
     have c3b0 : decide (0 < (x0_1.size : Int)) = true := decide_eq_true c3
     have c3b1 : decide (0 < x0_1.size) = true := decide_eq_true (by omega)
     clear c3
     (first | rw [c3b0] | (simp only [i64_w, i32_w]; rw [c3b0]) | skip)
     by_cases c4 : 0 < (x0_1.size : Int)
     ·rw [if_pos c4] at H
      have c4b0 : decide (0 < (x0_1.size : Int)) = true := decide_eq_true c4
      have c4b1 : decide (0 < x0_1.size) = true := decide_eq_true (by omega)
      clear c4
      replace H := Option.bind_eq_some_iff.mp H
      obtain ⟨t102, A60, H⟩ := H
      replace H : (if t102 = true then (if 1 ≤ (x0_1.size : Int) then (spec_debTrim.l0 k1 (x0_1.extract 1 x0_1.size)) else (none)) else (spec_debTrim.j1 k1 x0_1)) = some r := H
      have A6 := Aside0.mk A60
      clear A60
      by_cases c7 : t102 = true
      ·subst c7
       have H1 : (if 1 ≤ (x0_1.size : Int) then (spec_debTrim.l0 k1 (x0_1.extract 1 x0_1.size)) else (none)) = some r := by rw [if_pos rfl] at H; exact H
       clear H
       have H := H1
       clear H1
       by_cases c8 : 1 ≤ (x0_1.size : Int)
       ·rw [if_pos c8] at H
        have c8b0 := eq_true c8
        have c8b1 : decide (1 ≤ (x0_1.size : Int)) = true := decide_eq_true c8
        clear c8
        have H' := Aside0.mk H
        clear H
        have p5 : 0 ≤ (0 : Int) := (by omega)
        have q5 : 0 < x0_1.size := (by have : (0 : Int) < (x0_1.size : Int) := of_decide_eq_true (by first | (with_reducible assumption) | assumption); omega)
        have hx5 : ∀ h : 0 < x0_1.size, ((x0_1[0]'h).toNat : Int) = bt x0_1 0 := bt_at x0_1 0
        clear p5
        have qi5 : (0 < (x0_1.size : Int)) = True := eq_true (of_decide_eq_true (by first | (with_reducible assumption) | assumption))
        replace q5 := eq_true q5
        go_wp2_with (first | (go_at_call 36; (with_reducible refine (spec_debBlank.calls (bt x0_1 0) true _ A6.out).mono ?_); rintro e w' ⟨rfl, ⟨nd, rfl⟩⟩))
        go_roundg k1
        case measure => have := HK1.out; omega
        case rel => exact ⟨(x0_1.extract 1 x0_1.size), (by first | rfl | (simp; done) | (simp [*]; done)), H', ⟨by have := HK1.out; omega⟩, by repeat (first | exact Drawn0.refl _ | apply Drawn0.step)⟩
       ·rw [if_neg c8] at H
        exact absurd H (by simp)
      ·replace c7 := Bool.eq_false_iff.mpr c7
       subst c7
       have H1 : (spec_debTrim.j1 k1 x0_1) = some r := by rw [if_neg (show ¬ (false = true) by decide)] at H; exact H
       clear H
       have H := H1
       clear H1
       have H' := Aside0.mk H
       clear H
       have p5 : 0 ≤ (0 : Int) := (by omega)
       have q5 : 0 < x0_1.size := (by have : (0 : Int) < (x0_1.size : Int) := of_decide_eq_true (by first | (with_reducible assumption) | assumption); omega)
       have hx5 : ∀ h : 0 < x0_1.size, ((x0_1[0]'h).toNat : Int) = bt x0_1 0 := bt_at x0_1 0
       clear p5
       have qi5 : (0 < (x0_1.size : Int)) = True := eq_true (of_decide_eq_true (by first | (with_reducible assumption) | assumption))
       replace q5 := eq_true q5
       go_wp2_with (first | (go_at_call 36; (with_reducible refine (spec_debBlank.calls (bt x0_1 0) false _ A6.out).mono ?_); rintro e w' ⟨rfl, ⟨nd, rfl⟩⟩))
       go_meet
       case rel => exact ⟨_, (x0_1), (by first | rfl | (simp; done) | (simp [*]; done)), H', ⟨by have := HK1.out; first | omega | exact Nat.le_refl _⟩, by repeat (first | exact Drawn0.refl _ | apply Drawn0.step)⟩
     ·rw [if_neg c4] at H
      exact absurd H (by simp)
    ·rw [if_neg c3] at H
     have c3b0 : decide (0 < (x0_1.size : Int)) = false := decide_eq_false c3
     have c3b1 : decide (0 < x0_1.size) = false := decide_eq_false (by omega)
     clear c3
     (first | rw [c3b0] | (simp only [i64_w, i32_w]; rw [c3b0]) | skip)
     have H' := Aside0.mk H
     clear H
     go_wp2
     go_meet
     case rel => exact ⟨_, (x0_1), (by first | rfl | (simp; done) | (simp [*]; done)), H', ⟨by have := HK1.out; first | omega | exact Nat.le_refl _⟩, by repeat (first | exact Drawn0.refl _ | apply Drawn0.step)⟩
 case rest =>
  clear HC2
  try clear c2
  try clear p2
  try clear c3
  try clear c3b0
  try clear c3b1
  try clear c4
  try clear c4b0
  try clear c4b1
  try clear p5
  try clear q5
  try clear hx5
  try clear qi5
  try clear c7
  try clear c8
  try clear c8b0
  try clear c8b1
  try clear p2
  try clear p5
  try clear q5
  obtain ⟨kq, x0_1, rfl, HA, HJ1, ⟨mc1, rfl⟩⟩ := hcut
  cases kq with
  | zero => exact absurd HA.out (by simp [spec_debTrim.j1])
  | succ kj1 =>
   have H := HA.out
   clear HA
   simp only [spec_debTrim.j1] at H
   have H' := Aside0.mk H
   clear H
   go_wp2
   go_loopg [0] kj1 (fun kq v0 w' => ∃ (x0_2 : ByteArray), v0 = .string x0_2 ∧ Aside0 (spec_debTrim.l1 kq x0_2 = some r) ∧ Aside0 (kq ≤ kj1) ∧ Drawn0 w w')
   case atStart => exact ⟨(x0_1), (by first | rfl | (simp; done) | (simp [*]; done)), H', ⟨Nat.le_refl _⟩, by repeat (first | exact Drawn0.refl _ | apply Drawn0.step)⟩
   case round =>
    clear H'
    try clear c1
    try clear c2
    try clear p2
    try clear c3
    try clear c3b0
    try clear c3b1
    try clear c4
    try clear c4b0
    try clear c4b1
    try clear p5
    try clear q5
    try clear hx5
    try clear qi5
    try clear c7
    try clear c8
    try clear c8b0
    try clear c8b1
    try clear p2
    try clear p5
    try clear q5
    obtain ⟨x0_2, rfl, HA, HK2, ⟨m2, rfl⟩⟩ := hrel
    cases gk with
    | zero => exact absurd HA.out (by simp [spec_debTrim.l1])
    | succ k2 =>
     have H := HA.out
     clear HA
     simp only [spec_debTrim.l1] at H
     by_cases c9 : (x0_2.size : Int) > 0
     ·rw [if_pos c9] at H
      have c9b0 : decide (0 < (x0_2.size : Int)) = true := decide_eq_true c9
      have c9b1 : decide (0 < x0_2.size) = true := decide_eq_true (by omega)
      clear c9
      obtain ⟨ji10, hji10⟩ : ∃ j_ : Int, (wrap64 ((x0_2.size : Int) - 1)) = j_ := ⟨_, rfl⟩
      replace H : (if 0 ≤ (ji10) then (if (ji10) < (x0_2.size : Int) then ((spec_debBlank.f (bt x0_2 (ji10))).bind fun t103 => (if t103 = true then (if (ji10) ≤ (x0_2.size : Int) then (spec_debTrim.l1 k2 (x0_2.extract 0 ((ji10) : Int).toNat)) else (none)) else (some x0_2))) else (none)) else (none)) = some r := by first | (rw [hji10] at H; exact H) | (simp only [hji10] at H ⊢; exact H)
      have hji10w : (IntKind.i64.wrap ((x0_2.size : Int) - 1)) = ji10 := (i64_w _).trans hji10
      by_cases c11 : 0 ≤ (ji10)
      ·rw [if_pos c11] at H
       have c11b0 : decide (0 ≤ (ji10)) = true := decide_eq_true c11
       clear c11
       by_cases c12 : (ji10) < (x0_2.size : Int)
       ·rw [if_pos c12] at H
        have c12b0 : decide ((ji10) < (x0_2.size : Int)) = true := decide_eq_true c12
        clear c12
        replace H := Option.bind_eq_some_iff.mp H
        obtain ⟨t103, A140, H⟩ := H
        replace H : (if t103 = true then (if (ji10) ≤ (x0_2.size : Int) then (spec_debTrim.l1 k2 (x0_2.extract 0 ((ji10) : Int).toNat)) else (none)) else (some x0_2)) = some r := H
        have A14 := Aside0.mk A140
        clear A140
        by_cases c15 : t103 = true
        ·subst c15
         have H1 : (if (ji10) ≤ (x0_2.size : Int) then (spec_debTrim.l1 k2 (x0_2.extract 0 ((ji10) : Int).toNat)) else (none)) = some r := by rw [if_pos rfl] at H; exact H
         clear H
         have H := H1
         clear H1
         have c16b0 := eq_true (of_decide_eq_true (by first | (with_reducible assumption) | assumption) : 0 ≤ (ji10))
         by_cases c17 : (ji10) ≤ (x0_2.size : Int)
         ·rw [if_pos c17] at H
          have c17b0 := eq_true c17
          have c17b1 : decide ((ji10) ≤ (x0_2.size : Int)) = true := decide_eq_true c17
          clear c17
          have H' := Aside0.mk H
          clear H
          have p13 : 0 ≤ ((ji10) : Int) := of_decide_eq_true (by first | (with_reducible assumption) | assumption)
          have q13 : (ji10) < (x0_2.size : Int) := of_decide_eq_true (by first | (with_reducible assumption) | assumption)
          have hx13 := bt_at x0_2 (ji10)
          replace p13 := eq_true p13
          replace q13 := eq_true q13
          go_wp2_with (first | (go_at_call 36; (with_reducible refine (spec_debBlank.calls (bt x0_2 (ji10)) true _ A14.out).mono ?_); rintro e w' ⟨rfl, ⟨nd, rfl⟩⟩))
          go_roundg k2
          case measure => have := HJ1.out; have := HK2.out; omega
          case rel => exact ⟨(x0_2.extract 0 ((ji10) : Int).toNat), (by first | rfl | (simp; done) | (simp only [← hji10] <;> (first | rfl | simp)) | (simp [*]; done)), H', ⟨by have := HJ1.out; have := HK2.out; omega⟩, by repeat (first | exact Drawn0.refl _ | apply Drawn0.step)⟩
         ·rw [if_neg c17] at H
          exact absurd H (by simp)
        ·replace c15 := Bool.eq_false_iff.mpr c15
         subst c15
         have H1 : (some x0_2) = some r := by rw [if_neg (show ¬ (false = true) by decide)] at H; exact H
         clear H
         have H := H1
         clear H1
         obtain rfl := Option.some.inj H
         have p13 : 0 ≤ ((ji10) : Int) := of_decide_eq_true (by first | (with_reducible assumption) | assumption)
         have q13 : (ji10) < (x0_2.size : Int) := of_decide_eq_true (by first | (with_reducible assumption) | assumption)
         have hx13 := bt_at x0_2 (ji10)
         replace p13 := eq_true p13
         replace q13 := eq_true q13
         go_wp2_with (first | (go_at_call 36; (with_reducible refine (spec_debBlank.calls (bt x0_2 (ji10)) false _ A14.out).mono ?_); rintro e w' ⟨rfl, ⟨nd, rfl⟩⟩))
         go_ret
         exact ⟨by first | rfl | (simp; done) | (simp only [← hji10] <;> (first | rfl | simp)) | (simp [*]; done), by repeat (first | exact Drawn0.refl _ | apply Drawn0.step)⟩
       ·rw [if_neg c12] at H
        exact absurd H (by simp)
      ·rw [if_neg c11] at H
       exact absurd H (by simp)
     ·rw [if_neg c9] at H
      have c9b0 : decide (0 < (x0_2.size : Int)) = false := decide_eq_false c9
      have c9b1 : decide (0 < x0_2.size) = false := decide_eq_false (by omega)
      clear c9
      obtain rfl := Option.some.inj H
      go_wp2
      go_ret
      exact ⟨by first | rfl | (simp; done) | (simp [*]; done), by repeat (first | exact Drawn0.refl _ | apply Drawn0.step)⟩

/-! ### spec_indexOf: function 24 -/
def spec_indexOf.l0 : Nat → ByteArray → Int → Int → Option (Int)
 | 0, _, _, _ => none
 | k + 1, x0, x1, x5 => if x5 < (x0.size : Int) then (if 0 ≤ x5 then (if (bt x0 x5) = x1 then (some x5) else (spec_indexOf.l0 k x0 x1 (wrap64 (x5 + 1)))) else (none)) else (some (-1))
def spec_indexOf.f (k : Nat) (a0 : ByteArray) (a1 : Int) : Option (Int) := spec_indexOf.l0 k a0 a1 0
theorem spec_indexOf.mono_l : ∀ k, (∀ y0 y1 y2, LeO (spec_indexOf.l0 k y0 y1 y2) (spec_indexOf.l0 (k + 1) y0 y1 y2))
 | 0 => fun _ _ _ r h => by simp [spec_indexOf.l0] at h
 | k + 1 => by
  have ih0 := spec_indexOf.mono_l k
  ·intro y0 y1 y2
   unfold spec_indexOf.l0
   repeat' first
   | (with_reducible exact ih0 _ _ _)
   | (with_reducible exact LeO.refl _)
   | (with_reducible exact LeO.none _)
   | (with_reducible refine LeO.ite ?_ ?_)
   | (with_reducible refine LeO.bind ?_ (fun _ => ?_))
   | exact ih0 _ _ _
   | exact LeO.none _
   | refine LeO.ite ?_ ?_
   | refine LeO.bind ?_ (fun _ => ?_)
theorem spec_indexOf.mono : ∀ a0 a1 k, LeO (spec_indexOf.f k a0 a1) (spec_indexOf.f (k + 1) a0 a1) := by
 intro a0 a1 k
 have ih0 := spec_indexOf.mono_l k
 unfold spec_indexOf.f
 repeat' first
   | (with_reducible exact ih0 _ _ _)
   | (with_reducible exact LeO.refl _)
   | (with_reducible exact LeO.none _)
   | (with_reducible refine LeO.ite ?_ ?_)
   | (with_reducible refine LeO.bind ?_ (fun _ => ?_))
   | exact ih0 _ _ _
   | exact LeO.none _
   | refine LeO.ite ?_ ?_
   | refine LeO.bind ?_ (fun _ => ?_)
set_option maxHeartbeats 8000000 in
set_option maxRecDepth 100000 in
theorem spec_indexOf.calls (k : Nat) (a0 : ByteArray) (a1 : Int) (r : Int) (w : World) (h : spec_indexOf.f k a0 a1 = some r) :
  Calls Tryd.prog 24 #[.string a0, .int .u8 a1] w fun e w' => e = .returned (.int .i64 r) ∧ Drawn0 w w' := by
 have H : (spec_indexOf.l0 k a0 a1 0) = some r := h
 clear h
 have H' := Aside0.mk H
 clear H
 go_enter Tryd.func24, Tryd.ntmps24
 go_wp2
 go_loopg [5] k (fun kq v5 w' => ∃ (x5_1 : Int), v5 = .int .i64 x5_1 ∧ Aside0 (spec_indexOf.l0 kq a0 a1 x5_1 = some r) ∧ Aside0 (kq ≤ k) ∧ Drawn0 w w')
 case atStart => exact ⟨(0), (by first | rfl | (simp; done) | (simp [*]; done)), H', ⟨Nat.le_refl _⟩, by repeat (first | exact Drawn0.refl _ | apply Drawn0.step)⟩
 case round =>
  clear H'
  try clear c2
  try clear p2
  obtain ⟨x5_1, rfl, HA, HK1, ⟨m1, rfl⟩⟩ := hrel
  cases gk with
  | zero => exact absurd HA.out (by simp [spec_indexOf.l0])
  | succ k1 =>
   have H := HA.out
   clear HA
   simp only [spec_indexOf.l0] at H
   by_cases c3 : x5_1 < (a0.size : Int)
   ·rw [if_pos c3] at H
    have c3b0 : decide (x5_1 < (a0.size : Int)) = true := decide_eq_true c3
    clear c3
    by_cases c4 : 0 ≤ x5_1
    ·rw [if_pos c4] at H
     have c4b0 : decide (0 ≤ x5_1) = true := decide_eq_true c4
     clear c4
     by_cases c6 : (bt a0 x5_1) = a1
     ·rw [if_pos c6] at H
      have c6b0 : ((bt a0 x5_1) == a1) = true := beq_iff_eq.mpr c6
      have c6b1 : ((bt a0 x5_1) != a1) = false := bne_eq_false_iff_eq.mpr c6
      clear c6
      obtain rfl := Option.some.inj H
      have p5 : 0 ≤ (x5_1 : Int) := of_decide_eq_true (by first | (with_reducible assumption) | assumption)
      have q5 : x5_1 < (a0.size : Int) := of_decide_eq_true (by first | (with_reducible assumption) | assumption)
      have hx5 := bt_at a0 x5_1
      replace p5 := eq_true p5
      replace q5 := eq_true q5
      go_wp2
      go_ret
      exact ⟨by first | rfl | (simp; done) | (simp [*]; done), by repeat (first | exact Drawn0.refl _ | apply Drawn0.step)⟩
     ·rw [if_neg c6] at H
      have c6b0 : ((bt a0 x5_1) == a1) = false := beq_eq_false_iff_ne.mpr c6
      have c6b1 : ((bt a0 x5_1) != a1) = true := bne_iff_ne.mpr c6
      have H' := Aside0.mk H
      clear H
      have p5 : 0 ≤ (x5_1 : Int) := of_decide_eq_true (by first | (with_reducible assumption) | assumption)
      have q5 : x5_1 < (a0.size : Int) := of_decide_eq_true (by first | (with_reducible assumption) | assumption)
      have hx5 := bt_at a0 x5_1
      replace p5 := eq_true p5
      replace q5 := eq_true q5
      go_wp2
      go_roundg k1
      case measure => have := HK1.out; omega
      case rel => exact ⟨(wrap64 (x5_1 + 1)), (by first | rfl | (simp; done) | (simp [*]; done)), H', ⟨by have := HK1.out; omega⟩, by repeat (first | exact Drawn0.refl _ | apply Drawn0.step)⟩
    ·rw [if_neg c4] at H
     exact absurd H (by simp)
   ·rw [if_neg c3] at H
    have c3b0 : decide (x5_1 < (a0.size : Int)) = false := decide_eq_false c3
    clear c3
    obtain rfl := Option.some.inj H
    go_wp2
    go_ret
    exact ⟨by first | rfl | (simp; done) | (simp [*]; done), by repeat (first | exact Drawn0.refl _ | apply Drawn0.step)⟩

/-! ### spec_Ascii: function 25 -/
def spec_Ascii.l0 : Nat → ByteArray → Int → Option (Bool)
 | 0, _, _ => none
 | k + 1, x0, x3 => if x3 < (x0.size : Int) then (if 0 ≤ x3 then (if (bt x0 x3) > 127 then (some false) else (spec_Ascii.l0 k x0 (wrap64 (x3 + 1)))) else (none)) else (some true)
def spec_Ascii.f (k : Nat) (a0 : ByteArray) : Option (Bool) := spec_Ascii.l0 k a0 0
theorem spec_Ascii.mono_l : ∀ k, (∀ y0 y1, LeO (spec_Ascii.l0 k y0 y1) (spec_Ascii.l0 (k + 1) y0 y1))
 | 0 => fun _ _ r h => by simp [spec_Ascii.l0] at h
 | k + 1 => by
  have ih0 := spec_Ascii.mono_l k
  ·intro y0 y1
   unfold spec_Ascii.l0
   repeat' first
   | (with_reducible exact ih0 _ _)
   | (with_reducible exact LeO.refl _)
   | (with_reducible exact LeO.none _)
   | (with_reducible refine LeO.ite ?_ ?_)
   | (with_reducible refine LeO.bind ?_ (fun _ => ?_))
   | exact ih0 _ _
   | exact LeO.none _
   | refine LeO.ite ?_ ?_
   | refine LeO.bind ?_ (fun _ => ?_)
theorem spec_Ascii.mono : ∀ a0 k, LeO (spec_Ascii.f k a0) (spec_Ascii.f (k + 1) a0) := by
 intro a0 k
 have ih0 := spec_Ascii.mono_l k
 unfold spec_Ascii.f
 repeat' first
   | (with_reducible exact ih0 _ _)
   | (with_reducible exact LeO.refl _)
   | (with_reducible exact LeO.none _)
   | (with_reducible refine LeO.ite ?_ ?_)
   | (with_reducible refine LeO.bind ?_ (fun _ => ?_))
   | exact ih0 _ _
   | exact LeO.none _
   | refine LeO.ite ?_ ?_
   | refine LeO.bind ?_ (fun _ => ?_)
set_option maxHeartbeats 8000000 in
set_option maxRecDepth 100000 in
theorem spec_Ascii.calls (k : Nat) (a0 : ByteArray) (r : Bool) (w : World) (h : spec_Ascii.f k a0 = some r) :
  Calls Tryd.prog 25 #[.string a0] w fun e w' => e = .returned (.bool r) ∧ Drawn0 w w' := by
 have H : (spec_Ascii.l0 k a0 0) = some r := h
 clear h
 have H' := Aside0.mk H
 clear H
 go_enter Tryd.func25, Tryd.ntmps25
 go_wp2
 go_loopg [3] k (fun kq v3 w' => ∃ (x3_1 : Int), v3 = .int .i64 x3_1 ∧ Aside0 (spec_Ascii.l0 kq a0 x3_1 = some r) ∧ Aside0 (kq ≤ k) ∧ Drawn0 w w')
 case atStart => exact ⟨(0), (by first | rfl | (simp; done) | (simp [*]; done)), H', ⟨Nat.le_refl _⟩, by repeat (first | exact Drawn0.refl _ | apply Drawn0.step)⟩
 case round =>
  clear H'
  obtain ⟨x3_1, rfl, HA, HK1, ⟨m1, rfl⟩⟩ := hrel
  cases gk with
  | zero => exact absurd HA.out (by simp [spec_Ascii.l0])
  | succ k1 =>
   have H := HA.out
   clear HA
   simp only [spec_Ascii.l0] at H
   by_cases c2 : x3_1 < (a0.size : Int)
   ·rw [if_pos c2] at H
    have c2b0 : decide (x3_1 < (a0.size : Int)) = true := decide_eq_true c2
    clear c2
    by_cases c3 : 0 ≤ x3_1
    ·rw [if_pos c3] at H
     have c3b0 : decide (0 ≤ x3_1) = true := decide_eq_true c3
     clear c3
     by_cases c5 : (bt a0 x3_1) > 127
     ·rw [if_pos c5] at H
      have c5b0 : decide (127 < (bt a0 x3_1)) = true := decide_eq_true c5
      clear c5
      obtain rfl := Option.some.inj H
      have p4 : 0 ≤ (x3_1 : Int) := of_decide_eq_true (by first | (with_reducible assumption) | assumption)
      have q4 : x3_1 < (a0.size : Int) := of_decide_eq_true (by first | (with_reducible assumption) | assumption)
      have hx4 := bt_at a0 x3_1
      replace p4 := eq_true p4
      replace q4 := eq_true q4
      go_wp2
      go_ret
      exact ⟨by first | rfl | (simp; done) | (simp [*]; done), by repeat (first | exact Drawn0.refl _ | apply Drawn0.step)⟩
     ·rw [if_neg c5] at H
      have c5b0 : decide (127 < (bt a0 x3_1)) = false := decide_eq_false c5
      clear c5
      have H' := Aside0.mk H
      clear H
      have p4 : 0 ≤ (x3_1 : Int) := of_decide_eq_true (by first | (with_reducible assumption) | assumption)
      have q4 : x3_1 < (a0.size : Int) := of_decide_eq_true (by first | (with_reducible assumption) | assumption)
      have hx4 := bt_at a0 x3_1
      replace p4 := eq_true p4
      replace q4 := eq_true q4
      go_wp2
      go_roundg k1
      case measure => have := HK1.out; omega
      case rel => exact ⟨(wrap64 (x3_1 + 1)), (by first | rfl | (simp; done) | (simp [*]; done)), H', ⟨by have := HK1.out; omega⟩, by repeat (first | exact Drawn0.refl _ | apply Drawn0.step)⟩
    ·rw [if_neg c3] at H
     exact absurd H (by simp)
   ·rw [if_neg c2] at H
    have c2b0 : decide (x3_1 < (a0.size : Int)) = false := decide_eq_false c2
    clear c2
    obtain rfl := Option.some.inj H
    go_wp2
    go_ret
    exact ⟨by first | rfl | (simp; done) | (simp [*]; done), by repeat (first | exact Drawn0.refl _ | apply Drawn0.step)⟩

/-! ### spec_DebianKnown: function 11 -/
def spec_DebianKnown.f (k : Nat) (a0 : ByteArray) : Option (Bool) := (spec_debTrim.f k a0).bind fun t104 => (if (t104.size : Int) > 0 then (if 0 < (t104.size : Int) then (if (bt t104 0) = 43 then ((spec_indexOf.f k t104 58).bind fun t105 => ((spec_Ascii.f k a0).bind fun t106 => (if t106 = true then ((spec_indexOf.f k a0 0).bind fun t107 => (if t107 < 0 then (some (!(decide (t105 ≥ 0)))) else (some false))) else (some false)))) else (if (bt t104 0) = 45 then ((spec_indexOf.f k t104 58).bind fun t108 => ((spec_Ascii.f k a0).bind fun t109 => (if t109 = true then ((spec_indexOf.f k a0 0).bind fun t110 => (if t110 < 0 then (some (!(decide (t108 ≥ 0)))) else (some false))) else (some false)))) else ((spec_Ascii.f k a0).bind fun t111 => (if t111 = true then ((spec_indexOf.f k a0 0).bind fun t112 => (if t112 < 0 then (some (!false)) else (some false))) else (some false))))) else (none)) else ((spec_Ascii.f k a0).bind fun t113 => (if t113 = true then ((spec_indexOf.f k a0 0).bind fun t114 => (if t114 < 0 then (some (!false)) else (some false))) else (some false))))
theorem spec_DebianKnown.mono : ∀ a0 k, LeO (spec_DebianKnown.f k a0) (spec_DebianKnown.f (k + 1) a0) := by
 intro a0 k
 unfold spec_DebianKnown.f
 repeat' first
   | (with_reducible exact spec_Ascii.mono _ _)
   | (with_reducible exact spec_debTrim.mono _ _)
   | (with_reducible exact spec_indexOf.mono _ _ _)
   | (with_reducible exact LeO.refl _)
   | (with_reducible exact LeO.none _)
   | (with_reducible refine LeO.ite ?_ ?_)
   | (with_reducible refine LeO.bind ?_ (fun _ => ?_))
   | exact spec_Ascii.mono _ _
   | exact spec_debTrim.mono _ _
   | exact spec_indexOf.mono _ _ _
   | exact LeO.none _
   | refine LeO.ite ?_ ?_
   | refine LeO.bind ?_ (fun _ => ?_)
set_option maxHeartbeats 8000000 in
set_option maxRecDepth 100000 in
theorem spec_DebianKnown.calls (k : Nat) (a0 : ByteArray) (r : Bool) (w : World) (h : spec_DebianKnown.f k a0 = some r) :
  Calls Tryd.prog 11 #[.string a0] w fun e w' => e = .returned (.bool r) ∧ Drawn0 w w' := by
 have H : ((spec_debTrim.f k a0).bind fun t104 => (if (t104.size : Int) > 0 then (if 0 < (t104.size : Int) then (if (bt t104 0) = 43 then ((spec_indexOf.f k t104 58).bind fun t105 => ((spec_Ascii.f k a0).bind fun t106 => (if t106 = true then ((spec_indexOf.f k a0 0).bind fun t107 => (if t107 < 0 then (some (!(decide (t105 ≥ 0)))) else (some false))) else (some false)))) else (if (bt t104 0) = 45 then ((spec_indexOf.f k t104 58).bind fun t108 => ((spec_Ascii.f k a0).bind fun t109 => (if t109 = true then ((spec_indexOf.f k a0 0).bind fun t110 => (if t110 < 0 then (some (!(decide (t108 ≥ 0)))) else (some false))) else (some false)))) else ((spec_Ascii.f k a0).bind fun t111 => (if t111 = true then ((spec_indexOf.f k a0 0).bind fun t112 => (if t112 < 0 then (some (!false)) else (some false))) else (some false))))) else (none)) else ((spec_Ascii.f k a0).bind fun t113 => (if t113 = true then ((spec_indexOf.f k a0 0).bind fun t114 => (if t114 < 0 then (some (!false)) else (some false))) else (some false))))) = some r := h
 clear h
 replace H := Option.bind_eq_some_iff.mp H
 obtain ⟨t104, A20, H⟩ := H
 replace H : (if (t104.size : Int) > 0 then (if 0 < (t104.size : Int) then (if (bt t104 0) = 43 then ((spec_indexOf.f k t104 58).bind fun t105 => ((spec_Ascii.f k a0).bind fun t106 => (if t106 = true then ((spec_indexOf.f k a0 0).bind fun t107 => (if t107 < 0 then (some (!(decide (t105 ≥ 0)))) else (some false))) else (some false)))) else (if (bt t104 0) = 45 then ((spec_indexOf.f k t104 58).bind fun t108 => ((spec_Ascii.f k a0).bind fun t109 => (if t109 = true then ((spec_indexOf.f k a0 0).bind fun t110 => (if t110 < 0 then (some (!(decide (t108 ≥ 0)))) else (some false))) else (some false)))) else ((spec_Ascii.f k a0).bind fun t111 => (if t111 = true then ((spec_indexOf.f k a0 0).bind fun t112 => (if t112 < 0 then (some (!false)) else (some false))) else (some false))))) else (none)) else ((spec_Ascii.f k a0).bind fun t113 => (if t113 = true then ((spec_indexOf.f k a0 0).bind fun t114 => (if t114 < 0 then (some (!false)) else (some false))) else (some false)))) = some r := H
 have A2 := Aside0.mk A20
 clear A20
 by_cases c3 : (t104.size : Int) > 0
 ·rw [if_pos c3] at H
  have c3b0 : decide (0 < (t104.size : Int)) = true := decide_eq_true c3
  have c3b1 : decide (0 < t104.size) = true := decide_eq_true (by omega)
  clear c3
  by_cases c4 : 0 < (t104.size : Int)
  ·rw [if_pos c4] at H
   have c4b0 : decide (0 < (t104.size : Int)) = true := decide_eq_true c4
   have c4b1 : decide (0 < t104.size) = true := decide_eq_true (by omega)
   clear c4
   by_cases c6 : (bt t104 0) = 43
   ·rw [if_pos c6] at H
    have c6b0 : ((bt t104 0) == 43) = true := beq_iff_eq.mpr c6
    have c6b1 : ((bt t104 0) != 43) = false := bne_eq_false_iff_eq.mpr c6
    clear c6
    replace H := Option.bind_eq_some_iff.mp H
    obtain ⟨t105, A70, H⟩ := H
    replace H : ((spec_Ascii.f k a0).bind fun t106 => (if t106 = true then ((spec_indexOf.f k a0 0).bind fun t107 => (if t107 < 0 then (some (!(decide (t105 ≥ 0)))) else (some false))) else (some false))) = some r := H
    have A7 := Aside0.mk A70
    clear A70
    replace H := Option.bind_eq_some_iff.mp H
    obtain ⟨t106, A80, H⟩ := H
    replace H : (if t106 = true then ((spec_indexOf.f k a0 0).bind fun t107 => (if t107 < 0 then (some (!(decide (t105 ≥ 0)))) else (some false))) else (some false)) = some r := H
    have A8 := Aside0.mk A80
    clear A80
    by_cases c9 : t106 = true
    ·subst c9
     have H1 : ((spec_indexOf.f k a0 0).bind fun t107 => (if t107 < 0 then (some (!(decide (t105 ≥ 0)))) else (some false))) = some r := by rw [if_pos rfl] at H; exact H
     clear H
     have H := H1
     clear H1
     replace H := Option.bind_eq_some_iff.mp H
     obtain ⟨t107, A100, H⟩ := H
     replace H : (if t107 < 0 then (some (!(decide (t105 ≥ 0)))) else (some false)) = some r := H
     have A10 := Aside0.mk A100
     clear A100
     by_cases c11 : t107 < 0
     ·rw [if_pos c11] at H
      have c11b0 : decide (t107 < 0) = true := decide_eq_true c11
      clear c11
      obtain rfl := Option.some.inj H
      go_enter Tryd.func11, Tryd.ntmps11
      go_wp2_with (first | ((with_reducible refine gate_callee (f := 23) rfl ?_); refine goesL_ (some 6) rfl rfl Tryd.func23 (by kernel_rfl) rfl #[.string a0] rfl (by (try simp only [List.map_toArray, List.map_cons, List.map_nil]); first | done | rfl | (simp only [List.length_drop, List.length_take]; rfl)) ?_; (with_reducible refine (spec_debTrim.calls k a0 t104 _ A2.out).mono ?_); rintro e w' ⟨rfl, ⟨nd, rfl⟩⟩; refine ⟨_, rfl, ?_⟩; have p5 : 0 ≤ (0 : Int) := (by omega); have q5 : 0 < t104.size := (by have : (0 : Int) < (t104.size : Int) := of_decide_eq_true (by first | (with_reducible assumption) | assumption); omega); have hx5 : ∀ h : 0 < t104.size, ((t104[0]'h).toNat : Int) = bt t104 0 := bt_at t104 0; clear p5; have qi5 : (0 < (t104.size : Int)) = True := eq_true (of_decide_eq_true (by first | (with_reducible assumption) | assumption)); replace q5 := eq_true q5) | (go_at_call 24; (with_reducible refine (spec_indexOf.calls k t104 58 t105 _ A7.out).mono ?_); rintro e w' ⟨rfl, ⟨nd, rfl⟩⟩) | ((with_reducible refine gate_callee (f := 25) rfl ?_); refine goesL_ (some 26) rfl rfl Tryd.func25 (by kernel_rfl) rfl #[.string a0] rfl (by (try simp only [List.map_toArray, List.map_cons, List.map_nil]); first | done | rfl | (simp only [List.length_drop, List.length_take]; rfl)) ?_; (with_reducible refine (spec_Ascii.calls k a0 true _ A8.out).mono ?_); rintro e w' ⟨rfl, ⟨nd, rfl⟩⟩; refine ⟨_, rfl, ?_⟩) | (go_at_call 24; (with_reducible refine (spec_indexOf.calls k a0 0 t107 _ A10.out).mono ?_); rintro e w' ⟨rfl, ⟨nd, rfl⟩⟩))
      go_ret
      exact ⟨by first | rfl | (simp; done) | (simp [*]; done), by repeat (first | exact Drawn0.refl _ | apply Drawn0.step)⟩
     ·rw [if_neg c11] at H
      have c11b0 : decide (t107 < 0) = false := decide_eq_false c11
      clear c11
      obtain rfl := Option.some.inj H
      go_enter Tryd.func11, Tryd.ntmps11
      go_wp2_with (first | ((with_reducible refine gate_callee (f := 23) rfl ?_); refine goesL_ (some 6) rfl rfl Tryd.func23 (by kernel_rfl) rfl #[.string a0] rfl (by (try simp only [List.map_toArray, List.map_cons, List.map_nil]); first | done | rfl | (simp only [List.length_drop, List.length_take]; rfl)) ?_; (with_reducible refine (spec_debTrim.calls k a0 t104 _ A2.out).mono ?_); rintro e w' ⟨rfl, ⟨nd, rfl⟩⟩; refine ⟨_, rfl, ?_⟩; have p5 : 0 ≤ (0 : Int) := (by omega); have q5 : 0 < t104.size := (by have : (0 : Int) < (t104.size : Int) := of_decide_eq_true (by first | (with_reducible assumption) | assumption); omega); have hx5 : ∀ h : 0 < t104.size, ((t104[0]'h).toNat : Int) = bt t104 0 := bt_at t104 0; clear p5; have qi5 : (0 < (t104.size : Int)) = True := eq_true (of_decide_eq_true (by first | (with_reducible assumption) | assumption)); replace q5 := eq_true q5) | (go_at_call 24; (with_reducible refine (spec_indexOf.calls k t104 58 t105 _ A7.out).mono ?_); rintro e w' ⟨rfl, ⟨nd, rfl⟩⟩) | ((with_reducible refine gate_callee (f := 25) rfl ?_); refine goesL_ (some 26) rfl rfl Tryd.func25 (by kernel_rfl) rfl #[.string a0] rfl (by (try simp only [List.map_toArray, List.map_cons, List.map_nil]); first | done | rfl | (simp only [List.length_drop, List.length_take]; rfl)) ?_; (with_reducible refine (spec_Ascii.calls k a0 true _ A8.out).mono ?_); rintro e w' ⟨rfl, ⟨nd, rfl⟩⟩; refine ⟨_, rfl, ?_⟩) | (go_at_call 24; (with_reducible refine (spec_indexOf.calls k a0 0 t107 _ A10.out).mono ?_); rintro e w' ⟨rfl, ⟨nd, rfl⟩⟩))
      go_ret
      exact ⟨by first | rfl | (simp; done) | (simp [*]; done), by repeat (first | exact Drawn0.refl _ | apply Drawn0.step)⟩
    ·replace c9 := Bool.eq_false_iff.mpr c9
     subst c9
     have H1 : (some false) = some r := by rw [if_neg (show ¬ (false = true) by decide)] at H; exact H
     clear H
     have H := H1
     clear H1
     obtain rfl := Option.some.inj H
     go_enter Tryd.func11, Tryd.ntmps11
     go_wp2_with (first | ((with_reducible refine gate_callee (f := 23) rfl ?_); refine goesL_ (some 6) rfl rfl Tryd.func23 (by kernel_rfl) rfl #[.string a0] rfl (by (try simp only [List.map_toArray, List.map_cons, List.map_nil]); first | done | rfl | (simp only [List.length_drop, List.length_take]; rfl)) ?_; (with_reducible refine (spec_debTrim.calls k a0 t104 _ A2.out).mono ?_); rintro e w' ⟨rfl, ⟨nd, rfl⟩⟩; refine ⟨_, rfl, ?_⟩; have p5 : 0 ≤ (0 : Int) := (by omega); have q5 : 0 < t104.size := (by have : (0 : Int) < (t104.size : Int) := of_decide_eq_true (by first | (with_reducible assumption) | assumption); omega); have hx5 : ∀ h : 0 < t104.size, ((t104[0]'h).toNat : Int) = bt t104 0 := bt_at t104 0; clear p5; have qi5 : (0 < (t104.size : Int)) = True := eq_true (of_decide_eq_true (by first | (with_reducible assumption) | assumption)); replace q5 := eq_true q5) | (go_at_call 24; (with_reducible refine (spec_indexOf.calls k t104 58 t105 _ A7.out).mono ?_); rintro e w' ⟨rfl, ⟨nd, rfl⟩⟩) | ((with_reducible refine gate_callee (f := 25) rfl ?_); refine goesL_ (some 26) rfl rfl Tryd.func25 (by kernel_rfl) rfl #[.string a0] rfl (by (try simp only [List.map_toArray, List.map_cons, List.map_nil]); first | done | rfl | (simp only [List.length_drop, List.length_take]; rfl)) ?_; (with_reducible refine (spec_Ascii.calls k a0 false _ A8.out).mono ?_); rintro e w' ⟨rfl, ⟨nd, rfl⟩⟩; refine ⟨_, rfl, ?_⟩))
     go_ret
     exact ⟨by first | rfl | (simp; done) | (simp [*]; done), by repeat (first | exact Drawn0.refl _ | apply Drawn0.step)⟩
   ·rw [if_neg c6] at H
    have c6b0 : ((bt t104 0) == 43) = false := beq_eq_false_iff_ne.mpr c6
    have c6b1 : ((bt t104 0) != 43) = true := bne_iff_ne.mpr c6
    by_cases c13 : (bt t104 0) = 45
    ·rw [if_pos c13] at H
     have c13b0 : ((bt t104 0) == 45) = true := beq_iff_eq.mpr c13
     have c13b1 : ((bt t104 0) != 45) = false := bne_eq_false_iff_eq.mpr c13
     clear c13
     replace H := Option.bind_eq_some_iff.mp H
     obtain ⟨t108, A140, H⟩ := H
     replace H : ((spec_Ascii.f k a0).bind fun t109 => (if t109 = true then ((spec_indexOf.f k a0 0).bind fun t110 => (if t110 < 0 then (some (!(decide (t108 ≥ 0)))) else (some false))) else (some false))) = some r := H
     have A14 := Aside0.mk A140
     clear A140
     replace H := Option.bind_eq_some_iff.mp H
     obtain ⟨t109, A150, H⟩ := H
     replace H : (if t109 = true then ((spec_indexOf.f k a0 0).bind fun t110 => (if t110 < 0 then (some (!(decide (t108 ≥ 0)))) else (some false))) else (some false)) = some r := H
     have A15 := Aside0.mk A150
     clear A150
     by_cases c16 : t109 = true
     ·subst c16
      have H1 : ((spec_indexOf.f k a0 0).bind fun t110 => (if t110 < 0 then (some (!(decide (t108 ≥ 0)))) else (some false))) = some r := by rw [if_pos rfl] at H; exact H
      clear H
      have H := H1
      clear H1
      replace H := Option.bind_eq_some_iff.mp H
      obtain ⟨t110, A170, H⟩ := H
      replace H : (if t110 < 0 then (some (!(decide (t108 ≥ 0)))) else (some false)) = some r := H
      have A17 := Aside0.mk A170
      clear A170
      by_cases c18 : t110 < 0
      ·rw [if_pos c18] at H
       have c18b0 : decide (t110 < 0) = true := decide_eq_true c18
       clear c18
       obtain rfl := Option.some.inj H
       go_enter Tryd.func11, Tryd.ntmps11
       go_wp2_with (first | ((with_reducible refine gate_callee (f := 23) rfl ?_); refine goesL_ (some 6) rfl rfl Tryd.func23 (by kernel_rfl) rfl #[.string a0] rfl (by (try simp only [List.map_toArray, List.map_cons, List.map_nil]); first | done | rfl | (simp only [List.length_drop, List.length_take]; rfl)) ?_; (with_reducible refine (spec_debTrim.calls k a0 t104 _ A2.out).mono ?_); rintro e w' ⟨rfl, ⟨nd, rfl⟩⟩; refine ⟨_, rfl, ?_⟩; have p5 : 0 ≤ (0 : Int) := (by omega); have q5 : 0 < t104.size := (by have : (0 : Int) < (t104.size : Int) := of_decide_eq_true (by first | (with_reducible assumption) | assumption); omega); have hx5 : ∀ h : 0 < t104.size, ((t104[0]'h).toNat : Int) = bt t104 0 := bt_at t104 0; clear p5; have qi5 : (0 < (t104.size : Int)) = True := eq_true (of_decide_eq_true (by first | (with_reducible assumption) | assumption)); replace q5 := eq_true q5; have p12 : 0 ≤ (0 : Int) := (by omega); have q12 : 0 < t104.size := (by have : (0 : Int) < (t104.size : Int) := of_decide_eq_true (by first | (with_reducible assumption) | assumption); omega); have hx12 : ∀ h : 0 < t104.size, ((t104[0]'h).toNat : Int) = bt t104 0 := bt_at t104 0; clear p12; have qi12 : (0 < (t104.size : Int)) = True := eq_true (of_decide_eq_true (by first | (with_reducible assumption) | assumption)); replace q12 := eq_true q12) | (go_at_call 24; (with_reducible refine (spec_indexOf.calls k t104 58 t108 _ A14.out).mono ?_); rintro e w' ⟨rfl, ⟨nd, rfl⟩⟩) | ((with_reducible refine gate_callee (f := 25) rfl ?_); refine goesL_ (some 26) rfl rfl Tryd.func25 (by kernel_rfl) rfl #[.string a0] rfl (by (try simp only [List.map_toArray, List.map_cons, List.map_nil]); first | done | rfl | (simp only [List.length_drop, List.length_take]; rfl)) ?_; (with_reducible refine (spec_Ascii.calls k a0 true _ A15.out).mono ?_); rintro e w' ⟨rfl, ⟨nd, rfl⟩⟩; refine ⟨_, rfl, ?_⟩) | (go_at_call 24; (with_reducible refine (spec_indexOf.calls k a0 0 t110 _ A17.out).mono ?_); rintro e w' ⟨rfl, ⟨nd, rfl⟩⟩))
       go_ret
       exact ⟨by first | rfl | (simp; done) | (simp [*]; done), by repeat (first | exact Drawn0.refl _ | apply Drawn0.step)⟩
      ·rw [if_neg c18] at H
       have c18b0 : decide (t110 < 0) = false := decide_eq_false c18
       clear c18
       obtain rfl := Option.some.inj H
       go_enter Tryd.func11, Tryd.ntmps11
       go_wp2_with (first | ((with_reducible refine gate_callee (f := 23) rfl ?_); refine goesL_ (some 6) rfl rfl Tryd.func23 (by kernel_rfl) rfl #[.string a0] rfl (by (try simp only [List.map_toArray, List.map_cons, List.map_nil]); first | done | rfl | (simp only [List.length_drop, List.length_take]; rfl)) ?_; (with_reducible refine (spec_debTrim.calls k a0 t104 _ A2.out).mono ?_); rintro e w' ⟨rfl, ⟨nd, rfl⟩⟩; refine ⟨_, rfl, ?_⟩; have p5 : 0 ≤ (0 : Int) := (by omega); have q5 : 0 < t104.size := (by have : (0 : Int) < (t104.size : Int) := of_decide_eq_true (by first | (with_reducible assumption) | assumption); omega); have hx5 : ∀ h : 0 < t104.size, ((t104[0]'h).toNat : Int) = bt t104 0 := bt_at t104 0; clear p5; have qi5 : (0 < (t104.size : Int)) = True := eq_true (of_decide_eq_true (by first | (with_reducible assumption) | assumption)); replace q5 := eq_true q5; have p12 : 0 ≤ (0 : Int) := (by omega); have q12 : 0 < t104.size := (by have : (0 : Int) < (t104.size : Int) := of_decide_eq_true (by first | (with_reducible assumption) | assumption); omega); have hx12 : ∀ h : 0 < t104.size, ((t104[0]'h).toNat : Int) = bt t104 0 := bt_at t104 0; clear p12; have qi12 : (0 < (t104.size : Int)) = True := eq_true (of_decide_eq_true (by first | (with_reducible assumption) | assumption)); replace q12 := eq_true q12) | (go_at_call 24; (with_reducible refine (spec_indexOf.calls k t104 58 t108 _ A14.out).mono ?_); rintro e w' ⟨rfl, ⟨nd, rfl⟩⟩) | ((with_reducible refine gate_callee (f := 25) rfl ?_); refine goesL_ (some 26) rfl rfl Tryd.func25 (by kernel_rfl) rfl #[.string a0] rfl (by (try simp only [List.map_toArray, List.map_cons, List.map_nil]); first | done | rfl | (simp only [List.length_drop, List.length_take]; rfl)) ?_; (with_reducible refine (spec_Ascii.calls k a0 true _ A15.out).mono ?_); rintro e w' ⟨rfl, ⟨nd, rfl⟩⟩; refine ⟨_, rfl, ?_⟩) | (go_at_call 24; (with_reducible refine (spec_indexOf.calls k a0 0 t110 _ A17.out).mono ?_); rintro e w' ⟨rfl, ⟨nd, rfl⟩⟩))
       go_ret
       exact ⟨by first | rfl | (simp; done) | (simp [*]; done), by repeat (first | exact Drawn0.refl _ | apply Drawn0.step)⟩
     ·replace c16 := Bool.eq_false_iff.mpr c16
      subst c16
      have H1 : (some false) = some r := by rw [if_neg (show ¬ (false = true) by decide)] at H; exact H
      clear H
      have H := H1
      clear H1
      obtain rfl := Option.some.inj H
      go_enter Tryd.func11, Tryd.ntmps11
      go_wp2_with (first | ((with_reducible refine gate_callee (f := 23) rfl ?_); refine goesL_ (some 6) rfl rfl Tryd.func23 (by kernel_rfl) rfl #[.string a0] rfl (by (try simp only [List.map_toArray, List.map_cons, List.map_nil]); first | done | rfl | (simp only [List.length_drop, List.length_take]; rfl)) ?_; (with_reducible refine (spec_debTrim.calls k a0 t104 _ A2.out).mono ?_); rintro e w' ⟨rfl, ⟨nd, rfl⟩⟩; refine ⟨_, rfl, ?_⟩; have p5 : 0 ≤ (0 : Int) := (by omega); have q5 : 0 < t104.size := (by have : (0 : Int) < (t104.size : Int) := of_decide_eq_true (by first | (with_reducible assumption) | assumption); omega); have hx5 : ∀ h : 0 < t104.size, ((t104[0]'h).toNat : Int) = bt t104 0 := bt_at t104 0; clear p5; have qi5 : (0 < (t104.size : Int)) = True := eq_true (of_decide_eq_true (by first | (with_reducible assumption) | assumption)); replace q5 := eq_true q5; have p12 : 0 ≤ (0 : Int) := (by omega); have q12 : 0 < t104.size := (by have : (0 : Int) < (t104.size : Int) := of_decide_eq_true (by first | (with_reducible assumption) | assumption); omega); have hx12 : ∀ h : 0 < t104.size, ((t104[0]'h).toNat : Int) = bt t104 0 := bt_at t104 0; clear p12; have qi12 : (0 < (t104.size : Int)) = True := eq_true (of_decide_eq_true (by first | (with_reducible assumption) | assumption)); replace q12 := eq_true q12) | (go_at_call 24; (with_reducible refine (spec_indexOf.calls k t104 58 t108 _ A14.out).mono ?_); rintro e w' ⟨rfl, ⟨nd, rfl⟩⟩) | ((with_reducible refine gate_callee (f := 25) rfl ?_); refine goesL_ (some 26) rfl rfl Tryd.func25 (by kernel_rfl) rfl #[.string a0] rfl (by (try simp only [List.map_toArray, List.map_cons, List.map_nil]); first | done | rfl | (simp only [List.length_drop, List.length_take]; rfl)) ?_; (with_reducible refine (spec_Ascii.calls k a0 false _ A15.out).mono ?_); rintro e w' ⟨rfl, ⟨nd, rfl⟩⟩; refine ⟨_, rfl, ?_⟩))
      go_ret
      exact ⟨by first | rfl | (simp; done) | (simp [*]; done), by repeat (first | exact Drawn0.refl _ | apply Drawn0.step)⟩
    ·rw [if_neg c13] at H
     have c13b0 : ((bt t104 0) == 45) = false := beq_eq_false_iff_ne.mpr c13
     have c13b1 : ((bt t104 0) != 45) = true := bne_iff_ne.mpr c13
     replace H := Option.bind_eq_some_iff.mp H
     obtain ⟨t111, A190, H⟩ := H
     replace H : (if t111 = true then ((spec_indexOf.f k a0 0).bind fun t112 => (if t112 < 0 then (some (!false)) else (some false))) else (some false)) = some r := H
     have A19 := Aside0.mk A190
     clear A190
     by_cases c20 : t111 = true
     ·subst c20
      have H1 : ((spec_indexOf.f k a0 0).bind fun t112 => (if t112 < 0 then (some (!false)) else (some false))) = some r := by rw [if_pos rfl] at H; exact H
      clear H
      have H := H1
      clear H1
      replace H := Option.bind_eq_some_iff.mp H
      obtain ⟨t112, A210, H⟩ := H
      replace H : (if t112 < 0 then (some (!false)) else (some false)) = some r := H
      have A21 := Aside0.mk A210
      clear A210
      by_cases c22 : t112 < 0
      ·rw [if_pos c22] at H
       have c22b0 : decide (t112 < 0) = true := decide_eq_true c22
       clear c22
       obtain rfl := Option.some.inj H
       go_enter Tryd.func11, Tryd.ntmps11
       go_wp2_with (first | ((with_reducible refine gate_callee (f := 23) rfl ?_); refine goesL_ (some 6) rfl rfl Tryd.func23 (by kernel_rfl) rfl #[.string a0] rfl (by (try simp only [List.map_toArray, List.map_cons, List.map_nil]); first | done | rfl | (simp only [List.length_drop, List.length_take]; rfl)) ?_; (with_reducible refine (spec_debTrim.calls k a0 t104 _ A2.out).mono ?_); rintro e w' ⟨rfl, ⟨nd, rfl⟩⟩; refine ⟨_, rfl, ?_⟩; have p5 : 0 ≤ (0 : Int) := (by omega); have q5 : 0 < t104.size := (by have : (0 : Int) < (t104.size : Int) := of_decide_eq_true (by first | (with_reducible assumption) | assumption); omega); have hx5 : ∀ h : 0 < t104.size, ((t104[0]'h).toNat : Int) = bt t104 0 := bt_at t104 0; clear p5; have qi5 : (0 < (t104.size : Int)) = True := eq_true (of_decide_eq_true (by first | (with_reducible assumption) | assumption)); replace q5 := eq_true q5; have p12 : 0 ≤ (0 : Int) := (by omega); have q12 : 0 < t104.size := (by have : (0 : Int) < (t104.size : Int) := of_decide_eq_true (by first | (with_reducible assumption) | assumption); omega); have hx12 : ∀ h : 0 < t104.size, ((t104[0]'h).toNat : Int) = bt t104 0 := bt_at t104 0; clear p12; have qi12 : (0 < (t104.size : Int)) = True := eq_true (of_decide_eq_true (by first | (with_reducible assumption) | assumption)); replace q12 := eq_true q12) | ((with_reducible refine gate_callee (f := 25) rfl ?_); refine goesL_ (some 26) rfl rfl Tryd.func25 (by kernel_rfl) rfl #[.string a0] rfl (by (try simp only [List.map_toArray, List.map_cons, List.map_nil]); first | done | rfl | (simp only [List.length_drop, List.length_take]; rfl)) ?_; (with_reducible refine (spec_Ascii.calls k a0 true _ A19.out).mono ?_); rintro e w' ⟨rfl, ⟨nd, rfl⟩⟩; refine ⟨_, rfl, ?_⟩) | (go_at_call 24; (with_reducible refine (spec_indexOf.calls k a0 0 t112 _ A21.out).mono ?_); rintro e w' ⟨rfl, ⟨nd, rfl⟩⟩))
       go_ret
       exact ⟨by first | rfl | (simp; done) | (simp [*]; done), by repeat (first | exact Drawn0.refl _ | apply Drawn0.step)⟩
      ·rw [if_neg c22] at H
       have c22b0 : decide (t112 < 0) = false := decide_eq_false c22
       clear c22
       obtain rfl := Option.some.inj H
       go_enter Tryd.func11, Tryd.ntmps11
       go_wp2_with (first | ((with_reducible refine gate_callee (f := 23) rfl ?_); refine goesL_ (some 6) rfl rfl Tryd.func23 (by kernel_rfl) rfl #[.string a0] rfl (by (try simp only [List.map_toArray, List.map_cons, List.map_nil]); first | done | rfl | (simp only [List.length_drop, List.length_take]; rfl)) ?_; (with_reducible refine (spec_debTrim.calls k a0 t104 _ A2.out).mono ?_); rintro e w' ⟨rfl, ⟨nd, rfl⟩⟩; refine ⟨_, rfl, ?_⟩; have p5 : 0 ≤ (0 : Int) := (by omega); have q5 : 0 < t104.size := (by have : (0 : Int) < (t104.size : Int) := of_decide_eq_true (by first | (with_reducible assumption) | assumption); omega); have hx5 : ∀ h : 0 < t104.size, ((t104[0]'h).toNat : Int) = bt t104 0 := bt_at t104 0; clear p5; have qi5 : (0 < (t104.size : Int)) = True := eq_true (of_decide_eq_true (by first | (with_reducible assumption) | assumption)); replace q5 := eq_true q5; have p12 : 0 ≤ (0 : Int) := (by omega); have q12 : 0 < t104.size := (by have : (0 : Int) < (t104.size : Int) := of_decide_eq_true (by first | (with_reducible assumption) | assumption); omega); have hx12 : ∀ h : 0 < t104.size, ((t104[0]'h).toNat : Int) = bt t104 0 := bt_at t104 0; clear p12; have qi12 : (0 < (t104.size : Int)) = True := eq_true (of_decide_eq_true (by first | (with_reducible assumption) | assumption)); replace q12 := eq_true q12) | ((with_reducible refine gate_callee (f := 25) rfl ?_); refine goesL_ (some 26) rfl rfl Tryd.func25 (by kernel_rfl) rfl #[.string a0] rfl (by (try simp only [List.map_toArray, List.map_cons, List.map_nil]); first | done | rfl | (simp only [List.length_drop, List.length_take]; rfl)) ?_; (with_reducible refine (spec_Ascii.calls k a0 true _ A19.out).mono ?_); rintro e w' ⟨rfl, ⟨nd, rfl⟩⟩; refine ⟨_, rfl, ?_⟩) | (go_at_call 24; (with_reducible refine (spec_indexOf.calls k a0 0 t112 _ A21.out).mono ?_); rintro e w' ⟨rfl, ⟨nd, rfl⟩⟩))
       go_ret
       exact ⟨by first | rfl | (simp; done) | (simp [*]; done), by repeat (first | exact Drawn0.refl _ | apply Drawn0.step)⟩
     ·replace c20 := Bool.eq_false_iff.mpr c20
      subst c20
      have H1 : (some false) = some r := by rw [if_neg (show ¬ (false = true) by decide)] at H; exact H
      clear H
      have H := H1
      clear H1
      obtain rfl := Option.some.inj H
      go_enter Tryd.func11, Tryd.ntmps11
      go_wp2_with (first | ((with_reducible refine gate_callee (f := 23) rfl ?_); refine goesL_ (some 6) rfl rfl Tryd.func23 (by kernel_rfl) rfl #[.string a0] rfl (by (try simp only [List.map_toArray, List.map_cons, List.map_nil]); first | done | rfl | (simp only [List.length_drop, List.length_take]; rfl)) ?_; (with_reducible refine (spec_debTrim.calls k a0 t104 _ A2.out).mono ?_); rintro e w' ⟨rfl, ⟨nd, rfl⟩⟩; refine ⟨_, rfl, ?_⟩; have p5 : 0 ≤ (0 : Int) := (by omega); have q5 : 0 < t104.size := (by have : (0 : Int) < (t104.size : Int) := of_decide_eq_true (by first | (with_reducible assumption) | assumption); omega); have hx5 : ∀ h : 0 < t104.size, ((t104[0]'h).toNat : Int) = bt t104 0 := bt_at t104 0; clear p5; have qi5 : (0 < (t104.size : Int)) = True := eq_true (of_decide_eq_true (by first | (with_reducible assumption) | assumption)); replace q5 := eq_true q5; have p12 : 0 ≤ (0 : Int) := (by omega); have q12 : 0 < t104.size := (by have : (0 : Int) < (t104.size : Int) := of_decide_eq_true (by first | (with_reducible assumption) | assumption); omega); have hx12 : ∀ h : 0 < t104.size, ((t104[0]'h).toNat : Int) = bt t104 0 := bt_at t104 0; clear p12; have qi12 : (0 < (t104.size : Int)) = True := eq_true (of_decide_eq_true (by first | (with_reducible assumption) | assumption)); replace q12 := eq_true q12) | ((with_reducible refine gate_callee (f := 25) rfl ?_); refine goesL_ (some 26) rfl rfl Tryd.func25 (by kernel_rfl) rfl #[.string a0] rfl (by (try simp only [List.map_toArray, List.map_cons, List.map_nil]); first | done | rfl | (simp only [List.length_drop, List.length_take]; rfl)) ?_; (with_reducible refine (spec_Ascii.calls k a0 false _ A19.out).mono ?_); rintro e w' ⟨rfl, ⟨nd, rfl⟩⟩; refine ⟨_, rfl, ?_⟩))
      go_ret
      exact ⟨by first | rfl | (simp; done) | (simp [*]; done), by repeat (first | exact Drawn0.refl _ | apply Drawn0.step)⟩
  ·rw [if_neg c4] at H
   exact absurd H (by simp)
 ·rw [if_neg c3] at H
  have c3b0 : decide (0 < (t104.size : Int)) = false := decide_eq_false c3
  have c3b1 : decide (0 < t104.size) = false := decide_eq_false (by omega)
  clear c3
  replace H := Option.bind_eq_some_iff.mp H
  obtain ⟨t113, A230, H⟩ := H
  replace H : (if t113 = true then ((spec_indexOf.f k a0 0).bind fun t114 => (if t114 < 0 then (some (!false)) else (some false))) else (some false)) = some r := H
  have A23 := Aside0.mk A230
  clear A230
  by_cases c24 : t113 = true
  ·subst c24
   have H1 : ((spec_indexOf.f k a0 0).bind fun t114 => (if t114 < 0 then (some (!false)) else (some false))) = some r := by rw [if_pos rfl] at H; exact H
   clear H
   have H := H1
   clear H1
   replace H := Option.bind_eq_some_iff.mp H
   obtain ⟨t114, A250, H⟩ := H
   replace H : (if t114 < 0 then (some (!false)) else (some false)) = some r := H
   have A25 := Aside0.mk A250
   clear A250
   by_cases c26 : t114 < 0
   ·rw [if_pos c26] at H
    have c26b0 : decide (t114 < 0) = true := decide_eq_true c26
    clear c26
    obtain rfl := Option.some.inj H
    go_enter Tryd.func11, Tryd.ntmps11
    go_wp2_with (first | ((with_reducible refine gate_callee (f := 23) rfl ?_); refine goesL_ (some 6) rfl rfl Tryd.func23 (by kernel_rfl) rfl #[.string a0] rfl (by (try simp only [List.map_toArray, List.map_cons, List.map_nil]); first | done | rfl | (simp only [List.length_drop, List.length_take]; rfl)) ?_; (with_reducible refine (spec_debTrim.calls k a0 t104 _ A2.out).mono ?_); rintro e w' ⟨rfl, ⟨nd, rfl⟩⟩; refine ⟨_, rfl, ?_⟩) | ((with_reducible refine gate_callee (f := 25) rfl ?_); refine goesL_ (some 26) rfl rfl Tryd.func25 (by kernel_rfl) rfl #[.string a0] rfl (by (try simp only [List.map_toArray, List.map_cons, List.map_nil]); first | done | rfl | (simp only [List.length_drop, List.length_take]; rfl)) ?_; (with_reducible refine (spec_Ascii.calls k a0 true _ A23.out).mono ?_); rintro e w' ⟨rfl, ⟨nd, rfl⟩⟩; refine ⟨_, rfl, ?_⟩) | (go_at_call 24; (with_reducible refine (spec_indexOf.calls k a0 0 t114 _ A25.out).mono ?_); rintro e w' ⟨rfl, ⟨nd, rfl⟩⟩))
    go_ret
    exact ⟨by first | rfl | (simp; done) | (simp [*]; done), by repeat (first | exact Drawn0.refl _ | apply Drawn0.step)⟩
   ·rw [if_neg c26] at H
    have c26b0 : decide (t114 < 0) = false := decide_eq_false c26
    clear c26
    obtain rfl := Option.some.inj H
    go_enter Tryd.func11, Tryd.ntmps11
    go_wp2_with (first | ((with_reducible refine gate_callee (f := 23) rfl ?_); refine goesL_ (some 6) rfl rfl Tryd.func23 (by kernel_rfl) rfl #[.string a0] rfl (by (try simp only [List.map_toArray, List.map_cons, List.map_nil]); first | done | rfl | (simp only [List.length_drop, List.length_take]; rfl)) ?_; (with_reducible refine (spec_debTrim.calls k a0 t104 _ A2.out).mono ?_); rintro e w' ⟨rfl, ⟨nd, rfl⟩⟩; refine ⟨_, rfl, ?_⟩) | ((with_reducible refine gate_callee (f := 25) rfl ?_); refine goesL_ (some 26) rfl rfl Tryd.func25 (by kernel_rfl) rfl #[.string a0] rfl (by (try simp only [List.map_toArray, List.map_cons, List.map_nil]); first | done | rfl | (simp only [List.length_drop, List.length_take]; rfl)) ?_; (with_reducible refine (spec_Ascii.calls k a0 true _ A23.out).mono ?_); rintro e w' ⟨rfl, ⟨nd, rfl⟩⟩; refine ⟨_, rfl, ?_⟩) | (go_at_call 24; (with_reducible refine (spec_indexOf.calls k a0 0 t114 _ A25.out).mono ?_); rintro e w' ⟨rfl, ⟨nd, rfl⟩⟩))
    go_ret
    exact ⟨by first | rfl | (simp; done) | (simp [*]; done), by repeat (first | exact Drawn0.refl _ | apply Drawn0.step)⟩
  ·replace c24 := Bool.eq_false_iff.mpr c24
   subst c24
   have H1 : (some false) = some r := by rw [if_neg (show ¬ (false = true) by decide)] at H; exact H
   clear H
   have H := H1
   clear H1
   obtain rfl := Option.some.inj H
   go_enter Tryd.func11, Tryd.ntmps11
   go_wp2_with (first | ((with_reducible refine gate_callee (f := 23) rfl ?_); refine goesL_ (some 6) rfl rfl Tryd.func23 (by kernel_rfl) rfl #[.string a0] rfl (by (try simp only [List.map_toArray, List.map_cons, List.map_nil]); first | done | rfl | (simp only [List.length_drop, List.length_take]; rfl)) ?_; (with_reducible refine (spec_debTrim.calls k a0 t104 _ A2.out).mono ?_); rintro e w' ⟨rfl, ⟨nd, rfl⟩⟩; refine ⟨_, rfl, ?_⟩) | ((with_reducible refine gate_callee (f := 25) rfl ?_); refine goesL_ (some 26) rfl rfl Tryd.func25 (by kernel_rfl) rfl #[.string a0] rfl (by (try simp only [List.map_toArray, List.map_cons, List.map_nil]); first | done | rfl | (simp only [List.length_drop, List.length_take]; rfl)) ?_; (with_reducible refine (spec_Ascii.calls k a0 false _ A23.out).mono ?_); rintro e w' ⟨rfl, ⟨nd, rfl⟩⟩; refine ⟨_, rfl, ?_⟩))
   go_ret
   exact ⟨by first | rfl | (simp; done) | (simp [*]; done), by repeat (first | exact Drawn0.refl _ | apply Drawn0.step)⟩

/-! ### bigall_nat_cmp: function 76 -/
mutual
def bigall_nat_cmp.j0 : Nat → List Int → List Int → Int → Int → Int → Bool → Option (Int)
 | 0, _, _, _, _, _, _ => none
 | k + 1, x0, x1, x4, x5, x6, x18 => if x18 = true then (if x5 < x6 then (some (-1)) else (if x5 > x6 then (some 1) else (some x4))) else (bigall_nat_cmp.l0 k x0 x1 x4 (wrap64 (x5 - 1)))
def bigall_nat_cmp.j2 : Nat → List Int → List Int → Int → Int → Option (Int)
 | 0, _, _, _, _ => none
 | k + 1, x0, x1, x4, x7 => if 0 ≤ x7 then (if x7 < (x0.length : Int) then (if x7 < (x1.length : Int) then (if (rd x0 x7) < (rd x1 x7) then (some (-1)) else (if (rd x0 x7) > (rd x1 x7) then (some 1) else (some x4))) else (none)) else (none)) else (none)
def bigall_nat_cmp.l0 : Nat → List Int → List Int → Int → Int → Option (Int)
 | 0, _, _, _, _ => none
 | k + 1, x0, x1, x4, x7 => if x7 > 0 then (if 0 ≤ x7 then (if x7 < (x0.length : Int) then (if x7 < (x1.length : Int) then (if (rd x0 x7) = (rd x1 x7) then (bigall_nat_cmp.l0 k x0 x1 x4 (wrap64 (x7 - 1))) else (bigall_nat_cmp.j2 k x0 x1 x4 x7)) else (none)) else (none)) else (none)) else (bigall_nat_cmp.j2 k x0 x1 x4 x7)
end
def bigall_nat_cmp.f (k : Nat) (l0 : List Int) (l1 : List Int) : Option (Int) := if (l0.length : Int) = (l1.length : Int) then (bigall_nat_cmp.j0 k l0 l1 0 (l0.length : Int) (l1.length : Int) ((l0.length : Int) == 0)) else (bigall_nat_cmp.j0 k l0 l1 0 (l0.length : Int) (l1.length : Int) true)
theorem bigall_nat_cmp.mono_l : ∀ k, (∀ y0 y1 y2 y3 y4 y5, LeO (bigall_nat_cmp.j0 k y0 y1 y2 y3 y4 y5) (bigall_nat_cmp.j0 (k + 1) y0 y1 y2 y3 y4 y5)) ∧ (∀ y0 y1 y2 y3, LeO (bigall_nat_cmp.j2 k y0 y1 y2 y3) (bigall_nat_cmp.j2 (k + 1) y0 y1 y2 y3)) ∧ (∀ y0 y1 y2 y3, LeO (bigall_nat_cmp.l0 k y0 y1 y2 y3) (bigall_nat_cmp.l0 (k + 1) y0 y1 y2 y3))
 | 0 => ⟨fun _ _ _ _ _ _ r h => by simp [bigall_nat_cmp.j0] at h, fun _ _ _ _ r h => by simp [bigall_nat_cmp.j2] at h, fun _ _ _ _ r h => by simp [bigall_nat_cmp.l0] at h⟩
 | k + 1 => by
  obtain ⟨ih0, ih1, ih2⟩ := bigall_nat_cmp.mono_l k
  refine ⟨?_, ?_, ?_⟩
  ·intro y0 y1 y2 y3 y4 y5
   unfold bigall_nat_cmp.j0
   repeat' first
   | (with_reducible exact ih0 _ _ _ _ _ _)
   | (with_reducible exact ih1 _ _ _ _)
   | (with_reducible exact ih2 _ _ _ _)
   | (with_reducible exact LeO.refl _)
   | (with_reducible exact LeO.none _)
   | (with_reducible refine LeO.ite ?_ ?_)
   | (with_reducible refine LeO.bind ?_ (fun _ => ?_))
   | exact ih0 _ _ _ _ _ _
   | exact ih1 _ _ _ _
   | exact ih2 _ _ _ _
   | exact LeO.none _
   | refine LeO.ite ?_ ?_
   | refine LeO.bind ?_ (fun _ => ?_)
  ·intro y0 y1 y2 y3
   unfold bigall_nat_cmp.j2
   repeat' first
   | (with_reducible exact ih0 _ _ _ _ _ _)
   | (with_reducible exact ih1 _ _ _ _)
   | (with_reducible exact ih2 _ _ _ _)
   | (with_reducible exact LeO.refl _)
   | (with_reducible exact LeO.none _)
   | (with_reducible refine LeO.ite ?_ ?_)
   | (with_reducible refine LeO.bind ?_ (fun _ => ?_))
   | exact ih0 _ _ _ _ _ _
   | exact ih1 _ _ _ _
   | exact ih2 _ _ _ _
   | exact LeO.none _
   | refine LeO.ite ?_ ?_
   | refine LeO.bind ?_ (fun _ => ?_)
  ·intro y0 y1 y2 y3
   unfold bigall_nat_cmp.l0
   repeat' first
   | (with_reducible exact ih0 _ _ _ _ _ _)
   | (with_reducible exact ih1 _ _ _ _)
   | (with_reducible exact ih2 _ _ _ _)
   | (with_reducible exact LeO.refl _)
   | (with_reducible exact LeO.none _)
   | (with_reducible refine LeO.ite ?_ ?_)
   | (with_reducible refine LeO.bind ?_ (fun _ => ?_))
   | exact ih0 _ _ _ _ _ _
   | exact ih1 _ _ _ _
   | exact ih2 _ _ _ _
   | exact LeO.none _
   | refine LeO.ite ?_ ?_
   | refine LeO.bind ?_ (fun _ => ?_)
theorem bigall_nat_cmp.mono : ∀ a0 a1 k, LeO (bigall_nat_cmp.f k a0 a1) (bigall_nat_cmp.f (k + 1) a0 a1) := by
 intro a0 a1 k
 obtain ⟨ih0, ih1, ih2⟩ := bigall_nat_cmp.mono_l k
 unfold bigall_nat_cmp.f
 repeat' first
   | (with_reducible exact ih0 _ _ _ _ _ _)
   | (with_reducible exact ih1 _ _ _ _)
   | (with_reducible exact ih2 _ _ _ _)
   | (with_reducible exact LeO.refl _)
   | (with_reducible exact LeO.none _)
   | (with_reducible refine LeO.ite ?_ ?_)
   | (with_reducible refine LeO.bind ?_ (fun _ => ?_))
   | exact ih0 _ _ _ _ _ _
   | exact ih1 _ _ _ _
   | exact ih2 _ _ _ _
   | exact LeO.none _
   | refine LeO.ite ?_ ?_
   | refine LeO.bind ?_ (fun _ => ?_)
set_option maxHeartbeats 8000000 in
set_option maxRecDepth 100000 in
theorem bigall_nat_cmp.calls (k : Nat) (A0 : Option Addr) (c0 : Nat) (l0 : List Int) (A1 : Option Addr) (c1 : Nat) (l1 : List Int) (r : Int) (w : World) (hr0 : Kd.C (Kd.int .u64) w A0 l0.length l0) (hc0 : l0.length ≤ c0) (hr1 : Kd.C (Kd.int .u64) w A1 l1.length l1) (hc1 : l1.length ≤ c1) (h : bigall_nat_cmp.f k l0 l1 = some r) :
  Calls Tryd.prog 76 #[.slice A0 l0.length c0, .slice A1 l1.length c1] w fun e w' => e = .returned (.int .i64 r) ∧ Drawn0 w w' := by
 have HR0 := Aside0.mk hr0
 have HC0 := Aside0.mk hc0
 clear hr0 hc0
 have HR1 := Aside0.mk hr1
 have HC1 := Aside0.mk hc1
 clear hr1 hc1
 have H : (if (l0.length : Int) = (l1.length : Int) then (bigall_nat_cmp.j0 k l0 l1 0 (l0.length : Int) (l1.length : Int) ((l0.length : Int) == 0)) else (bigall_nat_cmp.j0 k l0 l1 0 (l0.length : Int) (l1.length : Int) true)) = some r := h
 clear h
 have HC3 := Aside0.mk H
 clear H
 go_enter Tryd.func76, Tryd.ntmps76
 go_upto_region 3 with (fail)
 repeat (go_quiet (fail); go_upto_region 3 with (fail))
 go_cut [18] (fun v18 wc => ∃ (kq : Nat) (x18_2 : Bool), v18 = .bool x18_2 ∧ Aside0 (bigall_nat_cmp.j0 kq l0 l1 0 (l0.length : Int) (l1.length : Int) x18_2 = some r) ∧ Aside0 (kq ≤ k) ∧ Drawn0 w wc)
 case first =>
  have H := HC3.out
  clear HC3
  by_cases c4 : (l0.length : Int) = (l1.length : Int)
  ·rw [if_pos c4] at H
   have c4b0 : ((l0.length : Int) == (l1.length : Int)) = true := beq_iff_eq.mpr c4
   have c4b1 : ((l0.length : Int) != (l1.length : Int)) = false := bne_eq_false_iff_eq.mpr c4
   have c4b2 : (l0.length == l1.length) = true := by first | simpa using c4 | (simp at c4 ⊢; omega)
   clear c4
   (first | rw [c4b0] | (simp only [i64_w, i32_w]; rw [c4b0]) | skip)
   have H' := Aside0.mk H
   clear H
   go_wp2
   repeat (go_quiet (fail); try go_wp2)
   go_meet
   case rel => exact ⟨_, (((l0.length : Int) == 0)), (by first | rfl | (simp; done) | (simp [*]; done)), H', ⟨by first | omega | exact Nat.le_refl _⟩, by repeat (first | exact Drawn0.refl _ | apply Drawn0.step)⟩
  ·rw [if_neg c4] at H
   have c4b0 : ((l0.length : Int) == (l1.length : Int)) = false := beq_eq_false_iff_ne.mpr c4
   have c4b1 : ((l0.length : Int) != (l1.length : Int)) = true := bne_iff_ne.mpr c4
   have c4b2 : (l0.length == l1.length) = false := by first | simpa using c4 | (simp at c4 ⊢; omega)
   (first | rw [c4b0] | (simp only [i64_w, i32_w]; rw [c4b0]) | skip)
   have H' := Aside0.mk H
   clear H
   go_wp2
   repeat (go_quiet (fail); try go_wp2)
   go_meet
   case rel => exact ⟨_, (true), (by first | rfl | (simp; done) | (simp [*]; done)), H', ⟨by first | omega | exact Nat.le_refl _⟩, by repeat (first | exact Drawn0.refl _ | apply Drawn0.step)⟩
 case rest =>
  clear HC3
  try clear c1
  try clear p2
  try clear c4
  try clear c4b0
  try clear c4b1
  try clear c4b2
  obtain ⟨kq, x18_2, rfl, HA, HJ2, ⟨mc2, rfl⟩⟩ := hcut
  cases kq with
  | zero => exact absurd HA.out (by simp [bigall_nat_cmp.j0])
  | succ kj2 =>
   have H := HA.out
   clear HA
   simp only [bigall_nat_cmp.j0] at H
   by_cases c5 : x18_2 = true
   ·subst c5
    have H1 : (if (l0.length : Int) < (l1.length : Int) then (some (-1)) else (if (l0.length : Int) > (l1.length : Int) then (some 1) else (some 0))) = some r := by rw [if_pos rfl] at H; exact H
    clear H
    have H := H1
    clear H1
    by_cases c6 : (l0.length : Int) < (l1.length : Int)
    ·rw [if_pos c6] at H
     have c6b0 : decide ((l0.length : Int) < (l1.length : Int)) = true := decide_eq_true c6
     have c6b1 : decide (l0.length < l1.length) = true := decide_eq_true (Int.ofNat_lt.mp c6)
     clear c6
     obtain rfl := Option.some.inj H
     go_wp2
     repeat (go_quiet (fail); try go_wp2)
     go_ret
     exact ⟨by first | rfl | (simp; done) | (simp [*]; done), by repeat (first | exact Drawn0.refl _ | apply Drawn0.step)⟩
    ·rw [if_neg c6] at H
     have c6b0 : decide ((l0.length : Int) < (l1.length : Int)) = false := decide_eq_false c6
     have c6b1 : decide (l0.length < l1.length) = false := decide_eq_false (fun h => c6 (Int.ofNat_lt.mpr h))
     clear c6
     by_cases c7 : (l0.length : Int) > (l1.length : Int)
     ·rw [if_pos c7] at H
      have c7b0 : decide ((l1.length : Int) < (l0.length : Int)) = true := decide_eq_true c7
      have c7b1 : decide (l1.length < l0.length) = true := decide_eq_true (Int.ofNat_lt.mp c7)
      clear c7
      obtain rfl := Option.some.inj H
      go_wp2
      repeat (go_quiet (fail); try go_wp2)
      go_ret
      exact ⟨by first | rfl | (simp; done) | (simp [*]; done), by repeat (first | exact Drawn0.refl _ | apply Drawn0.step)⟩
     ·rw [if_neg c7] at H
      have c7b0 : decide ((l1.length : Int) < (l0.length : Int)) = false := decide_eq_false c7
      have c7b1 : decide (l1.length < l0.length) = false := decide_eq_false (fun h => c7 (Int.ofNat_lt.mpr h))
      clear c7
      obtain rfl := Option.some.inj H
      go_wp2
      repeat (go_quiet (fail); try go_wp2)
      go_ret
      exact ⟨by first | rfl | (simp; done) | (simp [*]; done), by repeat (first | exact Drawn0.refl _ | apply Drawn0.step)⟩
   ·replace c5 := Bool.eq_false_iff.mpr c5
    subst c5
    have H1 : (bigall_nat_cmp.l0 kj2 l0 l1 0 (wrap64 ((l0.length : Int) - 1))) = some r := by rw [if_neg (show ¬ (false = true) by decide)] at H; exact H
    clear H
    have H := H1
    clear H1
    have HC8 := Aside0.mk H
    clear H
    go_upto_block 1 with (fail)
    repeat (go_quiet (fail); go_upto_block 1 with (fail))
    go_cut [7] (fun v7 wc => ∃ (kq : Nat) (x7_7 : Int), v7 = .int .i64 x7_7 ∧ Aside0 (bigall_nat_cmp.j2 kq l0 l1 0 x7_7 = some r) ∧ Aside0 (kq ≤ kj2) ∧ Drawn0 w wc)
    case first =>
     have H := HC8.out
     clear HC8
     have H' := Aside0.mk H
     clear H
     go_wp2
     repeat (go_quiet (fail); try go_wp2)
     go_loopg [7] kj2 (fun kq v7 w' => ∃ (x7_2 : Int), v7 = .int .i64 x7_2 ∧ Aside0 (bigall_nat_cmp.l0 kq l0 l1 0 x7_2 = some r) ∧ Aside0 (kq ≤ kj2) ∧ Drawn0 w w')
     case atStart => exact ⟨(wrap64 ((l0.length : Int) - 1)), (by first | rfl | (simp; done) | (simp [*]; done)), H', ⟨Nat.le_refl _⟩, by repeat (first | exact Drawn0.refl _ | apply Drawn0.step)⟩
     case round =>
      clear H'
      try clear c1
      try clear c2
      try clear p2
      try clear c4
      try clear c4b0
      try clear c4b1
      try clear c4b2
      try clear c5
      try clear c6
      try clear c6b0
      try clear c6b1
      try clear p6
      try clear c7
      try clear c7b0
      try clear c7b1
      try clear p2
      obtain ⟨x7_2, rfl, HA, HK2, ⟨m2, rfl⟩⟩ := hrel
      cases gk with
      | zero => exact absurd HA.out (by simp [bigall_nat_cmp.l0])
      | succ k2 =>
       have H := HA.out
       clear HA
       simp only [bigall_nat_cmp.l0] at H
       by_cases c9 : x7_2 > 0
       ·rw [if_pos c9] at H
        have c9b0 : decide (0 < x7_2) = true := decide_eq_true c9
        clear c9
        (first | rw [c9b0] | (simp only [i64_w, i32_w]; rw [c9b0]) | skip)
        by_cases c10 : 0 ≤ x7_2
        ·rw [if_pos c10] at H
         have c10b0 : decide (0 ≤ x7_2) = true := decide_eq_true c10
         clear c10
         by_cases c11 : x7_2 < (l0.length : Int)
         ·rw [if_pos c11] at H
          have c11b0 : decide (x7_2 < (l0.length : Int)) = true := decide_eq_true c11
          clear c11
          by_cases c12 : x7_2 < (l1.length : Int)
          ·rw [if_pos c12] at H
           have c12b0 : decide (x7_2 < (l1.length : Int)) = true := decide_eq_true c12
           clear c12
           by_cases c13 : (rd l0 x7_2) = (rd l1 x7_2)
           ·rw [if_pos c13] at H
            have c13b0 : ((rd l0 x7_2) == (rd l1 x7_2)) = true := beq_iff_eq.mpr c13
            have c13b1 : ((rd l0 x7_2) != (rd l1 x7_2)) = false := bne_eq_false_iff_eq.mpr c13
            clear c13
            have H' := Aside0.mk H
            clear H
            have p115 : 0 ≤ (x7_2 : Int) := of_decide_eq_true (by first | (with_reducible assumption) | assumption)
            have q115 : x7_2 < (l0.length : Int) := of_decide_eq_true (by first | (with_reducible assumption) | assumption)
            obtain ⟨ad115, e115, hx115_0⟩ := Kd.at_int HR0.out x7_2 p115 q115
            cases e115
            replace p115 := eq_true p115
            replace q115 := eq_true q115
            have p116 : 0 ≤ (x7_2 : Int) := of_decide_eq_true (by first | (with_reducible assumption) | assumption)
            have q116 : x7_2 < (l1.length : Int) := of_decide_eq_true (by first | (with_reducible assumption) | assumption)
            obtain ⟨ad116, e116, hx116_0⟩ := Kd.at_int HR1.out x7_2 p116 q116
            cases e116
            replace p116 := eq_true p116
            replace q116 := eq_true q116
            go_wp2
            repeat (go_quiet (fail); try go_wp2)
            go_roundg k2
            case measure => have := HJ2.out; have := HK2.out; omega
            case rel => exact ⟨(wrap64 (x7_2 - 1)), (by first | rfl | (simp; done) | (simp [*]; done)), H', ⟨by have := HJ2.out; have := HK2.out; omega⟩, by repeat (first | exact Drawn0.refl _ | apply Drawn0.step)⟩
           ·rw [if_neg c13] at H
            have c13b0 : ((rd l0 x7_2) == (rd l1 x7_2)) = false := beq_eq_false_iff_ne.mpr c13
            have c13b1 : ((rd l0 x7_2) != (rd l1 x7_2)) = true := bne_iff_ne.mpr c13
            have H' := Aside0.mk H
            clear H
            have p115 : 0 ≤ (x7_2 : Int) := of_decide_eq_true (by first | (with_reducible assumption) | assumption)
            have q115 : x7_2 < (l0.length : Int) := of_decide_eq_true (by first | (with_reducible assumption) | assumption)
            obtain ⟨ad115, e115, hx115_0⟩ := Kd.at_int HR0.out x7_2 p115 q115
            cases e115
            replace p115 := eq_true p115
            replace q115 := eq_true q115
            have p116 : 0 ≤ (x7_2 : Int) := of_decide_eq_true (by first | (with_reducible assumption) | assumption)
            have q116 : x7_2 < (l1.length : Int) := of_decide_eq_true (by first | (with_reducible assumption) | assumption)
            obtain ⟨ad116, e116, hx116_0⟩ := Kd.at_int HR1.out x7_2 p116 q116
            cases e116
            replace p116 := eq_true p116
            replace q116 := eq_true q116
            go_wp2
            repeat (go_quiet (fail); try go_wp2)
            go_meet
            case rel => exact ⟨_, (x7_2), (by first | rfl | (simp; done) | (simp [*]; done)), H', ⟨by have := HJ2.out; have := HK2.out; first | omega | exact Nat.le_refl _⟩, by repeat (first | exact Drawn0.refl _ | apply Drawn0.step)⟩
          ·rw [if_neg c12] at H
           exact absurd H (by simp)
         ·rw [if_neg c11] at H
          exact absurd H (by simp)
        ·rw [if_neg c10] at H
         exact absurd H (by simp)
       ·rw [if_neg c9] at H
        have c9b0 : decide (0 < x7_2) = false := decide_eq_false c9
        clear c9
        (first | rw [c9b0] | (simp only [i64_w, i32_w]; rw [c9b0]) | skip)
        have H' := Aside0.mk H
        clear H
        go_wp2
        repeat (go_quiet (fail); try go_wp2)
        go_meet
        case rel => exact ⟨_, (x7_2), (by first | rfl | (simp; done) | (simp [*]; done)), H', ⟨by have := HJ2.out; have := HK2.out; first | omega | exact Nat.le_refl _⟩, by repeat (first | exact Drawn0.refl _ | apply Drawn0.step)⟩
    case rest =>
     clear HC8
     try clear c1
     try clear p1
     try clear q1
     try clear hx1
     try clear c2
     try clear p2
     try clear c4
     try clear c4b0
     try clear c4b1
     try clear c4b2
     try clear c5
     try clear c6
     try clear c6b0
     try clear c6b1
     try clear p6
     try clear c7
     try clear c7b0
     try clear c7b1
     try clear c9
     try clear c9b0
     try clear c10
     try clear c10b0
     try clear c11
     try clear c11b0
     try clear p11
     try clear q11
     try clear hx11
     try clear c12
     try clear c12b0
     try clear c13
     try clear c13b0
     try clear c13b1
     try clear hx115_0
     try clear hx116_0
     try clear p115
     try clear p116
     try clear p2
     try clear p6
     try clear q115
     try clear q116
     obtain ⟨kq, x7_7, rfl, HA, HJ7, ⟨mc7, rfl⟩⟩ := hcut
     cases kq with
     | zero => exact absurd HA.out (by simp [bigall_nat_cmp.j2])
     | succ kj7 =>
      have H := HA.out
      clear HA
      simp only [bigall_nat_cmp.j2] at H
      by_cases c14 : 0 ≤ x7_7
      ·rw [if_pos c14] at H
       have c14b0 : decide (0 ≤ x7_7) = true := decide_eq_true c14
       clear c14
       by_cases c15 : x7_7 < (l0.length : Int)
       ·rw [if_pos c15] at H
        have c15b0 : decide (x7_7 < (l0.length : Int)) = true := decide_eq_true c15
        clear c15
        by_cases c16 : x7_7 < (l1.length : Int)
        ·rw [if_pos c16] at H
         have c16b0 : decide (x7_7 < (l1.length : Int)) = true := decide_eq_true c16
         clear c16
         by_cases c17 : (rd l0 x7_7) < (rd l1 x7_7)
         ·rw [if_pos c17] at H
          have c17b0 : decide ((rd l0 x7_7) < (rd l1 x7_7)) = true := decide_eq_true c17
          clear c17
          obtain rfl := Option.some.inj H
          have p117 : 0 ≤ (x7_7 : Int) := of_decide_eq_true (by first | (with_reducible assumption) | assumption)
          have q117 : x7_7 < (l0.length : Int) := of_decide_eq_true (by first | (with_reducible assumption) | assumption)
          obtain ⟨ad117, e117, hx117_0⟩ := Kd.at_int HR0.out x7_7 p117 q117
          cases e117
          replace p117 := eq_true p117
          replace q117 := eq_true q117
          have p118 : 0 ≤ (x7_7 : Int) := of_decide_eq_true (by first | (with_reducible assumption) | assumption)
          have q118 : x7_7 < (l1.length : Int) := of_decide_eq_true (by first | (with_reducible assumption) | assumption)
          obtain ⟨ad118, e118, hx118_0⟩ := Kd.at_int HR1.out x7_7 p118 q118
          cases e118
          replace p118 := eq_true p118
          replace q118 := eq_true q118
          go_wp2
          repeat (go_quiet (fail); try go_wp2)
          go_ret
          exact ⟨by first | rfl | (simp; done) | (simp [*]; done), by repeat (first | exact Drawn0.refl _ | apply Drawn0.step)⟩
         ·rw [if_neg c17] at H
          have c17b0 : decide ((rd l0 x7_7) < (rd l1 x7_7)) = false := decide_eq_false c17
          clear c17
          by_cases c18 : (rd l0 x7_7) > (rd l1 x7_7)
          ·rw [if_pos c18] at H
           have c18b0 : decide ((rd l1 x7_7) < (rd l0 x7_7)) = true := decide_eq_true c18
           clear c18
           obtain rfl := Option.some.inj H
           have p117 : 0 ≤ (x7_7 : Int) := of_decide_eq_true (by first | (with_reducible assumption) | assumption)
           have q117 : x7_7 < (l0.length : Int) := of_decide_eq_true (by first | (with_reducible assumption) | assumption)
           obtain ⟨ad117, e117, hx117_0⟩ := Kd.at_int HR0.out x7_7 p117 q117
           cases e117
           replace p117 := eq_true p117
           replace q117 := eq_true q117
           have p118 : 0 ≤ (x7_7 : Int) := of_decide_eq_true (by first | (with_reducible assumption) | assumption)
           have q118 : x7_7 < (l1.length : Int) := of_decide_eq_true (by first | (with_reducible assumption) | assumption)
           obtain ⟨ad118, e118, hx118_0⟩ := Kd.at_int HR1.out x7_7 p118 q118
           cases e118
           replace p118 := eq_true p118
           replace q118 := eq_true q118
           have p119 : 0 ≤ (x7_7 : Int) := of_decide_eq_true (by first | (with_reducible assumption) | assumption)
           have q119 : x7_7 < (l0.length : Int) := of_decide_eq_true (by first | (with_reducible assumption) | assumption)
           obtain ⟨ad119, e119, hx119_0⟩ := Kd.at_int HR0.out x7_7 p119 q119
           obtain rfl : ad117 = ad119 := (by injection e119)
           replace p119 := eq_true p119
           replace q119 := eq_true q119
           have p120 : 0 ≤ (x7_7 : Int) := of_decide_eq_true (by first | (with_reducible assumption) | assumption)
           have q120 : x7_7 < (l1.length : Int) := of_decide_eq_true (by first | (with_reducible assumption) | assumption)
           obtain ⟨ad120, e120, hx120_0⟩ := Kd.at_int HR1.out x7_7 p120 q120
           obtain rfl : ad118 = ad120 := (by injection e120)
           replace p120 := eq_true p120
           replace q120 := eq_true q120
           go_wp2
           repeat (go_quiet (fail); try go_wp2)
           go_ret
           exact ⟨by first | rfl | (simp; done) | (simp [*]; done), by repeat (first | exact Drawn0.refl _ | apply Drawn0.step)⟩
          ·rw [if_neg c18] at H
           have c18b0 : decide ((rd l1 x7_7) < (rd l0 x7_7)) = false := decide_eq_false c18
           clear c18
           obtain rfl := Option.some.inj H
           have p117 : 0 ≤ (x7_7 : Int) := of_decide_eq_true (by first | (with_reducible assumption) | assumption)
           have q117 : x7_7 < (l0.length : Int) := of_decide_eq_true (by first | (with_reducible assumption) | assumption)
           obtain ⟨ad117, e117, hx117_0⟩ := Kd.at_int HR0.out x7_7 p117 q117
           cases e117
           replace p117 := eq_true p117
           replace q117 := eq_true q117
           have p118 : 0 ≤ (x7_7 : Int) := of_decide_eq_true (by first | (with_reducible assumption) | assumption)
           have q118 : x7_7 < (l1.length : Int) := of_decide_eq_true (by first | (with_reducible assumption) | assumption)
           obtain ⟨ad118, e118, hx118_0⟩ := Kd.at_int HR1.out x7_7 p118 q118
           cases e118
           replace p118 := eq_true p118
           replace q118 := eq_true q118
           have p119 : 0 ≤ (x7_7 : Int) := of_decide_eq_true (by first | (with_reducible assumption) | assumption)
           have q119 : x7_7 < (l0.length : Int) := of_decide_eq_true (by first | (with_reducible assumption) | assumption)
           obtain ⟨ad119, e119, hx119_0⟩ := Kd.at_int HR0.out x7_7 p119 q119
           obtain rfl : ad117 = ad119 := (by injection e119)
           replace p119 := eq_true p119
           replace q119 := eq_true q119
           have p120 : 0 ≤ (x7_7 : Int) := of_decide_eq_true (by first | (with_reducible assumption) | assumption)
           have q120 : x7_7 < (l1.length : Int) := of_decide_eq_true (by first | (with_reducible assumption) | assumption)
           obtain ⟨ad120, e120, hx120_0⟩ := Kd.at_int HR1.out x7_7 p120 q120
           obtain rfl : ad118 = ad120 := (by injection e120)
           replace p120 := eq_true p120
           replace q120 := eq_true q120
           go_wp2
           repeat (go_quiet (fail); try go_wp2)
           go_ret
           exact ⟨by first | rfl | (simp; done) | (simp [*]; done), by repeat (first | exact Drawn0.refl _ | apply Drawn0.step)⟩
        ·rw [if_neg c16] at H
         exact absurd H (by simp)
       ·rw [if_neg c15] at H
        exact absurd H (by simp)
      ·rw [if_neg c14] at H
       exact absurd H (by simp)

end Go.Proofs.YtkcciinapkeaiaaDoor.Z
