-- Written by a program of this session (myprint.py).
import Derived.Test.YtkcciinapkeaiaaDoorZ0
import Derived.Test.YtkcciinapkeaiaaDoorZ15
import Derived.Test.YtkcciinapkeaiaaDoorGe
namespace Go.Proofs.YtkcciinapkeaiaaDoor.Z
open Go.Proofs.YtkcciinapkeaiaaDoor.Gw
open Go.RowKit Go.Proofs.YtkcciinapkeaiaaDoorW.PrintWords Go.Proofs.YtkcciinapkeaiaaDoorW.PrintLast Go.Proofs.YtkcciinapkeaiaaDoorW.PrintMore
attribute [local go_sem high] Go.Proofs.YtkcciinapkeaiaaDoor.Ge.gtr_str
attribute [local go_sem] max2_int min2_int max_two min_two max_three min_three max_four min_four   -- for this text's walks alone
set_option linter.unusedVariables false
set_option linter.unusedSimpArgs false

/-! ### laws_plain: function 9 -/
mutual
def laws_plain.l0 : Nat → ByteArray → ByteArray → Int → Option (Bool)
 | 0, _, _, _ => none
 | k + 1, x0, x1, x5 => if x5 < (x0.size : Int) then (if 0 ≤ x5 then (if (bt x0 x5) ≥ 48 then (if (bt x0 x5) ≤ 57 then (laws_plain.j1 k x0 x1 x5 (bt x0 x5) true) else (if (bt x0 x5) ≥ 97 then (if (bt x0 x5) ≤ 122 then (laws_plain.j1 k x0 x1 x5 (bt x0 x5) true) else (if (bt x0 x5) ≥ 65 then (laws_plain.j1 k x0 x1 x5 (bt x0 x5) (decide ((bt x0 x5) ≤ 90))) else (laws_plain.j1 k x0 x1 x5 (bt x0 x5) false))) else (if (bt x0 x5) ≥ 65 then (laws_plain.j1 k x0 x1 x5 (bt x0 x5) (decide ((bt x0 x5) ≤ 90))) else (laws_plain.j1 k x0 x1 x5 (bt x0 x5) false)))) else (if (bt x0 x5) ≥ 97 then (if (bt x0 x5) ≤ 122 then (laws_plain.j1 k x0 x1 x5 (bt x0 x5) true) else (if (bt x0 x5) ≥ 65 then (laws_plain.j1 k x0 x1 x5 (bt x0 x5) (decide ((bt x0 x5) ≤ 90))) else (laws_plain.j1 k x0 x1 x5 (bt x0 x5) false))) else (if (bt x0 x5) ≥ 65 then (laws_plain.j1 k x0 x1 x5 (bt x0 x5) (decide ((bt x0 x5) ≤ 90))) else (laws_plain.j1 k x0 x1 x5 (bt x0 x5) false)))) else (none)) else (some (!x0.toList.isEmpty))
def laws_plain.j1 : Nat → ByteArray → ByteArray → Int → Int → Bool → Option (Bool)
 | 0, _, _, _, _, _ => none
 | k + 1, x0, x1, x5, x6, x7 => laws_plain.l1 k x0 x1 x5 x6 x7 0
def laws_plain.l1 : Nat → ByteArray → ByteArray → Int → Int → Bool → Int → Option (Bool)
 | 0, _, _, _, _, _, _ => none
 | k + 1, x0, x1, x5, x6, x7, x8 => if x8 < (x1.size : Int) then (if x7 = true then (laws_plain.l1 k x0 x1 x5 x6 true (wrap64 (x8 + 1))) else (if 0 ≤ x8 then (laws_plain.l1 k x0 x1 x5 x6 (x6 == (bt x1 x8)) (wrap64 (x8 + 1))) else (none))) else (if x7 = true then (laws_plain.l0 k x0 x1 (wrap64 (x5 + 1))) else (some false))
end
def laws_plain.f (k : Nat) (a0 : ByteArray) (a1 : ByteArray) : Option (Bool) := laws_plain.l0 k a0 a1 0
theorem laws_plain.mono_l : ∀ k, (∀ y0 y1 y2, LeO (laws_plain.l0 k y0 y1 y2) (laws_plain.l0 (k + 1) y0 y1 y2)) ∧ (∀ y0 y1 y2 y3 y4, LeO (laws_plain.j1 k y0 y1 y2 y3 y4) (laws_plain.j1 (k + 1) y0 y1 y2 y3 y4)) ∧ (∀ y0 y1 y2 y3 y4 y5, LeO (laws_plain.l1 k y0 y1 y2 y3 y4 y5) (laws_plain.l1 (k + 1) y0 y1 y2 y3 y4 y5))
 | 0 => ⟨fun _ _ _ r h => by simp [laws_plain.l0] at h, fun _ _ _ _ _ r h => by simp [laws_plain.j1] at h, fun _ _ _ _ _ _ r h => by simp [laws_plain.l1] at h⟩
 | k + 1 => by
  obtain ⟨ih0, ih1, ih2⟩ := laws_plain.mono_l k
  refine ⟨?_, ?_, ?_⟩
  ·intro y0 y1 y2
   unfold laws_plain.l0
   repeat' first
   | (with_reducible exact ih0 _ _ _)
   | (with_reducible exact ih1 _ _ _ _ _)
   | (with_reducible exact ih2 _ _ _ _ _ _)
   | (with_reducible exact LeO.refl _)
   | (with_reducible exact LeO.none _)
   | (with_reducible refine LeO.ite ?_ ?_)
   | (with_reducible refine LeO.bind ?_ (fun _ => ?_))
   | exact ih0 _ _ _
   | exact ih1 _ _ _ _ _
   | exact ih2 _ _ _ _ _ _
   | exact LeO.none _
   | refine LeO.ite ?_ ?_
   | refine LeO.bind ?_ (fun _ => ?_)
  ·intro y0 y1 y2 y3 y4
   unfold laws_plain.j1
   repeat' first
   | (with_reducible exact ih0 _ _ _)
   | (with_reducible exact ih1 _ _ _ _ _)
   | (with_reducible exact ih2 _ _ _ _ _ _)
   | (with_reducible exact LeO.refl _)
   | (with_reducible exact LeO.none _)
   | (with_reducible refine LeO.ite ?_ ?_)
   | (with_reducible refine LeO.bind ?_ (fun _ => ?_))
   | exact ih0 _ _ _
   | exact ih1 _ _ _ _ _
   | exact ih2 _ _ _ _ _ _
   | exact LeO.none _
   | refine LeO.ite ?_ ?_
   | refine LeO.bind ?_ (fun _ => ?_)
  ·intro y0 y1 y2 y3 y4 y5
   unfold laws_plain.l1
   repeat' first
   | (with_reducible exact ih0 _ _ _)
   | (with_reducible exact ih1 _ _ _ _ _)
   | (with_reducible exact ih2 _ _ _ _ _ _)
   | (with_reducible exact LeO.refl _)
   | (with_reducible exact LeO.none _)
   | (with_reducible refine LeO.ite ?_ ?_)
   | (with_reducible refine LeO.bind ?_ (fun _ => ?_))
   | exact ih0 _ _ _
   | exact ih1 _ _ _ _ _
   | exact ih2 _ _ _ _ _ _
   | exact LeO.none _
   | refine LeO.ite ?_ ?_
   | refine LeO.bind ?_ (fun _ => ?_)
theorem laws_plain.mono : ∀ a0 a1 k, LeO (laws_plain.f k a0 a1) (laws_plain.f (k + 1) a0 a1) := by
 intro a0 a1 k
 obtain ⟨ih0, ih1, ih2⟩ := laws_plain.mono_l k
 unfold laws_plain.f
 repeat' first
   | (with_reducible exact ih0 _ _ _)
   | (with_reducible exact ih1 _ _ _ _ _)
   | (with_reducible exact ih2 _ _ _ _ _ _)
   | (with_reducible exact LeO.refl _)
   | (with_reducible exact LeO.none _)
   | (with_reducible refine LeO.ite ?_ ?_)
   | (with_reducible refine LeO.bind ?_ (fun _ => ?_))
   | exact ih0 _ _ _
   | exact ih1 _ _ _ _ _
   | exact ih2 _ _ _ _ _ _
   | exact LeO.none _
   | refine LeO.ite ?_ ?_
   | refine LeO.bind ?_ (fun _ => ?_)
set_option maxHeartbeats 8000000 in
set_option maxRecDepth 100000 in
theorem laws_plain.calls (k : Nat) (a0 : ByteArray) (a1 : ByteArray) (r : Bool) (w : World) (h : laws_plain.f k a0 a1 = some r) :
  Calls Tryd.prog 9 #[.string a0, .string a1] w fun e w' => e = .returned (.bool r) ∧ Drawn0 w w' := by
 have H : (laws_plain.l0 k a0 a1 0) = some r := h
 clear h
 have H' := Aside0.mk H
 clear H
 go_enter Tryd.func9, Tryd.ntmps9
 go_wp2
 go_loopg [5] k (fun kq v5 w' => ∃ (x5_1 : Int), v5 = .int .i64 x5_1 ∧ Aside0 (laws_plain.l0 kq a0 a1 x5_1 = some r) ∧ Aside0 (kq ≤ k) ∧ Drawn0 w w')
 case atStart => exact ⟨(0), (by first | rfl | (simp; done) | (simp [*]; done)), H', ⟨Nat.le_refl _⟩, by repeat (first | exact Drawn0.refl _ | apply Drawn0.step)⟩
 case round =>
  clear H'
  try clear p2
  obtain ⟨x5_1, rfl, HA, HK1, ⟨m1, rfl⟩⟩ := hrel
  cases gk with
  | zero => exact absurd HA.out (by simp [laws_plain.l0])
  | succ k1 =>
   have H := HA.out
   clear HA
   simp only [laws_plain.l0] at H
   by_cases c3 : x5_1 < (a0.size : Int)
   ·rw [if_pos c3] at H
    have c3b0 : decide (x5_1 < (a0.size : Int)) = true := decide_eq_true c3
    clear c3
    by_cases c4 : 0 ≤ x5_1
    ·rw [if_pos c4] at H
     have c4b0 : decide (0 ≤ x5_1) = true := decide_eq_true c4
     clear c4
     have HC6 := Aside0.mk H
     clear H
     have p5 : 0 ≤ (x5_1 : Int) := of_decide_eq_true (by first | (with_reducible assumption) | assumption)
     have q5 : x5_1 < (a0.size : Int) := of_decide_eq_true (by first | (with_reducible assumption) | assumption)
     have hx5 := bt_at a0 x5_1
     replace p5 := eq_true p5
     replace q5 := eq_true q5
     go_upto_region 5 with (fail)
     go_cut [7] (fun v7 wc => ∃ (kq : Nat) (x7_5 : Bool), v7 = .bool x7_5 ∧ Aside0 (laws_plain.j1 kq a0 a1 x5_1 (bt a0 x5_1) x7_5 = some r) ∧ Aside0 (kq ≤ k1) ∧ Drawn0 w wc)
     case first =>
      have H := HC6.out
      clear HC6
      by_cases c7 : (bt a0 x5_1) ≥ 48
      ·rw [if_pos c7] at H
       have c7b0 : decide (48 ≤ (bt a0 x5_1)) = true := decide_eq_true c7
       clear c7
       (first | rw [c7b0] | (simp only [i64_w, i32_w]; rw [c7b0]) | skip)
       by_cases c8 : (bt a0 x5_1) ≤ 57
       ·rw [if_pos c8] at H
        have c8b0 : decide ((bt a0 x5_1) ≤ 57) = true := decide_eq_true c8
        clear c8
        have H' := Aside0.mk H
        clear H
        go_wp2
        go_meet
        case rel => exact ⟨_, (true), (by first | rfl | (simp; done) | (simp [*]; done)), H', ⟨by have := HK1.out; first | omega | exact Nat.le_refl _⟩, by repeat (first | exact Drawn0.refl _ | apply Drawn0.step)⟩
       ·rw [if_neg c8] at H
        have c8b0 : decide ((bt a0 x5_1) ≤ 57) = false := decide_eq_false c8
        clear c8
        by_cases c9 : (bt a0 x5_1) ≥ 97
        ·rw [if_pos c9] at H
         have c9b0 : decide (97 ≤ (bt a0 x5_1)) = true := decide_eq_true c9
         clear c9
         by_cases c10 : (bt a0 x5_1) ≤ 122
         ·rw [if_pos c10] at H
          have c10b0 : decide ((bt a0 x5_1) ≤ 122) = true := decide_eq_true c10
          clear c10
          have H' := Aside0.mk H
          clear H
          go_wp2
          go_meet
          case rel => exact ⟨_, (true), (by first | rfl | (simp; done) | (simp [*]; done)), H', ⟨by have := HK1.out; first | omega | exact Nat.le_refl _⟩, by repeat (first | exact Drawn0.refl _ | apply Drawn0.step)⟩
         ·rw [if_neg c10] at H
          have c10b0 : decide ((bt a0 x5_1) ≤ 122) = false := decide_eq_false c10
          clear c10
          by_cases c11 : (bt a0 x5_1) ≥ 65
          ·rw [if_pos c11] at H
           have c11b0 : decide (65 ≤ (bt a0 x5_1)) = true := decide_eq_true c11
           clear c11
           have H' := Aside0.mk H
           clear H
           go_wp2
           go_meet
           case rel => exact ⟨_, (decide ((bt a0 x5_1) ≤ 90)), (by first | rfl | (simp; done) | (simp [*]; done)), H', ⟨by have := HK1.out; first | omega | exact Nat.le_refl _⟩, by repeat (first | exact Drawn0.refl _ | apply Drawn0.step)⟩
          ·rw [if_neg c11] at H
           have c11b0 : decide (65 ≤ (bt a0 x5_1)) = false := decide_eq_false c11
           clear c11
           have H' := Aside0.mk H
           clear H
           go_wp2
           go_meet
           case rel => exact ⟨_, (false), (by first | rfl | (simp; done) | (simp [*]; done)), H', ⟨by have := HK1.out; first | omega | exact Nat.le_refl _⟩, by repeat (first | exact Drawn0.refl _ | apply Drawn0.step)⟩
        ·rw [if_neg c9] at H
         have c9b0 : decide (97 ≤ (bt a0 x5_1)) = false := decide_eq_false c9
         clear c9
         by_cases c12 : (bt a0 x5_1) ≥ 65
         ·rw [if_pos c12] at H
          have c12b0 : decide (65 ≤ (bt a0 x5_1)) = true := decide_eq_true c12
          clear c12
          have H' := Aside0.mk H
          clear H
          go_wp2
          go_meet
          case rel => exact ⟨_, (decide ((bt a0 x5_1) ≤ 90)), (by first | rfl | (simp; done) | (simp [*]; done)), H', ⟨by have := HK1.out; first | omega | exact Nat.le_refl _⟩, by repeat (first | exact Drawn0.refl _ | apply Drawn0.step)⟩
         ·rw [if_neg c12] at H
          have c12b0 : decide (65 ≤ (bt a0 x5_1)) = false := decide_eq_false c12
          clear c12
          have H' := Aside0.mk H
          clear H
          go_wp2
          go_meet
          case rel => exact ⟨_, (false), (by first | rfl | (simp; done) | (simp [*]; done)), H', ⟨by have := HK1.out; first | omega | exact Nat.le_refl _⟩, by repeat (first | exact Drawn0.refl _ | apply Drawn0.step)⟩
      ·rw [if_neg c7] at H
       have c7b0 : decide (48 ≤ (bt a0 x5_1)) = false := decide_eq_false c7
       clear c7
       (first | rw [c7b0] | (simp only [i64_w, i32_w]; rw [c7b0]) | skip)
       by_cases c13 : (bt a0 x5_1) ≥ 97
       ·rw [if_pos c13] at H
        have c13b0 : decide (97 ≤ (bt a0 x5_1)) = true := decide_eq_true c13
        clear c13
        by_cases c14 : (bt a0 x5_1) ≤ 122
        ·rw [if_pos c14] at H
         have c14b0 : decide ((bt a0 x5_1) ≤ 122) = true := decide_eq_true c14
         clear c14
         have H' := Aside0.mk H
         clear H
         go_wp2
         go_meet
         case rel => exact ⟨_, (true), (by first | rfl | (simp; done) | (simp [*]; done)), H', ⟨by have := HK1.out; first | omega | exact Nat.le_refl _⟩, by repeat (first | exact Drawn0.refl _ | apply Drawn0.step)⟩
        ·rw [if_neg c14] at H
         have c14b0 : decide ((bt a0 x5_1) ≤ 122) = false := decide_eq_false c14
         clear c14
         by_cases c15 : (bt a0 x5_1) ≥ 65
         ·rw [if_pos c15] at H
          have c15b0 : decide (65 ≤ (bt a0 x5_1)) = true := decide_eq_true c15
          clear c15
          have H' := Aside0.mk H
          clear H
          go_wp2
          go_meet
          case rel => exact ⟨_, (decide ((bt a0 x5_1) ≤ 90)), (by first | rfl | (simp; done) | (simp [*]; done)), H', ⟨by have := HK1.out; first | omega | exact Nat.le_refl _⟩, by repeat (first | exact Drawn0.refl _ | apply Drawn0.step)⟩
         ·rw [if_neg c15] at H
          have c15b0 : decide (65 ≤ (bt a0 x5_1)) = false := decide_eq_false c15
          clear c15
          have H' := Aside0.mk H
          clear H
          go_wp2
          go_meet
          case rel => exact ⟨_, (false), (by first | rfl | (simp; done) | (simp [*]; done)), H', ⟨by have := HK1.out; first | omega | exact Nat.le_refl _⟩, by repeat (first | exact Drawn0.refl _ | apply Drawn0.step)⟩
       ·rw [if_neg c13] at H
        have c13b0 : decide (97 ≤ (bt a0 x5_1)) = false := decide_eq_false c13
        clear c13
        by_cases c16 : (bt a0 x5_1) ≥ 65
        ·rw [if_pos c16] at H
         have c16b0 : decide (65 ≤ (bt a0 x5_1)) = true := decide_eq_true c16
         clear c16
         have H' := Aside0.mk H
         clear H
         go_wp2
         go_meet
         case rel => exact ⟨_, (decide ((bt a0 x5_1) ≤ 90)), (by first | rfl | (simp; done) | (simp [*]; done)), H', ⟨by have := HK1.out; first | omega | exact Nat.le_refl _⟩, by repeat (first | exact Drawn0.refl _ | apply Drawn0.step)⟩
        ·rw [if_neg c16] at H
         have c16b0 : decide (65 ≤ (bt a0 x5_1)) = false := decide_eq_false c16
         clear c16
         have H' := Aside0.mk H
         clear H
         go_wp2
         go_meet
         case rel => exact ⟨_, (false), (by first | rfl | (simp; done) | (simp [*]; done)), H', ⟨by have := HK1.out; first | omega | exact Nat.le_refl _⟩, by repeat (first | exact Drawn0.refl _ | apply Drawn0.step)⟩
     case rest =>
      clear HC6
      try clear c1
      try clear p2
      try clear c3
      try clear c3b0
      try clear c4
      try clear c4b0
      try clear p5
      try clear q5
      try clear hx5
      try clear c7
      try clear c7b0
      try clear c8
      try clear c8b0
      try clear c9
      try clear c9b0
      try clear c10
      try clear c10b0
      try clear c11
      try clear c11b0
      try clear c12
      try clear c12b0
      try clear c13
      try clear c13b0
      try clear c14
      try clear c14b0
      try clear c15
      try clear c15b0
      try clear c16
      try clear c16b0
      try clear p2
      try clear p5
      try clear q5
      obtain ⟨kq, x7_5, rfl, HA, HJ5, ⟨mc5, rfl⟩⟩ := hcut
      cases kq with
      | zero => exact absurd HA.out (by simp [laws_plain.j1])
      | succ kj5 =>
       have H := HA.out
       clear HA
       simp only [laws_plain.j1] at H
       have H' := Aside0.mk H
       clear H
       go_wp2
       go_loopg [7, 8] kj5 (fun kq v7 v8 w' => ∃ (x7_3 : Bool) (x8_3 : Int), v7 = .bool x7_3 ∧ v8 = .int .i64 x8_3 ∧ Aside0 (laws_plain.l1 kq a0 a1 x5_1 (bt a0 x5_1) x7_3 x8_3 = some r) ∧ Aside0 (kq ≤ kj5) ∧ Drawn0 w w')
       case atStart => exact ⟨(x7_5), (0), (by first | rfl | (simp; done) | (simp [*]; done)), (by first | rfl | (simp; done) | (simp [*]; done)), H', ⟨Nat.le_refl _⟩, by repeat (first | exact Drawn0.refl _ | apply Drawn0.step)⟩
       case round =>
        clear H'
        try clear c1
        try clear p2
        try clear c3
        try clear c3b0
        try clear c4
        try clear c4b0
        try clear c5
        try clear p5
        try clear q5
        try clear hx5
        try clear c7
        try clear c7b0
        try clear c8
        try clear c8b0
        try clear c9
        try clear c9b0
        try clear c10
        try clear c10b0
        try clear c11
        try clear c11b0
        try clear c12
        try clear c12b0
        try clear c13
        try clear c13b0
        try clear c14
        try clear c14b0
        try clear c15
        try clear c15b0
        try clear c16
        try clear c16b0
        try clear p2
        try clear p5
        try clear q5
        obtain ⟨x7_3, x8_3, rfl, rfl, HA, HK3, ⟨m3, rfl⟩⟩ := hrel
        cases gk with
        | zero => exact absurd HA.out (by simp [laws_plain.l1])
        | succ k3 =>
         have H := HA.out
         clear HA
         simp only [laws_plain.l1] at H
         by_cases c17 : x8_3 < (a1.size : Int)
         ·rw [if_pos c17] at H
          have c17b0 : decide (x8_3 < (a1.size : Int)) = true := decide_eq_true c17
          clear c17
          by_cases c18 : x7_3 = true
          ·subst c18
           have H1 : (laws_plain.l1 k3 a0 a1 x5_1 (bt a0 x5_1) true (wrap64 (x8_3 + 1))) = some r := by rw [if_pos rfl] at H; exact H
           clear H
           have H := H1
           clear H1
           have H' := Aside0.mk H
           clear H
           go_wp2
           go_roundg k3
           case measure => have := HK1.out; have := HJ5.out; have := HK3.out; omega
           case rel => exact ⟨(true), (wrap64 (x8_3 + 1)), (by first | rfl | (simp; done) | (simp [*]; done)), (by first | rfl | (simp; done) | (simp [*]; done)), H', ⟨by have := HK1.out; have := HJ5.out; have := HK3.out; omega⟩, by repeat (first | exact Drawn0.refl _ | apply Drawn0.step)⟩
          ·replace c18 := Bool.eq_false_iff.mpr c18
           subst c18
           have H1 : (if 0 ≤ x8_3 then (laws_plain.l1 k3 a0 a1 x5_1 (bt a0 x5_1) ((bt a0 x5_1) == (bt a1 x8_3)) (wrap64 (x8_3 + 1))) else (none)) = some r := by rw [if_neg (show ¬ (false = true) by decide)] at H; exact H
           clear H
           have H := H1
           clear H1
           by_cases c19 : 0 ≤ x8_3
           ·rw [if_pos c19] at H
            have c19b0 : decide (0 ≤ x8_3) = true := decide_eq_true c19
            clear c19
            have H' := Aside0.mk H
            clear H
            have p20 : 0 ≤ (x8_3 : Int) := of_decide_eq_true (by first | (with_reducible assumption) | assumption)
            have q20 : x8_3 < (a1.size : Int) := of_decide_eq_true (by first | (with_reducible assumption) | assumption)
            have hx20 := bt_at a1 x8_3
            replace p20 := eq_true p20
            replace q20 := eq_true q20
            go_wp2
            go_roundg k3
            case measure => have := HK1.out; have := HJ5.out; have := HK3.out; omega
            case rel => exact ⟨(((bt a0 x5_1) == (bt a1 x8_3))), (wrap64 (x8_3 + 1)), (by first | rfl | (simp; done) | (simp [*]; done)), (by first | rfl | (simp; done) | (simp [*]; done)), H', ⟨by have := HK1.out; have := HJ5.out; have := HK3.out; omega⟩, by repeat (first | exact Drawn0.refl _ | apply Drawn0.step)⟩
           ·rw [if_neg c19] at H
            exact absurd H (by simp)
         ·rw [if_neg c17] at H
          have c17b0 : decide (x8_3 < (a1.size : Int)) = false := decide_eq_false c17
          clear c17
          by_cases c21 : x7_3 = true
          ·subst c21
           have H1 : (laws_plain.l0 k3 a0 a1 (wrap64 (x5_1 + 1))) = some r := by rw [if_pos rfl] at H; exact H
           clear H
           have H := H1
           clear H1
           have H' := Aside0.mk H
           clear H
           go_wp2
           go_roundg k3
           case measure => have := HK1.out; have := HJ5.out; have := HK3.out; omega
           case rel => exact ⟨(wrap64 (x5_1 + 1)), (by first | rfl | (simp; done) | (simp [*]; done)), H', ⟨by have := HK1.out; have := HJ5.out; have := HK3.out; omega⟩, by repeat (first | exact Drawn0.refl _ | apply Drawn0.step)⟩
          ·replace c21 := Bool.eq_false_iff.mpr c21
           subst c21
           have H1 : (some false) = some r := by rw [if_neg (show ¬ (false = true) by decide)] at H; exact H
           clear H
           have H := H1
           clear H1
           obtain rfl := Option.some.inj H
           go_wp2
           go_ret
           exact ⟨by first | rfl | (simp; done) | (simp [*]; done), by repeat (first | exact Drawn0.refl _ | apply Drawn0.step)⟩
    ·rw [if_neg c4] at H
     exact absurd H (by simp)
   ·rw [if_neg c3] at H
    have c3b0 : decide (x5_1 < (a0.size : Int)) = false := decide_eq_false c3
    clear c3
    obtain rfl := Option.some.inj H
    go_wp2
    go_ret
    exact ⟨by first | rfl | (simp; done) | (simp [*]; done), by repeat (first | exact Drawn0.refl _ | apply Drawn0.step)⟩

/-! ### laws_digits: function 10 -/
def laws_digits.l0 : Nat → ByteArray → Int → Option (Bool)
 | 0, _, _ => none
 | k + 1, x0, x3 => if x3 < (x0.size : Int) then (if 0 ≤ x3 then (if (bt x0 x3) < 48 then (some false) else (if (bt x0 x3) > 57 then (some false) else (laws_digits.l0 k x0 (wrap64 (x3 + 1))))) else (none)) else (some (!x0.toList.isEmpty))
def laws_digits.f (k : Nat) (a0 : ByteArray) : Option (Bool) := laws_digits.l0 k a0 0
theorem laws_digits.mono_l : ∀ k, (∀ y0 y1, LeO (laws_digits.l0 k y0 y1) (laws_digits.l0 (k + 1) y0 y1))
 | 0 => fun _ _ r h => by simp [laws_digits.l0] at h
 | k + 1 => by
  have ih0 := laws_digits.mono_l k
  ·intro y0 y1
   unfold laws_digits.l0
   repeat' first
   | (with_reducible exact ih0 _ _)
   | (with_reducible exact LeO.refl _)
   | (with_reducible exact LeO.none _)
   | (with_reducible refine LeO.ite ?_ ?_)
   | (with_reducible refine LeO.bind ?_ (fun _ => ?_))
   | exact ih0 _ _
   | exact LeO.none _
   | refine LeO.ite ?_ ?_
   | refine LeO.bind ?_ (fun _ => ?_)
theorem laws_digits.mono : ∀ a0 k, LeO (laws_digits.f k a0) (laws_digits.f (k + 1) a0) := by
 intro a0 k
 have ih0 := laws_digits.mono_l k
 unfold laws_digits.f
 repeat' first
   | (with_reducible exact ih0 _ _)
   | (with_reducible exact LeO.refl _)
   | (with_reducible exact LeO.none _)
   | (with_reducible refine LeO.ite ?_ ?_)
   | (with_reducible refine LeO.bind ?_ (fun _ => ?_))
   | exact ih0 _ _
   | exact LeO.none _
   | refine LeO.ite ?_ ?_
   | refine LeO.bind ?_ (fun _ => ?_)
set_option maxHeartbeats 8000000 in
set_option maxRecDepth 100000 in
theorem laws_digits.calls (k : Nat) (a0 : ByteArray) (r : Bool) (w : World) (h : laws_digits.f k a0 = some r) :
  Calls Tryd.prog 10 #[.string a0] w fun e w' => e = .returned (.bool r) ∧ Drawn0 w w' := by
 have H : (laws_digits.l0 k a0 0) = some r := h
 clear h
 have H' := Aside0.mk H
 clear H
 go_enter Tryd.func10, Tryd.ntmps10
 go_wp2
 go_loopg [3] k (fun kq v3 w' => ∃ (x3_1 : Int), v3 = .int .i64 x3_1 ∧ Aside0 (laws_digits.l0 kq a0 x3_1 = some r) ∧ Aside0 (kq ≤ k) ∧ Drawn0 w w')
 case atStart => exact ⟨(0), (by first | rfl | (simp; done) | (simp [*]; done)), H', ⟨Nat.le_refl _⟩, by repeat (first | exact Drawn0.refl _ | apply Drawn0.step)⟩
 case round =>
  clear H'
  try clear c1
  obtain ⟨x3_1, rfl, HA, HK1, ⟨m1, rfl⟩⟩ := hrel
  cases gk with
  | zero => exact absurd HA.out (by simp [laws_digits.l0])
  | succ k1 =>
   have H := HA.out
   clear HA
   simp only [laws_digits.l0] at H
   by_cases c2 : x3_1 < (a0.size : Int)
   ·rw [if_pos c2] at H
    have c2b0 : decide (x3_1 < (a0.size : Int)) = true := decide_eq_true c2
    clear c2
    by_cases c3 : 0 ≤ x3_1
    ·rw [if_pos c3] at H
     have c3b0 : decide (0 ≤ x3_1) = true := decide_eq_true c3
     clear c3
     by_cases c5 : (bt a0 x3_1) < 48
     ·rw [if_pos c5] at H
      have c5b0 : decide ((bt a0 x3_1) < 48) = true := decide_eq_true c5
      clear c5
      obtain rfl := Option.some.inj H
      have p4 : 0 ≤ (x3_1 : Int) := of_decide_eq_true (by first | (with_reducible assumption) | assumption)
      have q4 : x3_1 < (a0.size : Int) := of_decide_eq_true (by first | (with_reducible assumption) | assumption)
      have hx4 := bt_at a0 x3_1
      replace p4 := eq_true p4
      replace q4 := eq_true q4
      go_wp2
      go_ret
      exact ⟨by first | rfl | (simp; done) | (simp [*]; done), by repeat (first | exact Drawn0.refl _ | apply Drawn0.step)⟩
     ·rw [if_neg c5] at H
      have c5b0 : decide ((bt a0 x3_1) < 48) = false := decide_eq_false c5
      clear c5
      by_cases c7 : (bt a0 x3_1) > 57
      ·rw [if_pos c7] at H
       have c7b0 : decide (57 < (bt a0 x3_1)) = true := decide_eq_true c7
       clear c7
       obtain rfl := Option.some.inj H
       have p4 : 0 ≤ (x3_1 : Int) := of_decide_eq_true (by first | (with_reducible assumption) | assumption)
       have q4 : x3_1 < (a0.size : Int) := of_decide_eq_true (by first | (with_reducible assumption) | assumption)
       have hx4 := bt_at a0 x3_1
       replace p4 := eq_true p4
       replace q4 := eq_true q4
       have p6 : 0 ≤ (x3_1 : Int) := of_decide_eq_true (by first | (with_reducible assumption) | assumption)
       have q6 : x3_1 < (a0.size : Int) := of_decide_eq_true (by first | (with_reducible assumption) | assumption)
       have hx6 := bt_at a0 x3_1
       replace p6 := eq_true p6
       replace q6 := eq_true q6
       go_wp2
       go_ret
       exact ⟨by first | rfl | (simp; done) | (simp [*]; done), by repeat (first | exact Drawn0.refl _ | apply Drawn0.step)⟩
      ·rw [if_neg c7] at H
       have c7b0 : decide (57 < (bt a0 x3_1)) = false := decide_eq_false c7
       clear c7
       have H' := Aside0.mk H
       clear H
       have p4 : 0 ≤ (x3_1 : Int) := of_decide_eq_true (by first | (with_reducible assumption) | assumption)
       have q4 : x3_1 < (a0.size : Int) := of_decide_eq_true (by first | (with_reducible assumption) | assumption)
       have hx4 := bt_at a0 x3_1
       replace p4 := eq_true p4
       replace q4 := eq_true q4
       have p6 : 0 ≤ (x3_1 : Int) := of_decide_eq_true (by first | (with_reducible assumption) | assumption)
       have q6 : x3_1 < (a0.size : Int) := of_decide_eq_true (by first | (with_reducible assumption) | assumption)
       have hx6 := bt_at a0 x3_1
       replace p6 := eq_true p6
       replace q6 := eq_true q6
       go_wp2
       go_roundg k1
       case measure => have := HK1.out; omega
       case rel => exact ⟨(wrap64 (x3_1 + 1)), (by first | rfl | (simp; done) | (simp [*]; done)), H', ⟨by have := HK1.out; omega⟩, by repeat (first | exact Drawn0.refl _ | apply Drawn0.step)⟩
    ·rw [if_neg c3] at H
     exact absurd H (by simp)
   ·rw [if_neg c2] at H
    have c2b0 : decide (x3_1 < (a0.size : Int)) = false := decide_eq_false c2
    clear c2
    obtain rfl := Option.some.inj H
    go_wp2
    go_ret
    exact ⟨by first | rfl | (simp; done) | (simp [*]; done), by repeat (first | exact Drawn0.refl _ | apply Drawn0.step)⟩

/-! ### spec_CompareNumbers: function 13 -/
mutual
def spec_CompareNumbers.l0 : Nat → List (S26) → List (S26) → Int → Option (Int)
 | 0, _, _, _ => none
 | k + 1, x0, x1, x5 => if x5 < (x0.length : Int) then (spec_CompareNumbers.j1 k x0 x1 x5 true) else (spec_CompareNumbers.j1 k x0 x1 x5 (decide (x5 < (x1.length : Int))))
def spec_CompareNumbers.j1 : Nat → List (S26) → List (S26) → Int → Bool → Option (Int)
 | 0, _, _, _, _ => none
 | k + 1, x0, x1, x5, x18 => if x18 = true then (if x5 < (x0.length : Int) then (if 0 ≤ x5 then (spec_CompareNumbers.j2 k x0 x1 x5 ((rd_T26 x0 x5).f0) ((rd_T26 x0 x5).f1) false (⟨#[]⟩ : ByteArray)) else (none)) else (spec_CompareNumbers.j2 k x0 x1 x5 false (⟨#[]⟩ : ByteArray) false (⟨#[]⟩ : ByteArray))) else (some 0)
def spec_CompareNumbers.j2 : Nat → List (S26) → List (S26) → Int → Bool → ByteArray → Bool → ByteArray → Option (Int)
 | 0, _, _, _, _, _, _, _ => none
 | k + 1, x0, x1, x5, x241000, x241001, x242000, x242001 => if x5 < (x1.length : Int) then (if 0 ≤ x5 then ((spec_intOrder.f k x241000 x241001 ((rd_T26 x1 x5).f0) ((rd_T26 x1 x5).f1)).bind fun t244 => (if t244 = 0 then (spec_CompareNumbers.l0 k x0 x1 (wrap64 (x5 + 1))) else (some t244))) else (none)) else ((spec_intOrder.f k x241000 x241001 x242000 x242001).bind fun t245 => (if t245 = 0 then (spec_CompareNumbers.l0 k x0 x1 (wrap64 (x5 + 1))) else (some t245)))
end
def spec_CompareNumbers.f (k : Nat) (l0 : List (S26)) (l1 : List (S26)) : Option (Int) := spec_CompareNumbers.l0 k l0 l1 0
theorem spec_CompareNumbers.mono_l : ∀ k, (∀ y0 y1 y2, LeO (spec_CompareNumbers.l0 k y0 y1 y2) (spec_CompareNumbers.l0 (k + 1) y0 y1 y2)) ∧ (∀ y0 y1 y2 y3, LeO (spec_CompareNumbers.j1 k y0 y1 y2 y3) (spec_CompareNumbers.j1 (k + 1) y0 y1 y2 y3)) ∧ (∀ y0 y1 y2 y3 y4 y5 y6, LeO (spec_CompareNumbers.j2 k y0 y1 y2 y3 y4 y5 y6) (spec_CompareNumbers.j2 (k + 1) y0 y1 y2 y3 y4 y5 y6))
 | 0 => ⟨fun _ _ _ r h => by simp [spec_CompareNumbers.l0] at h, fun _ _ _ _ r h => by simp [spec_CompareNumbers.j1] at h, fun _ _ _ _ _ _ _ r h => by simp [spec_CompareNumbers.j2] at h⟩
 | k + 1 => by
  obtain ⟨ih0, ih1, ih2⟩ := spec_CompareNumbers.mono_l k
  refine ⟨?_, ?_, ?_⟩
  ·intro y0 y1 y2
   unfold spec_CompareNumbers.l0
   repeat' first
   | (with_reducible exact ih0 _ _ _)
   | (with_reducible exact ih1 _ _ _ _)
   | (with_reducible exact ih2 _ _ _ _ _ _ _)
   | (with_reducible exact spec_intOrder.mono _ _ _ _ _)
   | (with_reducible exact LeO.refl _)
   | (with_reducible exact LeO.none _)
   | (with_reducible refine LeO.ite ?_ ?_)
   | (with_reducible refine LeO.bind ?_ (fun _ => ?_))
   | exact ih0 _ _ _
   | exact ih1 _ _ _ _
   | exact ih2 _ _ _ _ _ _ _
   | exact spec_intOrder.mono _ _ _ _ _
   | exact LeO.none _
   | refine LeO.ite ?_ ?_
   | refine LeO.bind ?_ (fun _ => ?_)
  ·intro y0 y1 y2 y3
   unfold spec_CompareNumbers.j1
   repeat' first
   | (with_reducible exact ih0 _ _ _)
   | (with_reducible exact ih1 _ _ _ _)
   | (with_reducible exact ih2 _ _ _ _ _ _ _)
   | (with_reducible exact spec_intOrder.mono _ _ _ _ _)
   | (with_reducible exact LeO.refl _)
   | (with_reducible exact LeO.none _)
   | (with_reducible refine LeO.ite ?_ ?_)
   | (with_reducible refine LeO.bind ?_ (fun _ => ?_))
   | exact ih0 _ _ _
   | exact ih1 _ _ _ _
   | exact ih2 _ _ _ _ _ _ _
   | exact spec_intOrder.mono _ _ _ _ _
   | exact LeO.none _
   | refine LeO.ite ?_ ?_
   | refine LeO.bind ?_ (fun _ => ?_)
  ·intro y0 y1 y2 y3 y4 y5 y6
   unfold spec_CompareNumbers.j2
   repeat' first
   | (with_reducible exact ih0 _ _ _)
   | (with_reducible exact ih1 _ _ _ _)
   | (with_reducible exact ih2 _ _ _ _ _ _ _)
   | (with_reducible exact spec_intOrder.mono _ _ _ _ _)
   | (with_reducible exact LeO.refl _)
   | (with_reducible exact LeO.none _)
   | (with_reducible refine LeO.ite ?_ ?_)
   | (with_reducible refine LeO.bind ?_ (fun _ => ?_))
   | exact ih0 _ _ _
   | exact ih1 _ _ _ _
   | exact ih2 _ _ _ _ _ _ _
   | exact spec_intOrder.mono _ _ _ _ _
   | exact LeO.none _
   | refine LeO.ite ?_ ?_
   | refine LeO.bind ?_ (fun _ => ?_)
theorem spec_CompareNumbers.mono : ∀ a0 a1 k, LeO (spec_CompareNumbers.f k a0 a1) (spec_CompareNumbers.f (k + 1) a0 a1) := by
 intro a0 a1 k
 obtain ⟨ih0, ih1, ih2⟩ := spec_CompareNumbers.mono_l k
 unfold spec_CompareNumbers.f
 repeat' first
   | (with_reducible exact ih0 _ _ _)
   | (with_reducible exact ih1 _ _ _ _)
   | (with_reducible exact ih2 _ _ _ _ _ _ _)
   | (with_reducible exact spec_intOrder.mono _ _ _ _ _)
   | (with_reducible exact LeO.refl _)
   | (with_reducible exact LeO.none _)
   | (with_reducible refine LeO.ite ?_ ?_)
   | (with_reducible refine LeO.bind ?_ (fun _ => ?_))
   | exact ih0 _ _ _
   | exact ih1 _ _ _ _
   | exact ih2 _ _ _ _ _ _ _
   | exact spec_intOrder.mono _ _ _ _ _
   | exact LeO.none _
   | refine LeO.ite ?_ ?_
   | refine LeO.bind ?_ (fun _ => ?_)
set_option maxHeartbeats 8000000 in
set_option maxRecDepth 100000 in
theorem spec_CompareNumbers.calls (k : Nat) (A0 : Option Addr) (c0 : Nat) (l0 : List (S26)) (A1 : Option Addr) (c1 : Nat) (l1 : List (S26)) (r : Int) (w : World) (hr0 : Kd.C k26 w A0 l0.length l0) (hc0 : l0.length ≤ c0) (hr1 : Kd.C k26 w A1 l1.length l1) (hc1 : l1.length ≤ c1) (h : spec_CompareNumbers.f k l0 l1 = some r) :
  Calls Tryd.prog 13 #[.slice A0 l0.length c0, .slice A1 l1.length c1] w fun e w' => e = .returned (.int .i64 r) ∧ Below w.heap.size w w' := by
 have hu26 := Tryd.underlying26
 have HR0 := Aside0.mk hr0
 have HC0 := Aside0.mk hc0
 clear hr0 hc0
 have HR1 := Aside0.mk hr1
 have HC1 := Aside0.mk hc1
 clear hr1 hc1
 have HB := Aside0.mk (Below.refl w.heap.size w)
 have H : (spec_CompareNumbers.l0 k l0 l1 0) = some r := h
 clear h
 have H' := Aside0.mk H
 clear H
 go_enter Tryd.func13, Tryd.ntmps13
 go_wp2
 go_loopg [5] k (fun kq v5 w' => ∃ (x5_1 : Int), v5 = .int .i64 x5_1 ∧ Aside0 (spec_CompareNumbers.l0 kq l0 l1 x5_1 = some r) ∧ Aside0 (kq ≤ k) ∧ Aside0 (Below w.heap.size w w'))
 case atStart => exact ⟨(0), (by first | rfl | (simp; done) | (simp [*]; done)), H', ⟨Nat.le_refl _⟩, ⟨by repeat (first | (with_reducible first | exact HB.out | apply below_alloc | apply pw_below_drewN | apply below_drew1) | exact HB.out)⟩⟩
 case round =>
  clear H'
  try clear c1
  try clear p2
  obtain ⟨x5_1, rfl, HA, HK1, HB⟩ := hrel
  cases gk with
  | zero => exact absurd HA.out (by simp [spec_CompareNumbers.l0])
  | succ k1 =>
   have H := HA.out
   clear HA
   simp only [spec_CompareNumbers.l0] at H
   have HC3 := Aside0.mk H
   clear H
   go_upto_region 2 with (fail)
   go_cut [18] (fun v18 wc => ∃ (kq : Nat) (x18_2 : Bool), v18 = .bool x18_2 ∧ Aside0 (spec_CompareNumbers.j1 kq l0 l1 x5_1 x18_2 = some r) ∧ Aside0 (kq ≤ k1) ∧ Aside0 (Below w.heap.size w wc))
   case first =>
    have H := HC3.out
    clear HC3
    by_cases c4 : x5_1 < (l0.length : Int)
    ·rw [if_pos c4] at H
     have c4b0 : decide (x5_1 < (l0.length : Int)) = true := decide_eq_true c4
     clear c4
     (first | rw [c4b0] | (simp only [i64_w, i32_w]; rw [c4b0]) | skip)
     have H' := Aside0.mk H
     clear H
     go_wp2
     go_meet
     case rel => exact ⟨_, (true), (by first | rfl | (simp; done) | (simp [*]; done)), H', ⟨by have := HK1.out; first | omega | exact Nat.le_refl _⟩, ⟨by repeat (first | (with_reducible first | exact HB.out | apply below_alloc | apply pw_below_drewN | apply below_drew1) | exact HB.out)⟩⟩
    ·rw [if_neg c4] at H
     have c4b0 : decide (x5_1 < (l0.length : Int)) = false := decide_eq_false c4
     clear c4
     (first | rw [c4b0] | (simp only [i64_w, i32_w]; rw [c4b0]) | skip)
     have H' := Aside0.mk H
     clear H
     go_wp2
     go_meet
     case rel => exact ⟨_, (decide (x5_1 < (l1.length : Int))), (by first | rfl | (simp; done) | (simp [*]; done)), H', ⟨by have := HK1.out; first | omega | exact Nat.le_refl _⟩, ⟨by repeat (first | (with_reducible first | exact HB.out | apply below_alloc | apply pw_below_drewN | apply below_drew1) | exact HB.out)⟩⟩
   case rest =>
    clear HC3
    try clear c1
    try clear p2
    try clear c4
    try clear c4b0
    try clear p2
    obtain ⟨kq, x18_2, rfl, HA, HJ2, HB⟩ := hcut
    cases kq with
    | zero => exact absurd HA.out (by simp [spec_CompareNumbers.j1])
    | succ kj2 =>
     have H := HA.out
     clear HA
     simp only [spec_CompareNumbers.j1] at H
     by_cases c5 : x18_2 = true
     ·subst c5
      have H1 : (if x5_1 < (l0.length : Int) then (if 0 ≤ x5_1 then (spec_CompareNumbers.j2 kj2 l0 l1 x5_1 ((rd_T26 l0 x5_1).f0) ((rd_T26 l0 x5_1).f1) false (⟨#[]⟩ : ByteArray)) else (none)) else (spec_CompareNumbers.j2 kj2 l0 l1 x5_1 false (⟨#[]⟩ : ByteArray) false (⟨#[]⟩ : ByteArray))) = some r := by rw [if_pos rfl] at H; exact H
      clear H
      have H := H1
      clear H1
      have HC6 := Aside0.mk H
      clear H
      go_upto_if 24 with (first | ((with_reducible refine gate_dst (N := 6) rfl ?_); (try (refine gate_guard (by rfl) ?_; dsimp only)); refine box_event ?hg (N := 6) ?hd (cs := #[.bool false, .string (⟨#[]⟩ : ByteArray)]) (t := 26) ?hr ?_; (case hd => rfl); (case hg => rfl); (case hr => first | (go_simp; done) | (go_simp; rfl)); intro gb240 hg w7 hbox hb; have n0_ := Aside0.mk (below_step (by repeat (first | (with_reducible first | exact HB.out | apply below_alloc | apply pw_below_drewN | apply below_drew1) | exact HB.out)) hb); have n1_ := Aside0.mk (hbox); have n2_ := Aside0.mk ((by rw [hg]; exact (below_size (by repeat (first | (with_reducible first | exact HB.out | apply below_alloc | apply pw_below_drewN | apply below_drew1) | exact HB.out))) : w.heap.size ≤ gb240)); have n3_ := Aside0.mk ((by rw [hg]; exact (below_size (by repeat (first | (with_reducible first | exact HB.out | apply below_alloc | apply pw_below_drewN | apply below_drew1) | exact HB.out))) : w.heap.size ≤ gb240)); clear HB; have HB := n0_; have BK240 := n1_; have GW240 := n2_; have GE240 := n3_; clear n0_ n1_ n2_ n3_; clear hb hbox hg) | ((with_reducible refine gate_dst (N := 7) rfl ?_); (try (refine gate_guard (by rfl) ?_; dsimp only)); refine box_event ?hg (N := 7) ?hd (cs := #[.bool false, .string (⟨#[]⟩ : ByteArray)]) (t := 26) ?hr ?_; (case hd => rfl); (case hg => rfl); (case hr => first | (go_simp; done) | (go_simp; rfl)); intro gb241 hg w8 hbox hb; have n0_ := Aside0.mk (blk_below (g := gb240) (o := .cells #[.bool false, .string (⟨#[]⟩ : ByteArray)] 26 (0, 0)) (by (with_reducible repeat (first | refine blk_drewN ?_ _ | refine blk_drew ?_ | refine blk_alloc ?_ _)); exact BK240.out) hb); have n1_ := Aside0.mk (below_step (by repeat (first | (with_reducible first | exact HB.out | apply below_alloc | apply pw_below_drewN | apply below_drew1 | refine below_set ?_ GE240.out) | exact HB.out)) hb); have n2_ := Aside0.mk (hbox); have n3_ := Aside0.mk ((by rw [hg]; exact (below_size (by repeat (first | (with_reducible first | exact HB.out | apply below_alloc | apply pw_below_drewN | apply below_drew1 | refine below_set ?_ GE240.out) | exact HB.out))) : w.heap.size ≤ gb241)); have n4_ := Aside0.mk ((by rw [hg]; exact (below_size (by repeat (first | (with_reducible first | exact HB.out | apply below_alloc | apply pw_below_drewN | apply below_drew1 | refine below_set ?_ GE240.out) | exact HB.out))) : w.heap.size ≤ gb241)); have n5_ := Aside0.mk ((by rw [hg]; exact Nat.ne_of_lt (blk_lt (g := gb240) (o := .cells #[.bool false, .string (⟨#[]⟩ : ByteArray)] 26 (0, 0)) (by (with_reducible repeat (first | refine blk_drewN ?_ _ | refine blk_drew ?_ | refine blk_alloc ?_ _)); exact BK240.out)) : gb240 ≠ gb241)); have n6_ := Aside0.mk ((by rw [hg]; exact Nat.ne_of_gt (blk_lt (g := gb240) (o := .cells #[.bool false, .string (⟨#[]⟩ : ByteArray)] 26 (0, 0)) (by (with_reducible repeat (first | refine blk_drewN ?_ _ | refine blk_drew ?_ | refine blk_alloc ?_ _)); exact BK240.out)) : gb241 ≠ gb240)); clear BK240; clear HB; have BK240 := n0_; have HB := n1_; have BK241 := n2_; have GW241 := n3_; have GE241 := n4_; have NB240_241 := n5_; have NB241_240 := n6_; clear n0_ n1_ n2_ n3_ n4_ n5_ n6_; clear hb hbox hg))
      (try simp only [Act.put, List.setIfInBounds_toArray, List.set_cons_zero, List.set_cons_succ])
      go_cut [] (fun wc => ∃ (kq : Nat) (x241000_5 : Bool) (x241001_5 : ByteArray), Aside0 (spec_CompareNumbers.j2 kq l0 l1 x5_1 x241000_5 x241001_5 false (⟨#[]⟩ : ByteArray) = some r) ∧ Aside0 (kq ≤ kj2) ∧ Aside0 (wc.heap[gb240]? = some (.cells #[.bool x241000_5, .string x241001_5] 26 (0, 0))) ∧ Aside0 (wc.heap[gb241]? = some (.cells #[.bool false, .string (⟨#[]⟩ : ByteArray)] 26 (0, 0))) ∧ Aside0 (Below w.heap.size w wc))
      case first =>
       have H := HC6.out
       clear HC6
       by_cases c9 : x5_1 < (l0.length : Int)
       ·rw [if_pos c9] at H
        have c9b0 : decide (x5_1 < (l0.length : Int)) = true := decide_eq_true c9
        clear c9
        (first | rw [c9b0] | (simp only [i64_w, i32_w]; rw [c9b0]) | skip)
        by_cases c10 : 0 ≤ x5_1
        ·rw [if_pos c10] at H
         have c10b0 : decide (0 ≤ x5_1) = true := decide_eq_true c10
         clear c10
         have H' := Aside0.mk H
         clear H
         have p242 : 0 ≤ (x5_1 : Int) := of_decide_eq_true (by first | (with_reducible assumption) | assumption)
         have q242 : x5_1 < (l0.length : Int) := of_decide_eq_true (by first | (with_reducible assumption) | assumption)
         obtain ⟨ad242, e242, hx242_0, hx242_1⟩ := at_T26 HR0.out x5_1 p242 q242
         cases e242
         replace hx242_0 := (HB.out.cell (World.block_lt_of_cell? w _ hx242_0)).trans hx242_0
         replace hx242_1 := (HB.out.cell (World.block_lt_of_cell? w _ hx242_1)).trans hx242_1
         replace p242 := eq_true p242
         replace q242 := eq_true q242
         have hnb11 := NB240_241.out
         have hnc11 := NB241_240.out
         have hcz12_0 : w8.cell? ⟨gb240, 0, none⟩ = some (.bool false) := (blk_cell BK240.out 0).trans rfl
         have hcz12_1 : w8.cell? ⟨gb240, 1, none⟩ = some (.string (⟨#[]⟩ : ByteArray)) := (blk_cell BK240.out 1).trans rfl
         have hfz12_0 := blk_frozen BK240.out 0
         have hfz12_1 := blk_frozen BK240.out 1
         go_wp2
         go_meet
         case rel => exact ⟨_, ((rd_T26 l0 x5_1).f0), ((rd_T26 l0 x5_1).f1), H', ⟨by have := HK1.out; have := HJ2.out; first | omega | exact Nat.le_refl _⟩, ⟨by (with_reducible repeat (first | refine blk_drewN ?_ _ | refine blk_drew ?_ | refine blk_alloc ?_ _)); refine blk_put (cs := #[.bool ((rd_T26 l0 x5_1).f0), .string (⟨#[]⟩ : ByteArray)]) ?_ 1 _ rfl; (with_reducible repeat (first | refine blk_drewN ?_ _ | refine blk_drew ?_ | refine blk_alloc ?_ _)); refine blk_put (cs := #[.bool false, .string (⟨#[]⟩ : ByteArray)]) ?_ 0 _ rfl; (with_reducible repeat (first | refine blk_drewN ?_ _ | refine blk_drew ?_ | refine blk_alloc ?_ _)); exact BK240.out⟩, ⟨by (with_reducible repeat (first | refine blk_drewN ?_ _ | refine blk_drew ?_ | refine blk_alloc ?_ _)); refine blk_far ?_ NB241_240.out _; (with_reducible repeat (first | refine blk_drewN ?_ _ | refine blk_drew ?_ | refine blk_alloc ?_ _)); refine blk_far ?_ NB241_240.out _; (with_reducible repeat (first | refine blk_drewN ?_ _ | refine blk_drew ?_ | refine blk_alloc ?_ _)); exact BK241.out⟩, ⟨by repeat (first | (with_reducible first | exact HB.out | apply below_alloc | apply pw_below_drewN | apply below_drew1 | refine below_set ?_ GE240.out | refine below_set ?_ GE241.out) | exact HB.out)⟩⟩
        ·rw [if_neg c10] at H
         exact absurd H (by simp)
       ·rw [if_neg c9] at H
        have c9b0 : decide (x5_1 < (l0.length : Int)) = false := decide_eq_false c9
        clear c9
        (first | rw [c9b0] | (simp only [i64_w, i32_w]; rw [c9b0]) | skip)
        have H' := Aside0.mk H
        clear H
        go_wp2
        go_meet
        case rel => exact ⟨_, (false), ((⟨#[]⟩ : ByteArray)), H', ⟨by have := HK1.out; have := HJ2.out; first | omega | exact Nat.le_refl _⟩, ⟨by (with_reducible repeat (first | refine blk_drewN ?_ _ | refine blk_drew ?_ | refine blk_alloc ?_ _)); exact BK240.out⟩, ⟨by (with_reducible repeat (first | refine blk_drewN ?_ _ | refine blk_drew ?_ | refine blk_alloc ?_ _)); exact BK241.out⟩, ⟨by repeat (first | (with_reducible first | exact HB.out | apply below_alloc | apply pw_below_drewN | apply below_drew1 | refine below_set ?_ GE240.out | refine below_set ?_ GE241.out) | exact HB.out)⟩⟩
      case rest =>
       clear HC6
       try clear c1
       try clear p2
       try clear q2
       try clear hx2
       try clear c4
       try clear c4b0
       try clear c5
       try clear c9
       try clear c9b0
       try clear c10
       try clear c10b0
       try clear c11
       try clear hcz12_0
       try clear hcz12_1
       try clear hfz12_0
       try clear hfz12_1
       try clear hx242_0
       try clear hx242_1
       try clear p2
       try clear p242
       try clear q242
       obtain ⟨kq, x241000_5, x241001_5, HA, HJ5, BK240, BK241, HB⟩ := hcut
       cases kq with
       | zero => exact absurd HA.out (by simp [spec_CompareNumbers.j2])
       | succ kj5 =>
        have H := HA.out
        clear HA
        simp only [spec_CompareNumbers.j2] at H
        by_cases c13 : x5_1 < (l1.length : Int)
        ·rw [if_pos c13] at H
         have c13b0 : decide (x5_1 < (l1.length : Int)) = true := decide_eq_true c13
         clear c13
         by_cases c14 : 0 ≤ x5_1
         ·rw [if_pos c14] at H
          have c14b0 : decide (0 ≤ x5_1) = true := decide_eq_true c14
          clear c14
          replace H := Option.bind_eq_some_iff.mp H
          obtain ⟨t244, A150, H⟩ := H
          replace H : (if t244 = 0 then (spec_CompareNumbers.l0 kj5 l0 l1 (wrap64 (x5_1 + 1))) else (some t244)) = some r := H
          have A15 := Aside0.mk A150
          clear A150
          by_cases c16 : t244 = 0
          ·rw [if_pos c16] at H
           have c16b0 : (t244 == 0) = true := beq_iff_eq.mpr c16
           have c16b1 : (t244 != 0) = false := bne_eq_false_iff_eq.mpr c16
           clear c16
           have H' := Aside0.mk H
           clear H
           have p243 : 0 ≤ (x5_1 : Int) := of_decide_eq_true (by first | (with_reducible assumption) | assumption)
           have q243 : x5_1 < (l1.length : Int) := of_decide_eq_true (by first | (with_reducible assumption) | assumption)
           obtain ⟨ad243, e243, hx243_0, hx243_1⟩ := at_T26 HR1.out x5_1 p243 q243
           cases e243
           replace hx243_0 := (HB.out.cell (World.block_lt_of_cell? w _ hx243_0)).trans hx243_0
           replace hx243_1 := (HB.out.cell (World.block_lt_of_cell? w _ hx243_1)).trans hx243_1
           replace p243 := eq_true p243
           replace q243 := eq_true q243
           have hnb17 := NB241_240.out
           have hnc17 := NB240_241.out
           have hcz18_0 : wc.cell? ⟨gb241, 0, none⟩ = some (.bool false) := (blk_cell BK241.out 0).trans rfl
           have hcz18_1 : wc.cell? ⟨gb241, 1, none⟩ = some (.string (⟨#[]⟩ : ByteArray)) := (blk_cell BK241.out 1).trans rfl
           have hfz18_0 := blk_frozen BK241.out 0
           have hfz18_1 := blk_frozen BK241.out 1
           have hcz19_0 : wc.cell? ⟨gb240, 0, none⟩ = some (.bool x241000_5) := (blk_cell BK240.out 0).trans rfl
           have hcz19_1 : wc.cell? ⟨gb240, 1, none⟩ = some (.string x241001_5) := (blk_cell BK240.out 1).trans rfl
           have hfz19_0 := blk_frozen BK240.out 0
           have hfz19_1 := blk_frozen BK240.out 1
           go_wp2_with (first | ((with_reducible refine gate_callee (f := 28) rfl ?_); refine goesL_ (some 39) rfl rfl Tryd.func28 (by kernel_rfl) rfl #[.agg #[.bool x241000_5, .string x241001_5], .agg #[.bool ((rd_T26 l1 x5_1).f0), .string ((rd_T26 l1 x5_1).f1)]] rfl (by (try simp only [List.map_toArray, List.map_cons, List.map_nil]); first | done | rfl | (simp only [List.length_drop, List.length_take]; rfl)) ?_; (with_reducible refine (spec_intOrder.calls kj5 x241000_5 x241001_5 ((rd_T26 l1 x5_1).f0) ((rd_T26 l1 x5_1).f1) t244 _ A15.out).mono ?_); rintro e w20 ⟨rfl, hb⟩; refine ⟨_, rfl, ?_⟩; have n0_ := Aside0.mk (blk_below (g := gb240) (o := .cells #[.bool x241000_5, .string x241001_5] 26 (0, 0)) (by (with_reducible repeat (first | refine blk_drewN ?_ _ | refine blk_drew ?_ | refine blk_alloc ?_ _)); refine blk_far ?_ NB240_241.out _; (with_reducible repeat (first | refine blk_drewN ?_ _ | refine blk_drew ?_ | refine blk_alloc ?_ _)); refine blk_far ?_ NB240_241.out _; (with_reducible repeat (first | refine blk_drewN ?_ _ | refine blk_drew ?_ | refine blk_alloc ?_ _)); exact BK240.out) hb); have n1_ := Aside0.mk (blk_below (g := gb241) (o := .cells #[.bool ((rd_T26 l1 x5_1).f0), .string ((rd_T26 l1 x5_1).f1)] 26 (0, 0)) (by (with_reducible repeat (first | refine blk_drewN ?_ _ | refine blk_drew ?_ | refine blk_alloc ?_ _)); refine blk_put (cs := #[.bool ((rd_T26 l1 x5_1).f0), .string (⟨#[]⟩ : ByteArray)]) ?_ 1 _ rfl; (with_reducible repeat (first | refine blk_drewN ?_ _ | refine blk_drew ?_ | refine blk_alloc ?_ _)); refine blk_put (cs := #[.bool false, .string (⟨#[]⟩ : ByteArray)]) ?_ 0 _ rfl; (with_reducible repeat (first | refine blk_drewN ?_ _ | refine blk_drew ?_ | refine blk_alloc ?_ _)); exact BK241.out) hb); have n2_ := Aside0.mk (below_step (by repeat (first | (with_reducible first | exact HB.out | apply below_alloc | apply pw_below_drewN | apply below_drew1 | refine below_set ?_ GE240.out | refine below_set ?_ GE241.out) | exact HB.out)) hb); clear BK240; clear BK241; clear HB; have BK240 := n0_; have BK241 := n1_; have HB := n2_; clear n0_ n1_ n2_; (try clear hb); (try clear hb2); (try clear hk); (try clear hi)))
           go_roundg kj5
           case measure => have := HK1.out; have := HJ2.out; have := HJ5.out; omega
           case rel => exact ⟨(wrap64 (x5_1 + 1)), (by first | rfl | (simp; done) | (simp [*]; done)), H', ⟨by have := HK1.out; have := HJ2.out; have := HJ5.out; omega⟩, ⟨by repeat (first | (with_reducible first | exact HB.out | apply below_alloc | apply pw_below_drewN | apply below_drew1 | refine below_set ?_ GE240.out | refine below_set ?_ GE241.out) | exact HB.out)⟩⟩
          ·rw [if_neg c16] at H
           have c16b0 : (t244 == 0) = false := beq_eq_false_iff_ne.mpr c16
           have c16b1 : (t244 != 0) = true := bne_iff_ne.mpr c16
           obtain rfl := Option.some.inj H
           have p243 : 0 ≤ (x5_1 : Int) := of_decide_eq_true (by first | (with_reducible assumption) | assumption)
           have q243 : x5_1 < (l1.length : Int) := of_decide_eq_true (by first | (with_reducible assumption) | assumption)
           obtain ⟨ad243, e243, hx243_0, hx243_1⟩ := at_T26 HR1.out x5_1 p243 q243
           cases e243
           replace hx243_0 := (HB.out.cell (World.block_lt_of_cell? w _ hx243_0)).trans hx243_0
           replace hx243_1 := (HB.out.cell (World.block_lt_of_cell? w _ hx243_1)).trans hx243_1
           replace p243 := eq_true p243
           replace q243 := eq_true q243
           have hnb21 := NB241_240.out
           have hnc21 := NB240_241.out
           have hcz22_0 : wc.cell? ⟨gb241, 0, none⟩ = some (.bool false) := (blk_cell BK241.out 0).trans rfl
           have hcz22_1 : wc.cell? ⟨gb241, 1, none⟩ = some (.string (⟨#[]⟩ : ByteArray)) := (blk_cell BK241.out 1).trans rfl
           have hfz22_0 := blk_frozen BK241.out 0
           have hfz22_1 := blk_frozen BK241.out 1
           have hcz23_0 : wc.cell? ⟨gb240, 0, none⟩ = some (.bool x241000_5) := (blk_cell BK240.out 0).trans rfl
           have hcz23_1 : wc.cell? ⟨gb240, 1, none⟩ = some (.string x241001_5) := (blk_cell BK240.out 1).trans rfl
           have hfz23_0 := blk_frozen BK240.out 0
           have hfz23_1 := blk_frozen BK240.out 1
           go_wp2_with (first | ((with_reducible refine gate_callee (f := 28) rfl ?_); refine goesL_ (some 39) rfl rfl Tryd.func28 (by kernel_rfl) rfl #[.agg #[.bool x241000_5, .string x241001_5], .agg #[.bool ((rd_T26 l1 x5_1).f0), .string ((rd_T26 l1 x5_1).f1)]] rfl (by (try simp only [List.map_toArray, List.map_cons, List.map_nil]); first | done | rfl | (simp only [List.length_drop, List.length_take]; rfl)) ?_; (with_reducible refine (spec_intOrder.calls kj5 x241000_5 x241001_5 ((rd_T26 l1 x5_1).f0) ((rd_T26 l1 x5_1).f1) t244 _ A15.out).mono ?_); rintro e w24 ⟨rfl, hb⟩; refine ⟨_, rfl, ?_⟩; have n0_ := Aside0.mk (blk_below (g := gb240) (o := .cells #[.bool x241000_5, .string x241001_5] 26 (0, 0)) (by (with_reducible repeat (first | refine blk_drewN ?_ _ | refine blk_drew ?_ | refine blk_alloc ?_ _)); refine blk_far ?_ NB240_241.out _; (with_reducible repeat (first | refine blk_drewN ?_ _ | refine blk_drew ?_ | refine blk_alloc ?_ _)); refine blk_far ?_ NB240_241.out _; (with_reducible repeat (first | refine blk_drewN ?_ _ | refine blk_drew ?_ | refine blk_alloc ?_ _)); exact BK240.out) hb); have n1_ := Aside0.mk (blk_below (g := gb241) (o := .cells #[.bool ((rd_T26 l1 x5_1).f0), .string ((rd_T26 l1 x5_1).f1)] 26 (0, 0)) (by (with_reducible repeat (first | refine blk_drewN ?_ _ | refine blk_drew ?_ | refine blk_alloc ?_ _)); refine blk_put (cs := #[.bool ((rd_T26 l1 x5_1).f0), .string (⟨#[]⟩ : ByteArray)]) ?_ 1 _ rfl; (with_reducible repeat (first | refine blk_drewN ?_ _ | refine blk_drew ?_ | refine blk_alloc ?_ _)); refine blk_put (cs := #[.bool false, .string (⟨#[]⟩ : ByteArray)]) ?_ 0 _ rfl; (with_reducible repeat (first | refine blk_drewN ?_ _ | refine blk_drew ?_ | refine blk_alloc ?_ _)); exact BK241.out) hb); have n2_ := Aside0.mk (below_step (by repeat (first | (with_reducible first | exact HB.out | apply below_alloc | apply pw_below_drewN | apply below_drew1 | refine below_set ?_ GE240.out | refine below_set ?_ GE241.out) | exact HB.out)) hb); clear BK240; clear BK241; clear HB; have BK240 := n0_; have BK241 := n1_; have HB := n2_; clear n0_ n1_ n2_; (try clear hb); (try clear hb2); (try clear hk); (try clear hi)))
           go_ret
           exact ⟨by first | rfl | (simp [errW_none, errW_some] <;> rfl) | (simp [*, errW_none, errW_some] <;> rfl), by repeat (first | (with_reducible first | exact HB.out | apply below_alloc | apply pw_below_drewN | apply below_drew1 | refine below_set ?_ GE240.out | refine below_set ?_ GE241.out) | exact HB.out)⟩
         ·rw [if_neg c14] at H
          exact absurd H (by simp)
        ·rw [if_neg c13] at H
         have c13b0 : decide (x5_1 < (l1.length : Int)) = false := decide_eq_false c13
         clear c13
         replace H := Option.bind_eq_some_iff.mp H
         obtain ⟨t245, A250, H⟩ := H
         replace H : (if t245 = 0 then (spec_CompareNumbers.l0 kj5 l0 l1 (wrap64 (x5_1 + 1))) else (some t245)) = some r := H
         have A25 := Aside0.mk A250
         clear A250
         by_cases c26 : t245 = 0
         ·rw [if_pos c26] at H
          have c26b0 : (t245 == 0) = true := beq_iff_eq.mpr c26
          have c26b1 : (t245 != 0) = false := bne_eq_false_iff_eq.mpr c26
          clear c26
          have H' := Aside0.mk H
          clear H
          have hnb27 := NB240_241.out
          have hnc27 := NB241_240.out
          have hcz28_0 : wc.cell? ⟨gb240, 0, none⟩ = some (.bool x241000_5) := (blk_cell BK240.out 0).trans rfl
          have hcz28_1 : wc.cell? ⟨gb240, 1, none⟩ = some (.string x241001_5) := (blk_cell BK240.out 1).trans rfl
          have hfz28_0 := blk_frozen BK240.out 0
          have hfz28_1 := blk_frozen BK240.out 1
          have hcz29_0 : wc.cell? ⟨gb241, 0, none⟩ = some (.bool false) := (blk_cell BK241.out 0).trans rfl
          have hcz29_1 : wc.cell? ⟨gb241, 1, none⟩ = some (.string (⟨#[]⟩ : ByteArray)) := (blk_cell BK241.out 1).trans rfl
          have hfz29_0 := blk_frozen BK241.out 0
          have hfz29_1 := blk_frozen BK241.out 1
          go_wp2_with (first | ((with_reducible refine gate_callee (f := 28) rfl ?_); refine goesL_ (some 39) rfl rfl Tryd.func28 (by kernel_rfl) rfl #[.agg #[.bool x241000_5, .string x241001_5], .agg #[.bool false, .string (⟨#[]⟩ : ByteArray)]] rfl (by (try simp only [List.map_toArray, List.map_cons, List.map_nil]); first | done | rfl | (simp only [List.length_drop, List.length_take]; rfl)) ?_; (with_reducible refine (spec_intOrder.calls kj5 x241000_5 x241001_5 false (⟨#[]⟩ : ByteArray) t245 _ A25.out).mono ?_); rintro e w30 ⟨rfl, hb⟩; refine ⟨_, rfl, ?_⟩; have n0_ := Aside0.mk (blk_below (g := gb240) (o := .cells #[.bool x241000_5, .string x241001_5] 26 (0, 0)) (by (with_reducible repeat (first | refine blk_drewN ?_ _ | refine blk_drew ?_ | refine blk_alloc ?_ _)); exact BK240.out) hb); have n1_ := Aside0.mk (blk_below (g := gb241) (o := .cells #[.bool false, .string (⟨#[]⟩ : ByteArray)] 26 (0, 0)) (by (with_reducible repeat (first | refine blk_drewN ?_ _ | refine blk_drew ?_ | refine blk_alloc ?_ _)); exact BK241.out) hb); have n2_ := Aside0.mk (below_step (by repeat (first | (with_reducible first | exact HB.out | apply below_alloc | apply pw_below_drewN | apply below_drew1 | refine below_set ?_ GE240.out | refine below_set ?_ GE241.out) | exact HB.out)) hb); clear BK240; clear BK241; clear HB; have BK240 := n0_; have BK241 := n1_; have HB := n2_; clear n0_ n1_ n2_; (try clear hb); (try clear hb2); (try clear hk); (try clear hi)))
          go_roundg kj5
          case measure => have := HK1.out; have := HJ2.out; have := HJ5.out; omega
          case rel => exact ⟨(wrap64 (x5_1 + 1)), (by first | rfl | (simp; done) | (simp [*]; done)), H', ⟨by have := HK1.out; have := HJ2.out; have := HJ5.out; omega⟩, ⟨by repeat (first | (with_reducible first | exact HB.out | apply below_alloc | apply pw_below_drewN | apply below_drew1 | refine below_set ?_ GE240.out | refine below_set ?_ GE241.out) | exact HB.out)⟩⟩
         ·rw [if_neg c26] at H
          have c26b0 : (t245 == 0) = false := beq_eq_false_iff_ne.mpr c26
          have c26b1 : (t245 != 0) = true := bne_iff_ne.mpr c26
          obtain rfl := Option.some.inj H
          have hnb31 := NB240_241.out
          have hnc31 := NB241_240.out
          have hcz32_0 : wc.cell? ⟨gb240, 0, none⟩ = some (.bool x241000_5) := (blk_cell BK240.out 0).trans rfl
          have hcz32_1 : wc.cell? ⟨gb240, 1, none⟩ = some (.string x241001_5) := (blk_cell BK240.out 1).trans rfl
          have hfz32_0 := blk_frozen BK240.out 0
          have hfz32_1 := blk_frozen BK240.out 1
          have hcz33_0 : wc.cell? ⟨gb241, 0, none⟩ = some (.bool false) := (blk_cell BK241.out 0).trans rfl
          have hcz33_1 : wc.cell? ⟨gb241, 1, none⟩ = some (.string (⟨#[]⟩ : ByteArray)) := (blk_cell BK241.out 1).trans rfl
          have hfz33_0 := blk_frozen BK241.out 0
          have hfz33_1 := blk_frozen BK241.out 1
          go_wp2_with (first | ((with_reducible refine gate_callee (f := 28) rfl ?_); refine goesL_ (some 39) rfl rfl Tryd.func28 (by kernel_rfl) rfl #[.agg #[.bool x241000_5, .string x241001_5], .agg #[.bool false, .string (⟨#[]⟩ : ByteArray)]] rfl (by (try simp only [List.map_toArray, List.map_cons, List.map_nil]); first | done | rfl | (simp only [List.length_drop, List.length_take]; rfl)) ?_; (with_reducible refine (spec_intOrder.calls kj5 x241000_5 x241001_5 false (⟨#[]⟩ : ByteArray) t245 _ A25.out).mono ?_); rintro e w34 ⟨rfl, hb⟩; refine ⟨_, rfl, ?_⟩; have n0_ := Aside0.mk (blk_below (g := gb240) (o := .cells #[.bool x241000_5, .string x241001_5] 26 (0, 0)) (by (with_reducible repeat (first | refine blk_drewN ?_ _ | refine blk_drew ?_ | refine blk_alloc ?_ _)); exact BK240.out) hb); have n1_ := Aside0.mk (blk_below (g := gb241) (o := .cells #[.bool false, .string (⟨#[]⟩ : ByteArray)] 26 (0, 0)) (by (with_reducible repeat (first | refine blk_drewN ?_ _ | refine blk_drew ?_ | refine blk_alloc ?_ _)); exact BK241.out) hb); have n2_ := Aside0.mk (below_step (by repeat (first | (with_reducible first | exact HB.out | apply below_alloc | apply pw_below_drewN | apply below_drew1 | refine below_set ?_ GE240.out | refine below_set ?_ GE241.out) | exact HB.out)) hb); clear BK240; clear BK241; clear HB; have BK240 := n0_; have BK241 := n1_; have HB := n2_; clear n0_ n1_ n2_; (try clear hb); (try clear hb2); (try clear hk); (try clear hi)))
          go_ret
          exact ⟨by first | rfl | (simp [errW_none, errW_some] <;> rfl) | (simp [*, errW_none, errW_some] <;> rfl), by repeat (first | (with_reducible first | exact HB.out | apply below_alloc | apply pw_below_drewN | apply below_drew1 | refine below_set ?_ GE240.out | refine below_set ?_ GE241.out) | exact HB.out)⟩
     ·replace c5 := Bool.eq_false_iff.mpr c5
      subst c5
      have H1 : (some 0) = some r := by rw [if_neg (show ¬ (false = true) by decide)] at H; exact H
      clear H
      have H := H1
      clear H1
      obtain rfl := Option.some.inj H
      go_wp2
      go_ret
      exact ⟨by first | rfl | (simp [errW_none, errW_some] <;> rfl) | (simp [*, errW_none, errW_some] <;> rfl), by repeat (first | (with_reducible first | exact HB.out | apply below_alloc | apply pw_below_drewN | apply below_drew1) | exact HB.out)⟩

end Go.Proofs.YtkcciinapkeaiaaDoor.Z
