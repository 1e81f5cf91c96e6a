-- Written by a program of this session (myprint.py).
import Derived.Test.YtipfmkfpaglkkaaGreatDoorZ0
import Derived.Test.YtipfmkfpaglkkaaGreatDoorGe
namespace Go.Proofs.YtipfmkfpaglkkaaGreatDoor.Z
open Go.Proofs.YtipfmkfpaglkkaaGreatDoor.Gw
open Go.RowKit Go.Proofs.YtipfmkfpaglkkaaGreatDoorW.PrintWords Go.Proofs.YtipfmkfpaglkkaaGreatDoorW.PrintLast Go.Proofs.YtipfmkfpaglkkaaGreatDoorW.PrintMore
attribute [local go_sem high] Go.Proofs.YtipfmkfpaglkkaaGreatDoor.Ge.gtr_str
attribute [local go_sem] max2_int min2_int max_two min_two max_three min_three max_four min_four   -- for this text's walks alone
set_option linter.unusedVariables false
set_option linter.unusedSimpArgs false

/-! ### bigall_nat_cmp: function 68 -/
mutual
def bigall_nat_cmp.j0 : Nat → List Int → List Int → Int → Int → Int → Bool → Option (Int)
 | 0, _, _, _, _, _, _ => none
 | k + 1, x0, x1, x4, x5, x6, x18 => if x18 = true then (if x5 < x6 then (some (-1)) else (if x5 > x6 then (some 1) else (some x4))) else (bigall_nat_cmp.l0 k x0 x1 x4 (wrap64 (x5 - 1)))
def bigall_nat_cmp.j2 : Nat → List Int → List Int → Int → Int → Option (Int)
 | 0, _, _, _, _ => none
 | k + 1, x0, x1, x4, x7 => if 0 ≤ x7 then (if x7 < (x0.length : Int) then (if x7 < (x1.length : Int) then (if (rd x0 x7) < (rd x1 x7) then (some (-1)) else (if (rd x0 x7) > (rd x1 x7) then (some 1) else (some x4))) else (none)) else (none)) else (none)
def bigall_nat_cmp.l0 : Nat → List Int → List Int → Int → Int → Option (Int)
 | 0, _, _, _, _ => none
 | k + 1, x0, x1, x4, x7 => if x7 > 0 then (if 0 ≤ x7 then (if x7 < (x0.length : Int) then (if x7 < (x1.length : Int) then (if (rd x0 x7) = (rd x1 x7) then (bigall_nat_cmp.l0 k x0 x1 x4 (wrap64 (x7 - 1))) else (bigall_nat_cmp.j2 k x0 x1 x4 x7)) else (none)) else (none)) else (none)) else (bigall_nat_cmp.j2 k x0 x1 x4 x7)
end
def bigall_nat_cmp.f (k : Nat) (l0 : List Int) (l1 : List Int) : Option (Int) := if (l0.length : Int) = (l1.length : Int) then (bigall_nat_cmp.j0 k l0 l1 0 (l0.length : Int) (l1.length : Int) ((l0.length : Int) == 0)) else (bigall_nat_cmp.j0 k l0 l1 0 (l0.length : Int) (l1.length : Int) true)
theorem bigall_nat_cmp.mono_l : ∀ k, (∀ y0 y1 y2 y3 y4 y5, LeO (bigall_nat_cmp.j0 k y0 y1 y2 y3 y4 y5) (bigall_nat_cmp.j0 (k + 1) y0 y1 y2 y3 y4 y5)) ∧ (∀ y0 y1 y2 y3, LeO (bigall_nat_cmp.j2 k y0 y1 y2 y3) (bigall_nat_cmp.j2 (k + 1) y0 y1 y2 y3)) ∧ (∀ y0 y1 y2 y3, LeO (bigall_nat_cmp.l0 k y0 y1 y2 y3) (bigall_nat_cmp.l0 (k + 1) y0 y1 y2 y3))
 | 0 => ⟨fun _ _ _ _ _ _ r h => by simp [bigall_nat_cmp.j0] at h, fun _ _ _ _ r h => by simp [bigall_nat_cmp.j2] at h, fun _ _ _ _ r h => by simp [bigall_nat_cmp.l0] at h⟩
 | k + 1 => by
  obtain ⟨ih0, ih1, ih2⟩ := bigall_nat_cmp.mono_l k
  refine ⟨?_, ?_, ?_⟩
  ·intro y0 y1 y2 y3 y4 y5
   unfold bigall_nat_cmp.j0
   repeat' first
   | (with_reducible exact ih0 _ _ _ _ _ _)
   | (with_reducible exact ih1 _ _ _ _)
   | (with_reducible exact ih2 _ _ _ _)
   | (with_reducible exact LeO.refl _)
   | (with_reducible exact LeO.none _)
   | (with_reducible refine LeO.ite ?_ ?_)
   | (with_reducible refine LeO.bind ?_ (fun _ => ?_))
   | exact ih0 _ _ _ _ _ _
   | exact ih1 _ _ _ _
   | exact ih2 _ _ _ _
   | exact LeO.none _
   | refine LeO.ite ?_ ?_
   | refine LeO.bind ?_ (fun _ => ?_)
  ·intro y0 y1 y2 y3
   unfold bigall_nat_cmp.j2
   repeat' first
   | (with_reducible exact ih0 _ _ _ _ _ _)
   | (with_reducible exact ih1 _ _ _ _)
   | (with_reducible exact ih2 _ _ _ _)
   | (with_reducible exact LeO.refl _)
   | (with_reducible exact LeO.none _)
   | (with_reducible refine LeO.ite ?_ ?_)
   | (with_reducible refine LeO.bind ?_ (fun _ => ?_))
   | exact ih0 _ _ _ _ _ _
   | exact ih1 _ _ _ _
   | exact ih2 _ _ _ _
   | exact LeO.none _
   | refine LeO.ite ?_ ?_
   | refine LeO.bind ?_ (fun _ => ?_)
  ·intro y0 y1 y2 y3
   unfold bigall_nat_cmp.l0
   repeat' first
   | (with_reducible exact ih0 _ _ _ _ _ _)
   | (with_reducible exact ih1 _ _ _ _)
   | (with_reducible exact ih2 _ _ _ _)
   | (with_reducible exact LeO.refl _)
   | (with_reducible exact LeO.none _)
   | (with_reducible refine LeO.ite ?_ ?_)
   | (with_reducible refine LeO.bind ?_ (fun _ => ?_))
   | exact ih0 _ _ _ _ _ _
   | exact ih1 _ _ _ _
   | exact ih2 _ _ _ _
   | exact LeO.none _
   | refine LeO.ite ?_ ?_
   | refine LeO.bind ?_ (fun _ => ?_)
theorem bigall_nat_cmp.mono : ∀ a0 a1 k, LeO (bigall_nat_cmp.f k a0 a1) (bigall_nat_cmp.f (k + 1) a0 a1) := by
 intro a0 a1 k
 obtain ⟨ih0, ih1, ih2⟩ := bigall_nat_cmp.mono_l k
 unfold bigall_nat_cmp.f
 repeat' first
   | (with_reducible exact ih0 _ _ _ _ _ _)
   | (with_reducible exact ih1 _ _ _ _)
   | (with_reducible exact ih2 _ _ _ _)
   | (with_reducible exact LeO.refl _)
   | (with_reducible exact LeO.none _)
   | (with_reducible refine LeO.ite ?_ ?_)
   | (with_reducible refine LeO.bind ?_ (fun _ => ?_))
   | exact ih0 _ _ _ _ _ _
   | exact ih1 _ _ _ _
   | exact ih2 _ _ _ _
   | exact LeO.none _
   | refine LeO.ite ?_ ?_
   | refine LeO.bind ?_ (fun _ => ?_)
set_option maxHeartbeats 8000000 in
set_option maxRecDepth 100000 in
theorem bigall_nat_cmp.calls (k : Nat) (A0 : Option Addr) (c0 : Nat) (l0 : List Int) (A1 : Option Addr) (c1 : Nat) (l1 : List Int) (r : Int) (w : World) (hr0 : Kd.C (Kd.int .u64) w A0 l0.length l0) (hc0 : l0.length ≤ c0) (hr1 : Kd.C (Kd.int .u64) w A1 l1.length l1) (hc1 : l1.length ≤ c1) (h : bigall_nat_cmp.f k l0 l1 = some r) :
  Calls Tryz.prog 68 #[.slice A0 l0.length c0, .slice A1 l1.length c1] w fun e w' => e = .returned (.int .i64 r) ∧ Drawn0 w w' := by
 have HR0 := Aside0.mk hr0
 have HC0 := Aside0.mk hc0
 clear hr0 hc0
 have HR1 := Aside0.mk hr1
 have HC1 := Aside0.mk hc1
 clear hr1 hc1
 have H : (if (l0.length : Int) = (l1.length : Int) then (bigall_nat_cmp.j0 k l0 l1 0 (l0.length : Int) (l1.length : Int) ((l0.length : Int) == 0)) else (bigall_nat_cmp.j0 k l0 l1 0 (l0.length : Int) (l1.length : Int) true)) = some r := h
 clear h
 have HC3 := Aside0.mk H
 clear H
 go_enter Tryz.func68, Tryz.ntmps68
 go_upto_region 3 with (fail)
 repeat (go_quiet (fail); go_upto_region 3 with (fail))
 go_cut [18] (fun v18 wc => ∃ (kq : Nat) (x18_2 : Bool), v18 = .bool x18_2 ∧ Aside0 (bigall_nat_cmp.j0 kq l0 l1 0 (l0.length : Int) (l1.length : Int) x18_2 = some r) ∧ Aside0 (kq ≤ k) ∧ Drawn0 w wc)
 case first =>
  have H := HC3.out
  clear HC3
  by_cases c4 : (l0.length : Int) = (l1.length : Int)
  ·rw [if_pos c4] at H
   have c4b0 : ((l0.length : Int) == (l1.length : Int)) = true := beq_iff_eq.mpr c4
   have c4b1 : ((l0.length : Int) != (l1.length : Int)) = false := bne_eq_false_iff_eq.mpr c4
   have c4b2 : (l0.length == l1.length) = true := by first | simpa using c4 | (simp at c4 ⊢; omega)
   clear c4
   (first | rw [c4b0] | (simp only [i64_w, i32_w]; rw [c4b0]) | skip)
   have H' := Aside0.mk H
   clear H
   go_wp2
   repeat (go_quiet (fail); try go_wp2)
   go_meet
   case rel => exact ⟨_, (((l0.length : Int) == 0)), (by first | rfl | (simp; done) | (simp [*]; done)), H', ⟨by first | omega | exact Nat.le_refl _⟩, by repeat (first | exact Drawn0.refl _ | apply Drawn0.step)⟩
  ·rw [if_neg c4] at H
   have c4b0 : ((l0.length : Int) == (l1.length : Int)) = false := beq_eq_false_iff_ne.mpr c4
   have c4b1 : ((l0.length : Int) != (l1.length : Int)) = true := bne_iff_ne.mpr c4
   have c4b2 : (l0.length == l1.length) = false := by first | simpa using c4 | (simp at c4 ⊢; omega)
   (first | rw [c4b0] | (simp only [i64_w, i32_w]; rw [c4b0]) | skip)
   have H' := Aside0.mk H
   clear H
   go_wp2
   repeat (go_quiet (fail); try go_wp2)
   go_meet
   case rel => exact ⟨_, (true), (by first | rfl | (simp; done) | (simp [*]; done)), H', ⟨by first | omega | exact Nat.le_refl _⟩, by repeat (first | exact Drawn0.refl _ | apply Drawn0.step)⟩
 case rest =>
  clear HC3
  try clear c1
  try clear p2
  try clear c4
  try clear c4b0
  try clear c4b1
  try clear c4b2
  obtain ⟨kq, x18_2, rfl, HA, HJ2, ⟨mc2, rfl⟩⟩ := hcut
  cases kq with
  | zero => exact absurd HA.out (by simp [bigall_nat_cmp.j0])
  | succ kj2 =>
   have H := HA.out
   clear HA
   simp only [bigall_nat_cmp.j0] at H
   by_cases c5 : x18_2 = true
   ·subst c5
    have H1 : (if (l0.length : Int) < (l1.length : Int) then (some (-1)) else (if (l0.length : Int) > (l1.length : Int) then (some 1) else (some 0))) = some r := by rw [if_pos rfl] at H; exact H
    clear H
    have H := H1
    clear H1
    by_cases c6 : (l0.length : Int) < (l1.length : Int)
    ·rw [if_pos c6] at H
     have c6b0 : decide ((l0.length : Int) < (l1.length : Int)) = true := decide_eq_true c6
     have c6b1 : decide (l0.length < l1.length) = true := decide_eq_true (Int.ofNat_lt.mp c6)
     clear c6
     obtain rfl := Option.some.inj H
     go_wp2
     repeat (go_quiet (fail); try go_wp2)
     go_ret
     exact ⟨by first | rfl | (simp; done) | (simp [*]; done), by repeat (first | exact Drawn0.refl _ | apply Drawn0.step)⟩
    ·rw [if_neg c6] at H
     have c6b0 : decide ((l0.length : Int) < (l1.length : Int)) = false := decide_eq_false c6
     have c6b1 : decide (l0.length < l1.length) = false := decide_eq_false (fun h => c6 (Int.ofNat_lt.mpr h))
     clear c6
     by_cases c7 : (l0.length : Int) > (l1.length : Int)
     ·rw [if_pos c7] at H
      have c7b0 : decide ((l1.length : Int) < (l0.length : Int)) = true := decide_eq_true c7
      have c7b1 : decide (l1.length < l0.length) = true := decide_eq_true (Int.ofNat_lt.mp c7)
      clear c7
      obtain rfl := Option.some.inj H
      go_wp2
      repeat (go_quiet (fail); try go_wp2)
      go_ret
      exact ⟨by first | rfl | (simp; done) | (simp [*]; done), by repeat (first | exact Drawn0.refl _ | apply Drawn0.step)⟩
     ·rw [if_neg c7] at H
      have c7b0 : decide ((l1.length : Int) < (l0.length : Int)) = false := decide_eq_false c7
      have c7b1 : decide (l1.length < l0.length) = false := decide_eq_false (fun h => c7 (Int.ofNat_lt.mpr h))
      clear c7
      obtain rfl := Option.some.inj H
      go_wp2
      repeat (go_quiet (fail); try go_wp2)
      go_ret
      exact ⟨by first | rfl | (simp; done) | (simp [*]; done), by repeat (first | exact Drawn0.refl _ | apply Drawn0.step)⟩
   ·replace c5 := Bool.eq_false_iff.mpr c5
    subst c5
    have H1 : (bigall_nat_cmp.l0 kj2 l0 l1 0 (wrap64 ((l0.length : Int) - 1))) = some r := by rw [if_neg (show ¬ (false = true) by decide)] at H; exact H
    clear H
    have H := H1
    clear H1
    have HC8 := Aside0.mk H
    clear H
    go_upto_block 1 with (fail)
    repeat (go_quiet (fail); go_upto_block 1 with (fail))
    go_cut [7] (fun v7 wc => ∃ (kq : Nat) (x7_7 : Int), v7 = .int .i64 x7_7 ∧ Aside0 (bigall_nat_cmp.j2 kq l0 l1 0 x7_7 = some r) ∧ Aside0 (kq ≤ kj2) ∧ Drawn0 w wc)
    case first =>
     have H := HC8.out
     clear HC8
     have H' := Aside0.mk H
     clear H
     go_wp2
     repeat (go_quiet (fail); try go_wp2)
     go_loopg [7] kj2 (fun kq v7 w' => ∃ (x7_2 : Int), v7 = .int .i64 x7_2 ∧ Aside0 (bigall_nat_cmp.l0 kq l0 l1 0 x7_2 = some r) ∧ Aside0 (kq ≤ kj2) ∧ Drawn0 w w')
     case atStart => exact ⟨(wrap64 ((l0.length : Int) - 1)), (by first | rfl | (simp; done) | (simp [*]; done)), H', ⟨Nat.le_refl _⟩, by repeat (first | exact Drawn0.refl _ | apply Drawn0.step)⟩
     case round =>
      clear H'
      try clear c1
      try clear c2
      try clear p2
      try clear c4
      try clear c4b0
      try clear c4b1
      try clear c4b2
      try clear c5
      try clear c6
      try clear c6b0
      try clear c6b1
      try clear p6
      try clear c7
      try clear c7b0
      try clear c7b1
      try clear p2
      obtain ⟨x7_2, rfl, HA, HK2, ⟨m2, rfl⟩⟩ := hrel
      cases gk with
      | zero => exact absurd HA.out (by simp [bigall_nat_cmp.l0])
      | succ k2 =>
       have H := HA.out
       clear HA
       simp only [bigall_nat_cmp.l0] at H
       by_cases c9 : x7_2 > 0
       ·rw [if_pos c9] at H
        have c9b0 : decide (0 < x7_2) = true := decide_eq_true c9
        clear c9
        (first | rw [c9b0] | (simp only [i64_w, i32_w]; rw [c9b0]) | skip)
        by_cases c10 : 0 ≤ x7_2
        ·rw [if_pos c10] at H
         have c10b0 : decide (0 ≤ x7_2) = true := decide_eq_true c10
         clear c10
         by_cases c11 : x7_2 < (l0.length : Int)
         ·rw [if_pos c11] at H
          have c11b0 : decide (x7_2 < (l0.length : Int)) = true := decide_eq_true c11
          clear c11
          by_cases c12 : x7_2 < (l1.length : Int)
          ·rw [if_pos c12] at H
           have c12b0 : decide (x7_2 < (l1.length : Int)) = true := decide_eq_true c12
           clear c12
           by_cases c13 : (rd l0 x7_2) = (rd l1 x7_2)
           ·rw [if_pos c13] at H
            have c13b0 : ((rd l0 x7_2) == (rd l1 x7_2)) = true := beq_iff_eq.mpr c13
            have c13b1 : ((rd l0 x7_2) != (rd l1 x7_2)) = false := bne_eq_false_iff_eq.mpr c13
            clear c13
            have H' := Aside0.mk H
            clear H
            have p163 : 0 ≤ (x7_2 : Int) := of_decide_eq_true (by first | (with_reducible assumption) | assumption)
            have q163 : x7_2 < (l0.length : Int) := of_decide_eq_true (by first | (with_reducible assumption) | assumption)
            obtain ⟨ad163, e163, hx163_0⟩ := Kd.at_int HR0.out x7_2 p163 q163
            cases e163
            replace p163 := eq_true p163
            replace q163 := eq_true q163
            have p164 : 0 ≤ (x7_2 : Int) := of_decide_eq_true (by first | (with_reducible assumption) | assumption)
            have q164 : x7_2 < (l1.length : Int) := of_decide_eq_true (by first | (with_reducible assumption) | assumption)
            obtain ⟨ad164, e164, hx164_0⟩ := Kd.at_int HR1.out x7_2 p164 q164
            cases e164
            replace p164 := eq_true p164
            replace q164 := eq_true q164
            go_wp2
            repeat (go_quiet (fail); try go_wp2)
            go_roundg k2
            case measure => have := HJ2.out; have := HK2.out; omega
            case rel => exact ⟨(wrap64 (x7_2 - 1)), (by first | rfl | (simp; done) | (simp [*]; done)), H', ⟨by have := HJ2.out; have := HK2.out; omega⟩, by repeat (first | exact Drawn0.refl _ | apply Drawn0.step)⟩
           ·rw [if_neg c13] at H
            have c13b0 : ((rd l0 x7_2) == (rd l1 x7_2)) = false := beq_eq_false_iff_ne.mpr c13
            have c13b1 : ((rd l0 x7_2) != (rd l1 x7_2)) = true := bne_iff_ne.mpr c13
            have H' := Aside0.mk H
            clear H
            have p163 : 0 ≤ (x7_2 : Int) := of_decide_eq_true (by first | (with_reducible assumption) | assumption)
            have q163 : x7_2 < (l0.length : Int) := of_decide_eq_true (by first | (with_reducible assumption) | assumption)
            obtain ⟨ad163, e163, hx163_0⟩ := Kd.at_int HR0.out x7_2 p163 q163
            cases e163
            replace p163 := eq_true p163
            replace q163 := eq_true q163
            have p164 : 0 ≤ (x7_2 : Int) := of_decide_eq_true (by first | (with_reducible assumption) | assumption)
            have q164 : x7_2 < (l1.length : Int) := of_decide_eq_true (by first | (with_reducible assumption) | assumption)
            obtain ⟨ad164, e164, hx164_0⟩ := Kd.at_int HR1.out x7_2 p164 q164
            cases e164
            replace p164 := eq_true p164
            replace q164 := eq_true q164
            go_wp2
            repeat (go_quiet (fail); try go_wp2)
            go_meet
            case rel => exact ⟨_, (x7_2), (by first | rfl | (simp; done) | (simp [*]; done)), H', ⟨by have := HJ2.out; have := HK2.out; first | omega | exact Nat.le_refl _⟩, by repeat (first | exact Drawn0.refl _ | apply Drawn0.step)⟩
          ·rw [if_neg c12] at H
           exact absurd H (by simp)
         ·rw [if_neg c11] at H
          exact absurd H (by simp)
        ·rw [if_neg c10] at H
         exact absurd H (by simp)
       ·rw [if_neg c9] at H
        have c9b0 : decide (0 < x7_2) = false := decide_eq_false c9
        clear c9
        (first | rw [c9b0] | (simp only [i64_w, i32_w]; rw [c9b0]) | skip)
        have H' := Aside0.mk H
        clear H
        go_wp2
        repeat (go_quiet (fail); try go_wp2)
        go_meet
        case rel => exact ⟨_, (x7_2), (by first | rfl | (simp; done) | (simp [*]; done)), H', ⟨by have := HJ2.out; have := HK2.out; first | omega | exact Nat.le_refl _⟩, by repeat (first | exact Drawn0.refl _ | apply Drawn0.step)⟩
    case rest =>
     clear HC8
     try clear c1
     try clear p1
     try clear q1
     try clear hx1
     try clear c2
     try clear p2
     try clear c4
     try clear c4b0
     try clear c4b1
     try clear c4b2
     try clear c5
     try clear c6
     try clear c6b0
     try clear c6b1
     try clear p6
     try clear c7
     try clear c7b0
     try clear c7b1
     try clear c9
     try clear c9b0
     try clear c10
     try clear c10b0
     try clear c11
     try clear c11b0
     try clear c12
     try clear c12b0
     try clear c13
     try clear c13b0
     try clear c13b1
     try clear hx163_0
     try clear hx164_0
     try clear p163
     try clear p164
     try clear p2
     try clear p6
     try clear q163
     try clear q164
     obtain ⟨kq, x7_7, rfl, HA, HJ7, ⟨mc7, rfl⟩⟩ := hcut
     cases kq with
     | zero => exact absurd HA.out (by simp [bigall_nat_cmp.j2])
     | succ kj7 =>
      have H := HA.out
      clear HA
      simp only [bigall_nat_cmp.j2] at H
      by_cases c14 : 0 ≤ x7_7
      ·rw [if_pos c14] at H
       have c14b0 : decide (0 ≤ x7_7) = true := decide_eq_true c14
       clear c14
       by_cases c15 : x7_7 < (l0.length : Int)
       ·rw [if_pos c15] at H
        have c15b0 : decide (x7_7 < (l0.length : Int)) = true := decide_eq_true c15
        clear c15
        by_cases c16 : x7_7 < (l1.length : Int)
        ·rw [if_pos c16] at H
         have c16b0 : decide (x7_7 < (l1.length : Int)) = true := decide_eq_true c16
         clear c16
         by_cases c17 : (rd l0 x7_7) < (rd l1 x7_7)
         ·rw [if_pos c17] at H
          have c17b0 : decide ((rd l0 x7_7) < (rd l1 x7_7)) = true := decide_eq_true c17
          clear c17
          obtain rfl := Option.some.inj H
          have p165 : 0 ≤ (x7_7 : Int) := of_decide_eq_true (by first | (with_reducible assumption) | assumption)
          have q165 : x7_7 < (l0.length : Int) := of_decide_eq_true (by first | (with_reducible assumption) | assumption)
          obtain ⟨ad165, e165, hx165_0⟩ := Kd.at_int HR0.out x7_7 p165 q165
          cases e165
          replace p165 := eq_true p165
          replace q165 := eq_true q165
          have p166 : 0 ≤ (x7_7 : Int) := of_decide_eq_true (by first | (with_reducible assumption) | assumption)
          have q166 : x7_7 < (l1.length : Int) := of_decide_eq_true (by first | (with_reducible assumption) | assumption)
          obtain ⟨ad166, e166, hx166_0⟩ := Kd.at_int HR1.out x7_7 p166 q166
          cases e166
          replace p166 := eq_true p166
          replace q166 := eq_true q166
          go_wp2
          repeat (go_quiet (fail); try go_wp2)
          go_ret
          exact ⟨by first | rfl | (simp; done) | (simp [*]; done), by repeat (first | exact Drawn0.refl _ | apply Drawn0.step)⟩
         ·rw [if_neg c17] at H
          have c17b0 : decide ((rd l0 x7_7) < (rd l1 x7_7)) = false := decide_eq_false c17
          clear c17
          by_cases c18 : (rd l0 x7_7) > (rd l1 x7_7)
          ·rw [if_pos c18] at H
           have c18b0 : decide ((rd l1 x7_7) < (rd l0 x7_7)) = true := decide_eq_true c18
           clear c18
           obtain rfl := Option.some.inj H
           have p165 : 0 ≤ (x7_7 : Int) := of_decide_eq_true (by first | (with_reducible assumption) | assumption)
           have q165 : x7_7 < (l0.length : Int) := of_decide_eq_true (by first | (with_reducible assumption) | assumption)
           obtain ⟨ad165, e165, hx165_0⟩ := Kd.at_int HR0.out x7_7 p165 q165
           cases e165
           replace p165 := eq_true p165
           replace q165 := eq_true q165
           have p166 : 0 ≤ (x7_7 : Int) := of_decide_eq_true (by first | (with_reducible assumption) | assumption)
           have q166 : x7_7 < (l1.length : Int) := of_decide_eq_true (by first | (with_reducible assumption) | assumption)
           obtain ⟨ad166, e166, hx166_0⟩ := Kd.at_int HR1.out x7_7 p166 q166
           cases e166
           replace p166 := eq_true p166
           replace q166 := eq_true q166
           have p167 : 0 ≤ (x7_7 : Int) := of_decide_eq_true (by first | (with_reducible assumption) | assumption)
           have q167 : x7_7 < (l0.length : Int) := of_decide_eq_true (by first | (with_reducible assumption) | assumption)
           obtain ⟨ad167, e167, hx167_0⟩ := Kd.at_int HR0.out x7_7 p167 q167
           obtain rfl : ad165 = ad167 := (by injection e167)
           replace p167 := eq_true p167
           replace q167 := eq_true q167
           have p168 : 0 ≤ (x7_7 : Int) := of_decide_eq_true (by first | (with_reducible assumption) | assumption)
           have q168 : x7_7 < (l1.length : Int) := of_decide_eq_true (by first | (with_reducible assumption) | assumption)
           obtain ⟨ad168, e168, hx168_0⟩ := Kd.at_int HR1.out x7_7 p168 q168
           obtain rfl : ad166 = ad168 := (by injection e168)
           replace p168 := eq_true p168
           replace q168 := eq_true q168
           go_wp2
           repeat (go_quiet (fail); try go_wp2)
           go_ret
           exact ⟨by first | rfl | (simp; done) | (simp [*]; done), by repeat (first | exact Drawn0.refl _ | apply Drawn0.step)⟩
          ·rw [if_neg c18] at H
           have c18b0 : decide ((rd l1 x7_7) < (rd l0 x7_7)) = false := decide_eq_false c18
           clear c18
           obtain rfl := Option.some.inj H
           have p165 : 0 ≤ (x7_7 : Int) := of_decide_eq_true (by first | (with_reducible assumption) | assumption)
           have q165 : x7_7 < (l0.length : Int) := of_decide_eq_true (by first | (with_reducible assumption) | assumption)
           obtain ⟨ad165, e165, hx165_0⟩ := Kd.at_int HR0.out x7_7 p165 q165
           cases e165
           replace p165 := eq_true p165
           replace q165 := eq_true q165
           have p166 : 0 ≤ (x7_7 : Int) := of_decide_eq_true (by first | (with_reducible assumption) | assumption)
           have q166 : x7_7 < (l1.length : Int) := of_decide_eq_true (by first | (with_reducible assumption) | assumption)
           obtain ⟨ad166, e166, hx166_0⟩ := Kd.at_int HR1.out x7_7 p166 q166
           cases e166
           replace p166 := eq_true p166
           replace q166 := eq_true q166
           have p167 : 0 ≤ (x7_7 : Int) := of_decide_eq_true (by first | (with_reducible assumption) | assumption)
           have q167 : x7_7 < (l0.length : Int) := of_decide_eq_true (by first | (with_reducible assumption) | assumption)
           obtain ⟨ad167, e167, hx167_0⟩ := Kd.at_int HR0.out x7_7 p167 q167
           obtain rfl : ad165 = ad167 := (by injection e167)
           replace p167 := eq_true p167
           replace q167 := eq_true q167
           have p168 : 0 ≤ (x7_7 : Int) := of_decide_eq_true (by first | (with_reducible assumption) | assumption)
           have q168 : x7_7 < (l1.length : Int) := of_decide_eq_true (by first | (with_reducible assumption) | assumption)
           obtain ⟨ad168, e168, hx168_0⟩ := Kd.at_int HR1.out x7_7 p168 q168
           obtain rfl : ad166 = ad168 := (by injection e168)
           replace p168 := eq_true p168
           replace q168 := eq_true q168
           go_wp2
           repeat (go_quiet (fail); try go_wp2)
           go_ret
           exact ⟨by first | rfl | (simp; done) | (simp [*]; done), by repeat (first | exact Drawn0.refl _ | apply Drawn0.step)⟩
        ·rw [if_neg c16] at H
         exact absurd H (by simp)
       ·rw [if_neg c15] at H
        exact absurd H (by simp)
      ·rw [if_neg c14] at H
       exact absurd H (by simp)

end Go.Proofs.YtipfmkfpaglkkaaGreatDoor.Z
