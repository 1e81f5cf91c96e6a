-- Written by a program of this session (myprint.py).
import Derived.Test.YtipfmkfpaglkkaaGreatDoorZ0
import Derived.Test.YtipfmkfpaglkkaaGreatDoorZ2
import Derived.Test.YtipfmkfpaglkkaaGreatDoorGe
namespace Go.Proofs.YtipfmkfpaglkkaaGreatDoor.Z
open Go.Proofs.YtipfmkfpaglkkaaGreatDoor.Gw
open Go.RowKit Go.Proofs.YtipfmkfpaglkkaaGreatDoorW.PrintWords Go.Proofs.YtipfmkfpaglkkaaGreatDoorW.PrintLast Go.Proofs.YtipfmkfpaglkkaaGreatDoorW.PrintMore
attribute [local go_sem high] Go.Proofs.YtipfmkfpaglkkaaGreatDoor.Ge.gtr_str
attribute [local go_sem] max2_int min2_int max_two min_two max_three min_three max_four min_four   -- for this text's walks alone
set_option linter.unusedVariables false
set_option linter.unusedSimpArgs false

/-! ### spec_orderInts: function 38 -/
def spec_orderInts.f (a0 : Int) (a1 : Int) : Option (Int) := if a0 < a1 then (some (-1)) else (if a0 > a1 then (some 1) else (some 0))
set_option maxHeartbeats 8000000 in
set_option maxRecDepth 100000 in
theorem spec_orderInts.calls (a0 : Int) (a1 : Int) (r : Int) (w : World) (h : spec_orderInts.f a0 a1 = some r) :
  Calls Tryz.prog 38 #[.int .i64 a0, .int .i64 a1] w fun e w' => e = .returned (.int .i64 r) ∧ Drawn0 w w' := by
 have H : (if a0 < a1 then (some (-1)) else (if a0 > a1 then (some 1) else (some 0))) = some r := h
 clear h
 by_cases c3 : a0 < a1
 ·rw [if_pos c3] at H
  have c3b0 : decide (a0 < a1) = true := decide_eq_true c3
  clear c3
  obtain rfl := Option.some.inj H
  go_enter Tryz.func38, Tryz.ntmps38
  go_wp2
  go_ret
  exact ⟨by first | rfl | (simp; done) | (simp [*]; done), by repeat (first | exact Drawn0.refl _ | apply Drawn0.step)⟩
 ·rw [if_neg c3] at H
  have c3b0 : decide (a0 < a1) = false := decide_eq_false c3
  clear c3
  by_cases c4 : a0 > a1
  ·rw [if_pos c4] at H
   have c4b0 : decide (a1 < a0) = true := decide_eq_true c4
   clear c4
   obtain rfl := Option.some.inj H
   go_enter Tryz.func38, Tryz.ntmps38
   go_wp2
   go_ret
   exact ⟨by first | rfl | (simp; done) | (simp [*]; done), by repeat (first | exact Drawn0.refl _ | apply Drawn0.step)⟩
  ·rw [if_neg c4] at H
   have c4b0 : decide (a1 < a0) = false := decide_eq_false c4
   clear c4
   obtain rfl := Option.some.inj H
   go_enter Tryz.func38, Tryz.ntmps38
   go_wp2
   go_ret
   exact ⟨by first | rfl | (simp; done) | (simp [*]; done), by repeat (first | exact Drawn0.refl _ | apply Drawn0.step)⟩

/-! ### spec_order: function 39 -/
def spec_order.f (a0 : ByteArray) (a1 : ByteArray) : Option (Int) := if (Op.bytesLess a0.toList a1.toList) = true then (some (-1)) else (if (Op.bytesLess a1.toList a0.toList) = true then (some 1) else (some 0))
set_option maxHeartbeats 8000000 in
set_option maxRecDepth 100000 in
theorem spec_order.calls (a0 : ByteArray) (a1 : ByteArray) (r : Int) (w : World) (h : spec_order.f a0 a1 = some r) :
  Calls Tryz.prog 39 #[.string a0, .string a1] w fun e w' => e = .returned (.int .i64 r) ∧ Drawn0 w w' := by
 have H : (if (Op.bytesLess a0.toList a1.toList) = true then (some (-1)) else (if (Op.bytesLess a1.toList a0.toList) = true then (some 1) else (some 0))) = some r := h
 clear h
 by_cases c3 : (Op.bytesLess a0.toList a1.toList) = true
 ·rw [if_pos c3] at H
  have c3b0 : (Op.bytesLess a0.toList a1.toList) = true := c3
  clear c3
  obtain rfl := Option.some.inj H
  go_enter Tryz.func39, Tryz.ntmps39
  go_wp2
  go_ret
  exact ⟨by first | rfl | (simp; done) | (simp [*]; done), by repeat (first | exact Drawn0.refl _ | apply Drawn0.step)⟩
 ·rw [if_neg c3] at H
  have c3b0 : (Op.bytesLess a0.toList a1.toList) = false := by simpa using c3
  clear c3
  by_cases c4 : (Op.bytesLess a1.toList a0.toList) = true
  ·rw [if_pos c4] at H
   have c4b0 : (Op.bytesLess a1.toList a0.toList) = true := c4
   clear c4
   obtain rfl := Option.some.inj H
   go_enter Tryz.func39, Tryz.ntmps39
   go_wp2
   go_ret
   exact ⟨by first | rfl | (simp; done) | (simp [*]; done), by repeat (first | exact Drawn0.refl _ | apply Drawn0.step)⟩
  ·rw [if_neg c4] at H
   have c4b0 : (Op.bytesLess a1.toList a0.toList) = false := by simpa using c4
   clear c4
   obtain rfl := Option.some.inj H
   go_enter Tryz.func39, Tryz.ntmps39
   go_wp2
   go_ret
   exact ⟨by first | rfl | (simp; done) | (simp [*]; done), by repeat (first | exact Drawn0.refl _ | apply Drawn0.step)⟩

/-! ### spec_pypiLegacy: function 20 -/
mutual
def spec_pypiLegacy.j0 : Nat → List ByteArray → List ByteArray → Bool → Option (Int)
 | 0, _, _, _ => none
 | k + 1, x0, x1, x16 => if x16 = true then ((spec_orderInts.f (x1.length : Int) (x0.length : Int)).bind fun t169 => (some t169)) else (spec_pypiLegacy.l0 k x0 x1 (⟨#[]⟩ : ByteArray) (⟨#[]⟩ : ByteArray) 0)
def spec_pypiLegacy.l0 : Nat → List ByteArray → List ByteArray → ByteArray → ByteArray → Int → Option (Int)
 | 0, _, _, _, _, _ => none
 | k + 1, x0, x1, x5, x6, x7 => if x7 < (x0.length : Int) then (if 0 ≤ x7 then (if x5.size + (rdOf ByteArray.empty x0 x7).size ≤ 9223372036854775807 then (spec_pypiLegacy.l0 k x0 x1 (x5 ++ (rdOf ByteArray.empty x0 x7)) x6 (wrap64 (x7 + 1))) else (none)) else (none)) else (spec_pypiLegacy.l1 k x1 x5 x6 0)
def spec_pypiLegacy.l1 : Nat → List ByteArray → ByteArray → ByteArray → Int → Option (Int)
 | 0, _, _, _, _ => none
 | k + 1, x1, x5, x6, x8 => if x8 < (x1.length : Int) then (if 0 ≤ x8 then (if x6.size + (rdOf ByteArray.empty x1 x8).size ≤ 9223372036854775807 then (spec_pypiLegacy.l1 k x1 x5 (x6 ++ (rdOf ByteArray.empty x1 x8)) (wrap64 (x8 + 1))) else (none)) else (none)) else ((spec_order.f x5 x6).bind fun t172 => (some t172))
end
def spec_pypiLegacy.f (k : Nat) (l0 : List ByteArray) (l1 : List ByteArray) : Option (Int) := if (l0.length : Int) = 0 then (spec_pypiLegacy.j0 k l0 l1 true) else (spec_pypiLegacy.j0 k l0 l1 ((l1.length : Int) == 0))
theorem spec_pypiLegacy.mono_l : ∀ k, (∀ y0 y1 y2, LeO (spec_pypiLegacy.j0 k y0 y1 y2) (spec_pypiLegacy.j0 (k + 1) y0 y1 y2)) ∧ (∀ y0 y1 y2 y3 y4, LeO (spec_pypiLegacy.l0 k y0 y1 y2 y3 y4) (spec_pypiLegacy.l0 (k + 1) y0 y1 y2 y3 y4)) ∧ (∀ y0 y1 y2 y3, LeO (spec_pypiLegacy.l1 k y0 y1 y2 y3) (spec_pypiLegacy.l1 (k + 1) y0 y1 y2 y3))
 | 0 => ⟨fun _ _ _ r h => by simp [spec_pypiLegacy.j0] at h, fun _ _ _ _ _ r h => by simp [spec_pypiLegacy.l0] at h, fun _ _ _ _ r h => by simp [spec_pypiLegacy.l1] at h⟩
 | k + 1 => by
  obtain ⟨ih0, ih1, ih2⟩ := spec_pypiLegacy.mono_l k
  refine ⟨?_, ?_, ?_⟩
  ·intro y0 y1 y2
   unfold spec_pypiLegacy.j0
   repeat' first
   | (with_reducible exact ih0 _ _ _)
   | (with_reducible exact ih1 _ _ _ _ _)
   | (with_reducible exact ih2 _ _ _ _)
   | (with_reducible exact LeO.refl _)
   | (with_reducible exact LeO.none _)
   | (with_reducible refine LeO.ite ?_ ?_)
   | (with_reducible refine LeO.bind ?_ (fun _ => ?_))
   | exact ih0 _ _ _
   | exact ih1 _ _ _ _ _
   | exact ih2 _ _ _ _
   | exact LeO.none _
   | refine LeO.ite ?_ ?_
   | refine LeO.bind ?_ (fun _ => ?_)
  ·intro y0 y1 y2 y3 y4
   unfold spec_pypiLegacy.l0
   repeat' first
   | (with_reducible exact ih0 _ _ _)
   | (with_reducible exact ih1 _ _ _ _ _)
   | (with_reducible exact ih2 _ _ _ _)
   | (with_reducible exact LeO.refl _)
   | (with_reducible exact LeO.none _)
   | (with_reducible refine LeO.ite ?_ ?_)
   | (with_reducible refine LeO.bind ?_ (fun _ => ?_))
   | exact ih0 _ _ _
   | exact ih1 _ _ _ _ _
   | exact ih2 _ _ _ _
   | exact LeO.none _
   | refine LeO.ite ?_ ?_
   | refine LeO.bind ?_ (fun _ => ?_)
  ·intro y0 y1 y2 y3
   unfold spec_pypiLegacy.l1
   repeat' first
   | (with_reducible exact ih0 _ _ _)
   | (with_reducible exact ih1 _ _ _ _ _)
   | (with_reducible exact ih2 _ _ _ _)
   | (with_reducible exact LeO.refl _)
   | (with_reducible exact LeO.none _)
   | (with_reducible refine LeO.ite ?_ ?_)
   | (with_reducible refine LeO.bind ?_ (fun _ => ?_))
   | exact ih0 _ _ _
   | exact ih1 _ _ _ _ _
   | exact ih2 _ _ _ _
   | exact LeO.none _
   | refine LeO.ite ?_ ?_
   | refine LeO.bind ?_ (fun _ => ?_)
theorem spec_pypiLegacy.mono : ∀ a0 a1 k, LeO (spec_pypiLegacy.f k a0 a1) (spec_pypiLegacy.f (k + 1) a0 a1) := by
 intro a0 a1 k
 obtain ⟨ih0, ih1, ih2⟩ := spec_pypiLegacy.mono_l k
 unfold spec_pypiLegacy.f
 repeat' first
   | (with_reducible exact ih0 _ _ _)
   | (with_reducible exact ih1 _ _ _ _ _)
   | (with_reducible exact ih2 _ _ _ _)
   | (with_reducible exact LeO.refl _)
   | (with_reducible exact LeO.none _)
   | (with_reducible refine LeO.ite ?_ ?_)
   | (with_reducible refine LeO.bind ?_ (fun _ => ?_))
   | exact ih0 _ _ _
   | exact ih1 _ _ _ _ _
   | exact ih2 _ _ _ _
   | exact LeO.none _
   | refine LeO.ite ?_ ?_
   | refine LeO.bind ?_ (fun _ => ?_)
set_option maxHeartbeats 8000000 in
set_option maxRecDepth 100000 in
theorem spec_pypiLegacy.calls (k : Nat) (A0 : Option Addr) (c0 : Nat) (l0 : List ByteArray) (A1 : Option Addr) (c1 : Nat) (l1 : List ByteArray) (r : Int) (w : World) (hr0 : Kd.C Kd.string w A0 l0.length l0) (hc0 : l0.length ≤ c0) (hr1 : Kd.C Kd.string w A1 l1.length l1) (hc1 : l1.length ≤ c1) (h : spec_pypiLegacy.f k l0 l1 = some r) :
  Calls Tryz.prog 20 #[.slice A0 l0.length c0, .slice A1 l1.length c1] w fun e w' => e = .returned (.int .i64 r) ∧ Drawn0 w w' := by
 have HR0 := Aside0.mk hr0
 have HC0 := Aside0.mk hc0
 clear hr0 hc0
 have HR1 := Aside0.mk hr1
 have HC1 := Aside0.mk hc1
 clear hr1 hc1
 have H : (if (l0.length : Int) = 0 then (spec_pypiLegacy.j0 k l0 l1 true) else (spec_pypiLegacy.j0 k l0 l1 ((l1.length : Int) == 0))) = some r := h
 clear h
 have HC3 := Aside0.mk H
 clear H
 go_enter Tryz.func20, Tryz.ntmps20
 go_upto_region 1 with (fail)
 go_cut [16] (fun v16 wc => ∃ (kq : Nat) (x16_2 : Bool), v16 = .bool x16_2 ∧ Aside0 (spec_pypiLegacy.j0 kq l0 l1 x16_2 = some r) ∧ Aside0 (kq ≤ k) ∧ Drawn0 w wc)
 case first =>
  have H := HC3.out
  clear HC3
  by_cases c4 : (l0.length : Int) = 0
  ·rw [if_pos c4] at H
   have c4b0 : ((l0.length : Int) == 0) = true := beq_iff_eq.mpr c4
   have c4b1 : ((l0.length : Int) != 0) = false := bne_eq_false_iff_eq.mpr c4
   clear c4
   (first | rw [c4b0] | (simp only [i64_w, i32_w]; rw [c4b0]) | skip)
   have H' := Aside0.mk H
   clear H
   go_wp2
   go_meet
   case rel => exact ⟨_, (true), (by first | rfl | (simp; done) | (simp [*]; done)), H', ⟨by first | omega | exact Nat.le_refl _⟩, by repeat (first | exact Drawn0.refl _ | apply Drawn0.step)⟩
  ·rw [if_neg c4] at H
   have c4b0 : ((l0.length : Int) == 0) = false := beq_eq_false_iff_ne.mpr c4
   have c4b1 : ((l0.length : Int) != 0) = true := bne_iff_ne.mpr c4
   have c4b2 : ¬ (l0 = []) := fun h_ => c4 (by rw [h_]; rfl)
   (first | rw [c4b0] | (simp only [i64_w, i32_w]; rw [c4b0]) | skip)
   have H' := Aside0.mk H
   clear H
   go_wp2
   go_meet
   case rel => exact ⟨_, (((l1.length : Int) == 0)), (by first | rfl | (simp; done) | (simp [*]; done)), H', ⟨by first | omega | exact Nat.le_refl _⟩, by repeat (first | exact Drawn0.refl _ | apply Drawn0.step)⟩
 case rest =>
  clear HC3
  try clear c1
  try clear c2
  try clear p2
  try clear c4
  try clear c4b0
  try clear c4b1
  try clear c4b2
  obtain ⟨kq, x16_2, rfl, HA, HJ2, ⟨mc2, rfl⟩⟩ := hcut
  cases kq with
  | zero => exact absurd HA.out (by simp [spec_pypiLegacy.j0])
  | succ kj2 =>
   have H := HA.out
   clear HA
   simp only [spec_pypiLegacy.j0] at H
   by_cases c5 : x16_2 = true
   ·subst c5
    have H1 : ((spec_orderInts.f (l1.length : Int) (l0.length : Int)).bind fun t169 => (some t169)) = some r := by rw [if_pos rfl] at H; exact H
    clear H
    have H := H1
    clear H1
    replace H := Option.bind_eq_some_iff.mp H
    obtain ⟨t169, A60, H⟩ := H
    replace H : (some t169) = some r := H
    have A6 := Aside0.mk A60
    clear A60
    obtain rfl := Option.some.inj H
    go_wp2_with (first | ((with_reducible refine gate_callee (f := 38) rfl ?_); refine goesL_ (some 21) rfl rfl Tryz.func38 (by kernel_rfl) rfl #[.int .i64 (l1.length : Int), .int .i64 (l0.length : Int)] rfl (by (try simp only [List.map_toArray, List.map_cons, List.map_nil]); first | done | rfl | (simp only [List.length_drop, List.length_take]; rfl)) ?_; (with_reducible refine (spec_orderInts.calls (l1.length : Int) (l0.length : Int) t169 _ A6.out).mono ?_); rintro e w' ⟨rfl, ⟨nd, rfl⟩⟩; refine ⟨_, rfl, ?_⟩))
    go_ret
    exact ⟨by first | rfl | (simp; done) | (simp [*]; done), by repeat (first | exact Drawn0.refl _ | apply Drawn0.step)⟩
   ·replace c5 := Bool.eq_false_iff.mpr c5
    subst c5
    have H1 : (spec_pypiLegacy.l0 kj2 l0 l1 (⟨#[]⟩ : ByteArray) (⟨#[]⟩ : ByteArray) 0) = some r := by rw [if_neg (show ¬ (false = true) by decide)] at H; exact H
    clear H
    have H := H1
    clear H1
    have H' := Aside0.mk H
    clear H
    go_wp2
    go_loopg [5, 7] kj2 (fun kq v5 v7 w' => ∃ (x5_2 : ByteArray) (x7_2 : Int), v5 = .string x5_2 ∧ v7 = .int .i64 x7_2 ∧ Aside0 (spec_pypiLegacy.l0 kq l0 l1 x5_2 (⟨#[]⟩ : ByteArray) x7_2 = some r) ∧ Aside0 (kq ≤ kj2) ∧ Drawn0 w w')
    case atStart => exact ⟨((⟨#[]⟩ : ByteArray)), (0), (by first | rfl | (simp; done) | (simp [*]; done)), (by first | rfl | (simp; done) | (simp [*]; done)), H', ⟨Nat.le_refl _⟩, by repeat (first | exact Drawn0.refl _ | apply Drawn0.step)⟩
    case round =>
     clear H'
     try clear c1
     try clear c2
     try clear p2
     try clear c3
     try clear c4
     try clear c4b0
     try clear c4b1
     try clear c4b2
     try clear c5
     try clear p2
     obtain ⟨x5_2, x7_2, rfl, rfl, HA, HK2, ⟨m2, rfl⟩⟩ := hrel
     cases gk with
     | zero => exact absurd HA.out (by simp [spec_pypiLegacy.l0])
     | succ k2 =>
      have H := HA.out
      clear HA
      simp only [spec_pypiLegacy.l0] at H
      by_cases c7 : x7_2 < (l0.length : Int)
      ·rw [if_pos c7] at H
       have c7b0 : decide (x7_2 < (l0.length : Int)) = true := decide_eq_true c7
       clear c7
       by_cases c8 : 0 ≤ x7_2
       ·rw [if_pos c8] at H
        have c8b0 : decide (0 ≤ x7_2) = true := decide_eq_true c8
        clear c8
        by_cases c9 : x5_2.size + (rdOf ByteArray.empty l0 x7_2).size ≤ 9223372036854775807
        ·rw [if_pos c9] at H
         have c9b0 := eq_true c9
         have c9b1 : decide (x5_2.size + (rdOf ByteArray.empty l0 x7_2).size ≤ 9223372036854775807) = true := decide_eq_true c9
         try have c9b2 : (9223372036854775807 < x5_2.size + (rdOf ByteArray.empty l0 x7_2).size) = False := eq_false (Nat.not_lt.2 c9)
         have H' := Aside0.mk H
         clear H
         have p170 : 0 ≤ (x7_2 : Int) := of_decide_eq_true (by first | (with_reducible assumption) | assumption)
         have q170 : x7_2 < (l0.length : Int) := of_decide_eq_true (by first | (with_reducible assumption) | assumption)
         obtain ⟨ad170, e170, hx170_0⟩ := Kd.at_string HR0.out x7_2 p170 q170
         cases e170
         replace p170 := eq_true p170
         replace q170 := eq_true q170
         go_wp2
         go_roundg k2
         case measure => have := HJ2.out; have := HK2.out; omega
         case rel => exact ⟨(x5_2 ++ (rdOf ByteArray.empty l0 x7_2)), (wrap64 (x7_2 + 1)), (by first | rfl | (simp; done) | (simp [*]; done)), (by first | rfl | (simp; done) | (simp [*]; done)), H', ⟨by have := HJ2.out; have := HK2.out; omega⟩, by repeat (first | exact Drawn0.refl _ | apply Drawn0.step)⟩
        ·rw [if_neg c9] at H
         exact absurd H (by simp)
       ·rw [if_neg c8] at H
        exact absurd H (by simp)
      ·rw [if_neg c7] at H
       have c7b0 : decide (x7_2 < (l0.length : Int)) = false := decide_eq_false c7
       clear c7
       have H' := Aside0.mk H
       clear H
       go_wp2
       go_loopg [6, 8] k2 (fun kq v6 v8 w' => ∃ (x6_3 : ByteArray) (x8_3 : Int), v6 = .string x6_3 ∧ v8 = .int .i64 x8_3 ∧ Aside0 (spec_pypiLegacy.l1 kq l1 x5_2 x6_3 x8_3 = some r) ∧ Aside0 (kq ≤ k2) ∧ Drawn0 w w')
       case atStart => exact ⟨((⟨#[]⟩ : ByteArray)), (0), (by first | rfl | (simp; done) | (simp [*]; done)), (by first | rfl | (simp; done) | (simp [*]; done)), H', ⟨Nat.le_refl _⟩, by repeat (first | exact Drawn0.refl _ | apply Drawn0.step)⟩
       case round =>
        clear H'
        try clear c1
        try clear p1
        try clear q1
        try clear hx1
        try clear c2
        try clear p2
        try clear c3
        try clear c4
        try clear c4b0
        try clear c4b1
        try clear c4b2
        try clear c5
        try clear p6
        try clear c7
        try clear c7b0
        try clear c8
        try clear c8b0
        try clear c9
        try clear c9b0
        try clear c9b1
        try clear c9b2
        try clear hx170_0
        try clear p170
        try clear p2
        try clear q170
        obtain ⟨x6_3, x8_3, rfl, rfl, HA, HK3, ⟨m3, rfl⟩⟩ := hrel
        cases gk with
        | zero => exact absurd HA.out (by simp [spec_pypiLegacy.l1])
        | succ k3 =>
         have H := HA.out
         clear HA
         simp only [spec_pypiLegacy.l1] at H
         by_cases c10 : x8_3 < (l1.length : Int)
         ·rw [if_pos c10] at H
          have c10b0 : decide (x8_3 < (l1.length : Int)) = true := decide_eq_true c10
          clear c10
          by_cases c11 : 0 ≤ x8_3
          ·rw [if_pos c11] at H
           have c11b0 : decide (0 ≤ x8_3) = true := decide_eq_true c11
           clear c11
           by_cases c12 : x6_3.size + (rdOf ByteArray.empty l1 x8_3).size ≤ 9223372036854775807
           ·rw [if_pos c12] at H
            have c12b0 := eq_true c12
            have c12b1 : decide (x6_3.size + (rdOf ByteArray.empty l1 x8_3).size ≤ 9223372036854775807) = true := decide_eq_true c12
            try have c12b2 : (9223372036854775807 < x6_3.size + (rdOf ByteArray.empty l1 x8_3).size) = False := eq_false (Nat.not_lt.2 c12)
            have H' := Aside0.mk H
            clear H
            have p171 : 0 ≤ (x8_3 : Int) := of_decide_eq_true (by first | (with_reducible assumption) | assumption)
            have q171 : x8_3 < (l1.length : Int) := of_decide_eq_true (by first | (with_reducible assumption) | assumption)
            obtain ⟨ad171, e171, hx171_0⟩ := Kd.at_string HR1.out x8_3 p171 q171
            cases e171
            replace p171 := eq_true p171
            replace q171 := eq_true q171
            go_wp2
            go_roundg k3
            case measure => have := HJ2.out; have := HK2.out; have := HK3.out; omega
            case rel => exact ⟨(x6_3 ++ (rdOf ByteArray.empty l1 x8_3)), (wrap64 (x8_3 + 1)), (by first | rfl | (simp; done) | (simp [*]; done)), (by first | rfl | (simp; done) | (simp [*]; done)), H', ⟨by have := HJ2.out; have := HK2.out; have := HK3.out; omega⟩, by repeat (first | exact Drawn0.refl _ | apply Drawn0.step)⟩
           ·rw [if_neg c12] at H
            exact absurd H (by simp)
          ·rw [if_neg c11] at H
           exact absurd H (by simp)
         ·rw [if_neg c10] at H
          have c10b0 : decide (x8_3 < (l1.length : Int)) = false := decide_eq_false c10
          clear c10
          replace H := Option.bind_eq_some_iff.mp H
          obtain ⟨t172, A130, H⟩ := H
          replace H : (some t172) = some r := H
          have A13 := Aside0.mk A130
          clear A130
          obtain rfl := Option.some.inj H
          go_wp2_with (first | ((with_reducible refine gate_callee (f := 39) rfl ?_); refine goesL_ (some 48) rfl rfl Tryz.func39 (by kernel_rfl) rfl #[.string x5_2, .string x6_3] rfl (by (try simp only [List.map_toArray, List.map_cons, List.map_nil]); first | done | rfl | (simp only [List.length_drop, List.length_take]; rfl)) ?_; (with_reducible refine (spec_order.calls x5_2 x6_3 t172 _ A13.out).mono ?_); rintro e w' ⟨rfl, ⟨nd, rfl⟩⟩; refine ⟨_, rfl, ?_⟩))
          go_ret
          exact ⟨by first | rfl | (simp; done) | (simp [*]; done), by repeat (first | exact Drawn0.refl _ | apply Drawn0.step)⟩

/-! ### spec_intOrder: function 21 -/
mutual
def spec_intOrder.j2 : Nat → Bool → ByteArray → Bool → ByteArray → Option (Int)
 | 0, _, _, _, _ => none
 | k + 1, x174000, x174001, x175000, x175001 => if (x174001.size : Int) = (x175001.size : Int) then ((spec_order.f x174001 x175001).bind fun t179 => (some t179)) else ((spec_orderInts.f (x174001.size : Int) (x175001.size : Int)).bind fun t180 => (some t180))
def spec_intOrder.j0 : Nat → Bool → Bool → ByteArray → Bool → ByteArray → Option (Int)
 | 0, _, _, _, _, _ => none
 | k + 1, x9, x174000, x174001, x175000, x175001 => if x9 = true then (some (-1)) else (if x174000 = true then (spec_intOrder.j1 k false x174000 x174001 x175000 x175001) else (spec_intOrder.j1 k x175000 x174000 x174001 x175000 x175001))
def spec_intOrder.j1 : Nat → Bool → Bool → ByteArray → Bool → ByteArray → Option (Int)
 | 0, _, _, _, _, _ => none
 | k + 1, x17, x174000, x174001, x175000, x175001 => if x17 = true then (some 1) else (if x174000 = true then (spec_intOrder.j2 k x175000 x175001 x174000 x174001) else (spec_intOrder.j2 k x174000 x174001 x175000 x175001))
end
def spec_intOrder.f (k : Nat) (a0_0 : Bool) (a0_1 : ByteArray) (a1_0 : Bool) (a1_1 : ByteArray) : Option (Int) := (spec_numTidy.f k a0_0 a0_1).bind fun bt175 => ((spec_numTidy.f k a1_0 a1_1).bind fun bt177 => (if bt175.1 = true then (spec_intOrder.j0 k (!bt177.1) bt175.1 bt175.2 bt177.1 bt177.2) else (spec_intOrder.j0 k false bt175.1 bt175.2 bt177.1 bt177.2)))
theorem spec_intOrder.mono_l : ∀ k, (∀ y0 y1 y2 y3, LeO (spec_intOrder.j2 k y0 y1 y2 y3) (spec_intOrder.j2 (k + 1) y0 y1 y2 y3)) ∧ (∀ y0 y1 y2 y3 y4, LeO (spec_intOrder.j0 k y0 y1 y2 y3 y4) (spec_intOrder.j0 (k + 1) y0 y1 y2 y3 y4)) ∧ (∀ y0 y1 y2 y3 y4, LeO (spec_intOrder.j1 k y0 y1 y2 y3 y4) (spec_intOrder.j1 (k + 1) y0 y1 y2 y3 y4))
 | 0 => ⟨fun _ _ _ _ r h => by simp [spec_intOrder.j2] at h, fun _ _ _ _ _ r h => by simp [spec_intOrder.j0] at h, fun _ _ _ _ _ r h => by simp [spec_intOrder.j1] at h⟩
 | k + 1 => by
  obtain ⟨ih0, ih1, ih2⟩ := spec_intOrder.mono_l k
  refine ⟨?_, ?_, ?_⟩
  ·intro y0 y1 y2 y3
   unfold spec_intOrder.j2
   repeat' first
   | (with_reducible exact ih0 _ _ _ _)
   | (with_reducible exact ih1 _ _ _ _ _)
   | (with_reducible exact ih2 _ _ _ _ _)
   | (with_reducible exact spec_numTidy.mono _ _ _)
   | (with_reducible exact LeO.refl _)
   | (with_reducible exact LeO.none _)
   | (with_reducible refine LeO.ite ?_ ?_)
   | (with_reducible refine LeO.bind ?_ (fun _ => ?_))
   | exact ih0 _ _ _ _
   | exact ih1 _ _ _ _ _
   | exact ih2 _ _ _ _ _
   | exact spec_numTidy.mono _ _ _
   | exact LeO.none _
   | refine LeO.ite ?_ ?_
   | refine LeO.bind ?_ (fun _ => ?_)
  ·intro y0 y1 y2 y3 y4
   unfold spec_intOrder.j0
   repeat' first
   | (with_reducible exact ih0 _ _ _ _)
   | (with_reducible exact ih1 _ _ _ _ _)
   | (with_reducible exact ih2 _ _ _ _ _)
   | (with_reducible exact spec_numTidy.mono _ _ _)
   | (with_reducible exact LeO.refl _)
   | (with_reducible exact LeO.none _)
   | (with_reducible refine LeO.ite ?_ ?_)
   | (with_reducible refine LeO.bind ?_ (fun _ => ?_))
   | exact ih0 _ _ _ _
   | exact ih1 _ _ _ _ _
   | exact ih2 _ _ _ _ _
   | exact spec_numTidy.mono _ _ _
   | exact LeO.none _
   | refine LeO.ite ?_ ?_
   | refine LeO.bind ?_ (fun _ => ?_)
  ·intro y0 y1 y2 y3 y4
   unfold spec_intOrder.j1
   repeat' first
   | (with_reducible exact ih0 _ _ _ _)
   | (with_reducible exact ih1 _ _ _ _ _)
   | (with_reducible exact ih2 _ _ _ _ _)
   | (with_reducible exact spec_numTidy.mono _ _ _)
   | (with_reducible exact LeO.refl _)
   | (with_reducible exact LeO.none _)
   | (with_reducible refine LeO.ite ?_ ?_)
   | (with_reducible refine LeO.bind ?_ (fun _ => ?_))
   | exact ih0 _ _ _ _
   | exact ih1 _ _ _ _ _
   | exact ih2 _ _ _ _ _
   | exact spec_numTidy.mono _ _ _
   | exact LeO.none _
   | refine LeO.ite ?_ ?_
   | refine LeO.bind ?_ (fun _ => ?_)
theorem spec_intOrder.mono : ∀ a0 a1 a2 a3 k, LeO (spec_intOrder.f k a0 a1 a2 a3) (spec_intOrder.f (k + 1) a0 a1 a2 a3) := by
 intro a0 a1 a2 a3 k
 obtain ⟨ih0, ih1, ih2⟩ := spec_intOrder.mono_l k
 unfold spec_intOrder.f
 repeat' first
   | (with_reducible exact ih0 _ _ _ _)
   | (with_reducible exact ih1 _ _ _ _ _)
   | (with_reducible exact ih2 _ _ _ _ _)
   | (with_reducible exact spec_numTidy.mono _ _ _)
   | (with_reducible exact LeO.refl _)
   | (with_reducible exact LeO.none _)
   | (with_reducible refine LeO.ite ?_ ?_)
   | (with_reducible refine LeO.bind ?_ (fun _ => ?_))
   | exact ih0 _ _ _ _
   | exact ih1 _ _ _ _ _
   | exact ih2 _ _ _ _ _
   | exact spec_numTidy.mono _ _ _
   | exact LeO.none _
   | refine LeO.ite ?_ ?_
   | refine LeO.bind ?_ (fun _ => ?_)
set_option maxHeartbeats 8000000 in
set_option maxRecDepth 100000 in
theorem spec_intOrder.calls (k : Nat) (a0_0 : Bool) (a0_1 : ByteArray) (a1_0 : Bool) (a1_1 : ByteArray) (r : Int) (w : World) (h : spec_intOrder.f k a0_0 a0_1 a1_0 a1_1 = some r) :
  Calls Tryz.prog 21 #[.agg #[.bool a0_0, .string a0_1], .agg #[.bool a1_0, .string a1_1]] w fun e w' => e = .returned (.int .i64 r) ∧ Below w.heap.size w w' := by
 have hu23 := Tryz.underlying23
 have HB := Aside0.mk (Below.refl w.heap.size w)
 have H : ((spec_numTidy.f k a0_0 a0_1).bind fun bt175 => ((spec_numTidy.f k a1_0 a1_1).bind fun bt177 => (if bt175.1 = true then (spec_intOrder.j0 k (!bt177.1) bt175.1 bt175.2 bt177.1 bt177.2) else (spec_intOrder.j0 k false bt175.1 bt175.2 bt177.1 bt177.2)))) = some r := h
 clear h
 replace H := Option.bind_eq_some_iff.mp H
 obtain ⟨⟨t175, t176⟩, A30, H⟩ := H
 replace H : ((spec_numTidy.f k a1_0 a1_1).bind fun bt177 => (if t175 = true then (spec_intOrder.j0 k (!bt177.1) t175 t176 bt177.1 bt177.2) else (spec_intOrder.j0 k false t175 t176 bt177.1 bt177.2))) = some r := H
 have A3 := Aside0.mk A30
 clear A30
 replace H := Option.bind_eq_some_iff.mp H
 obtain ⟨⟨t177, t178⟩, A40, H⟩ := H
 replace H : (if t175 = true then (spec_intOrder.j0 k (!t177) t175 t176 t177 t178) else (spec_intOrder.j0 k false t175 t176 t177 t178)) = some r := H
 have A4 := Aside0.mk A40
 clear A40
 have HC5 := Aside0.mk H
 clear H
 go_enter Tryz.func21, Tryz.ntmps21
 try go_wp2_with (first | ((with_reducible refine gate_dst (N := 2) rfl ?_); refine box_event ?hg (N := 2) ?hd (cs := #[.bool a0_0, .string a0_1]) (t := 23) ?hr ?_; (case hd => rfl); (case hg => rfl); (case hr => first | (go_simp; done) | (go_simp; rfl)); intro gb173 hg w6 hbox hb; have n0_ := Aside0.mk (below_step (by repeat (first | (with_reducible first | exact HB.out | apply below_alloc | apply pw_below_drewN | apply below_drew1) | exact HB.out)) hb); have n1_ := Aside0.mk (hbox); have n2_ := Aside0.mk ((by rw [hg]; exact (below_size (by repeat (first | (with_reducible first | exact HB.out | apply below_alloc | apply pw_below_drewN | apply below_drew1) | exact HB.out))) : w.heap.size ≤ gb173)); have n3_ := Aside0.mk ((by rw [hg]; exact (below_size (by repeat (first | (with_reducible first | exact HB.out | apply below_alloc | apply pw_below_drewN | apply below_drew1) | exact HB.out))) : w.heap.size ≤ gb173)); clear HB; have HB := n0_; have BK173 := n1_; have GW173 := n2_; have GE173 := n3_; clear n0_ n1_ n2_ n3_; clear hb hbox hg) | ((with_reducible refine gate_dst (N := 3) rfl ?_); refine box_event ?hg (N := 3) ?hd (cs := #[.bool a1_0, .string a1_1]) (t := 23) ?hr ?_; (case hd => rfl); (case hg => rfl); (case hr => first | (go_simp; done) | (go_simp; rfl)); intro gb174 hg w7 hbox hb; have n0_ := Aside0.mk (blk_below (g := gb173) (o := .cells #[.bool a0_0, .string a0_1] 23 (0, 0)) (by (with_reducible repeat (first | refine blk_drewN ?_ _ | refine blk_drew ?_ | refine blk_alloc ?_ _)); exact BK173.out) hb); have n1_ := Aside0.mk (below_step (by repeat (first | (with_reducible first | exact HB.out | apply below_alloc | apply pw_below_drewN | apply below_drew1 | refine below_set ?_ GE173.out) | exact HB.out)) hb); have n2_ := Aside0.mk (hbox); have n3_ := Aside0.mk ((by rw [hg]; exact (below_size (by repeat (first | (with_reducible first | exact HB.out | apply below_alloc | apply pw_below_drewN | apply below_drew1 | refine below_set ?_ GE173.out) | exact HB.out))) : w.heap.size ≤ gb174)); have n4_ := Aside0.mk ((by rw [hg]; exact (below_size (by repeat (first | (with_reducible first | exact HB.out | apply below_alloc | apply pw_below_drewN | apply below_drew1 | refine below_set ?_ GE173.out) | exact HB.out))) : w.heap.size ≤ gb174)); have n5_ := Aside0.mk ((by rw [hg]; exact Nat.ne_of_lt (blk_lt (g := gb173) (o := .cells #[.bool a0_0, .string a0_1] 23 (0, 0)) (by (with_reducible repeat (first | refine blk_drewN ?_ _ | refine blk_drew ?_ | refine blk_alloc ?_ _)); exact BK173.out)) : gb173 ≠ gb174)); have n6_ := Aside0.mk ((by rw [hg]; exact Nat.ne_of_gt (blk_lt (g := gb173) (o := .cells #[.bool a0_0, .string a0_1] 23 (0, 0)) (by (with_reducible repeat (first | refine blk_drewN ?_ _ | refine blk_drew ?_ | refine blk_alloc ?_ _)); exact BK173.out)) : gb174 ≠ gb173)); clear BK173; clear HB; have BK173 := n0_; have HB := n1_; have BK174 := n2_; have GW174 := n3_; have GE174 := n4_; have NB173_174 := n5_; have NB174_173 := n6_; clear n0_ n1_ n2_ n3_ n4_ n5_ n6_; clear hb hbox hg))
 have n0_ := Aside0.mk (blk_drew BK173.out)
 have n1_ := Aside0.mk (blk_drew BK174.out)
 have n2_ := Aside0.mk (below_drew1 HB.out)
 clear BK173
 clear BK174
 clear HB
 have BK173 := n0_
 have BK174 := n1_
 have HB := n2_
 clear n0_ n1_ n2_
 refine start_ (n := 6) (S := fun w' => w'.cell? ⟨gb173, 0, none⟩ = some (.bool a0_0) ∧ w'.cell? ⟨gb173, 1, none⟩ = some (.string a0_1) ∧ w'.cell? ⟨gb174, 0, none⟩ = some (.bool a1_0) ∧ w'.cell? ⟨gb174, 1, none⟩ = some (.string a1_1)) (ds := [4, 5]) #[false, false, false, false, false, false] (by kernel_rfl) rfl rfl ⟨(blk_cell BK173.out 0).trans rfl, (blk_cell BK173.out 1).trans rfl, (blk_cell BK174.out 0).trans rfl, (blk_cell BK174.out 1).trans rfl⟩ (fun hHeld => ?_)
 generalize w7.drew = w8 at BK173 BK174 HB hHeld ⊢
 refine take_ (i := 0) (N := some 5) (v := ?_) (a' := ?_) #[true, false, false, false, false, false] rfl rfl (by kernel_rfl) (fun _ _ _ h => h) (Or.inl ⟨by rfl, ?_⟩) hHeld ?_ ?_
 rotate_left
 ·rintro w' ⟨s0, s1, s2, s3⟩
  go_simp
  with_reducible rfl
 rotate_left
 ·simp only [Act.put, List.setIfInBounds_toArray, List.set_cons_zero, List.set_cons_succ, i64_w, i32_w]
  rfl
 refine take_ (i := 2) (N := some 7) (v := ?_) (a' := ?_) #[true, false, true, false, false, false] rfl rfl (by kernel_rfl) (fun _ _ _ h => h) (Or.inl ⟨by rfl, ?_⟩) hHeld ?_ ?_
 rotate_left
 ·rintro w' ⟨s0, s1, s2, s3⟩
  go_simp
  with_reducible rfl
 rotate_left
 ·simp only [Act.put, List.setIfInBounds_toArray, List.set_cons_zero, List.set_cons_succ, i64_w, i32_w]
  rfl
 refine one_ (i := 1) (N := some 6) #[true, true, true, false, false, false] rfl rfl (by kernel_rfl) (by decide) (fun K hK => ?_)
 refine goes_ Tryz.func40 (by kernel_rfl) rfl #[.agg #[.bool a0_0, .string a0_1]] (by rfl) rfl rfl (by (try simp only [List.map_toArray, List.map_cons, List.map_nil]); first | done | rfl | (simp only [List.length_drop, List.length_take]; rfl)) ?_
 with_reducible refine (spec_numTidy.calls k a0_0 a0_1 t175 t176 _ A3.out).mono ?_
 rintro e w9 ⟨rfl, hb⟩
 refine ⟨_, rfl, ?_⟩
 have n0_ := Aside0.mk (blk_below (g := gb173) (o := .cells #[.bool a0_0, .string a0_1] 23 (0, 0)) (by (with_reducible repeat (first | refine blk_drewN ?_ _ | refine blk_drew ?_ | refine blk_alloc ?_ _)); exact BK173.out) hb)
 have n1_ := Aside0.mk (blk_below (g := gb174) (o := .cells #[.bool a1_0, .string a1_1] 23 (0, 0)) (by (with_reducible repeat (first | refine blk_drewN ?_ _ | refine blk_drew ?_ | refine blk_alloc ?_ _)); exact BK174.out) hb)
 have n2_ := Aside0.mk (below_step (by repeat (first | (with_reducible first | exact HB.out | apply below_alloc | apply pw_below_drewN | apply below_drew1 | refine below_set ?_ GE173.out | refine below_set ?_ GE174.out) | exact HB.out)) hb)
 clear BK173
 clear BK174
 clear HB
 have BK173 := n0_
 have BK174 := n1_
 have HB := n2_
 clear n0_ n1_ n2_
 (try clear hb)
 (try clear hb2)
 (try clear hk)
 (try clear hi)
 refine hK.out _ _ ⟨(blk_cell BK173.out 0).trans rfl, (blk_cell BK173.out 1).trans rfl, (blk_cell BK174.out 0).trans rfl, (blk_cell BK174.out 1).trans rfl⟩ (fun hHeld => ?_)
 clear hK K
 refine norm_ (a' := ?_) ?_ ?_
 rotate_left
 ·show Act.put _ (some 6) _ = _
  simp only [Act.put, List.setIfInBounds_toArray, List.set_cons_zero, List.set_cons_succ, i64_w, i32_w]
  rfl
 refine one_ (i := 3) (N := some 8) #[true, true, true, true, false, false] rfl rfl (by kernel_rfl) (by decide) (fun K hK => ?_)
 refine goes_ Tryz.func40 (by kernel_rfl) rfl #[.agg #[.bool a1_0, .string a1_1]] (by rfl) rfl rfl (by (try simp only [List.map_toArray, List.map_cons, List.map_nil]); first | done | rfl | (simp only [List.length_drop, List.length_take]; rfl)) ?_
 with_reducible refine (spec_numTidy.calls k a1_0 a1_1 t177 t178 _ A4.out).mono ?_
 rintro e w10 ⟨rfl, hb⟩
 refine ⟨_, rfl, ?_⟩
 have n0_ := Aside0.mk (blk_below (g := gb173) (o := .cells #[.bool a0_0, .string a0_1] 23 (0, 0)) (by (with_reducible repeat (first | refine blk_drewN ?_ _ | refine blk_drew ?_ | refine blk_alloc ?_ _)); exact BK173.out) hb)
 have n1_ := Aside0.mk (blk_below (g := gb174) (o := .cells #[.bool a1_0, .string a1_1] 23 (0, 0)) (by (with_reducible repeat (first | refine blk_drewN ?_ _ | refine blk_drew ?_ | refine blk_alloc ?_ _)); exact BK174.out) hb)
 have n2_ := Aside0.mk (below_step (by repeat (first | (with_reducible first | exact HB.out | apply below_alloc | apply pw_below_drewN | apply below_drew1 | refine below_set ?_ GE173.out | refine below_set ?_ GE174.out) | exact HB.out)) hb)
 clear BK173
 clear BK174
 clear HB
 have BK173 := n0_
 have BK174 := n1_
 have HB := n2_
 clear n0_ n1_ n2_
 (try clear hb)
 (try clear hb2)
 (try clear hk)
 (try clear hi)
 refine hK.out _ _ ⟨(blk_cell BK173.out 0).trans rfl, (blk_cell BK173.out 1).trans rfl, (blk_cell BK174.out 0).trans rfl, (blk_cell BK174.out 1).trans rfl⟩ (fun hHeld => ?_)
 clear hK K
 refine norm_ (a' := ?_) ?_ ?_
 rotate_left
 ·show Act.put _ (some 8) _ = _
  simp only [Act.put, List.setIfInBounds_toArray, List.set_cons_zero, List.set_cons_succ, i64_w, i32_w]
  rfl
 refine last_ (i := 4) (N := none) #[true, true, true, true, true, false] rfl rfl (by kernel_rfl) (by decide) (fun K hK => ?_)
 have hs11 : w10.cell? ⟨gb173, 0, none⟩ = some (.bool a0_0) := (blk_cell BK173.out 0).trans rfl
 have hfs11 := blk_frozen BK173.out 0
 have hns11_1 := NB174_173.out
 have hms11_1 := NB173_174.out
 have hs12 : w10.cell? ⟨gb173, 1, none⟩ = some (.string a0_1) := (blk_cell BK173.out 1).trans rfl
 have hfs12 := blk_frozen BK173.out 1
 have hns12_1 := NB174_173.out
 have hms12_1 := NB173_174.out
 refine skip_ (w1 := ?_) (by rfl) rfl ?_ ?_
 rotate_left
 ·go_simp
  rfl
 refine hK.out _ _ ?_
 clear hK K
 refine last_ (i := 5) (N := none) #[true, true, true, true, true, true] rfl rfl (by kernel_rfl) (by decide) (fun K hK => ?_)
 have hs13 : w10.cell? ⟨gb174, 0, none⟩ = some (.bool a1_0) := (blk_cell BK174.out 0).trans rfl
 have hfs13 := blk_frozen BK174.out 0
 have hns13_0 := NB173_174.out
 have hms13_0 := NB174_173.out
 have hs14 : w10.cell? ⟨gb174, 1, none⟩ = some (.string a1_1) := (blk_cell BK174.out 1).trans rfl
 have hfs14 := blk_frozen BK174.out 1
 have hns14_0 := NB173_174.out
 have hms14_0 := NB174_173.out
 refine skip_ (w1 := ?_) (by rfl) rfl ?_ ?_
 rotate_left
 ·go_simp
  rfl
 refine hK.out _ _ ?_
 clear hK K
 refine done_ (by kernel_rfl) ?_
 go_upto_block 0 with (fail)
 go_cut [] (fun wc => ∃ (kq : Nat) (x174000_4 : Bool) (x174001_4 : ByteArray) (x175000_4 : Bool) (x175001_4 : ByteArray), Aside0 (spec_intOrder.j2 kq x174000_4 x174001_4 x175000_4 x175001_4 = some r) ∧ Aside0 (kq ≤ k) ∧ Aside0 (wc.heap[gb173]? = some (.cells #[.bool x174000_4, .string x174001_4] 23 (0, 0))) ∧ Aside0 (wc.heap[gb174]? = some (.cells #[.bool x175000_4, .string x175001_4] 23 (0, 0))) ∧ Aside0 (Below w.heap.size w wc))
 case first =>
  have H := HC5.out
  clear HC5
  have HC15 := Aside0.mk H
  clear H
  go_upto_region 2 with (fail)
  go_cut [9] (fun v9 wc => ∃ (kq : Nat) (x9_14 : Bool), v9 = .bool x9_14 ∧ Aside0 (spec_intOrder.j0 kq x9_14 t175 t176 t177 t178 = some r) ∧ Aside0 (kq ≤ k) ∧ Aside0 (wc.heap[gb173]? = some (.cells #[.bool t175, .string t176] 23 (0, 0))) ∧ Aside0 (wc.heap[gb174]? = some (.cells #[.bool t177, .string t178] 23 (0, 0))) ∧ Aside0 (Below w.heap.size w wc))
  case first =>
   have H := HC15.out
   clear HC15
   by_cases c16 : t175 = true
   ·subst c16
    have H1 : (spec_intOrder.j0 k (!t177) true t176 t177 t178) = some r := by rw [if_pos rfl] at H; exact H
    clear H
    have H := H1
    clear H1
    have H' := Aside0.mk H
    clear H
    have hnb17 := NB173_174.out
    have hnc17 := NB174_173.out
    have hcz18_0 : w10.cell? ⟨gb173, 0, none⟩ = some (.bool a0_0) := (blk_cell BK173.out 0).trans rfl
    have hcz18_1 : w10.cell? ⟨gb173, 1, none⟩ = some (.string a0_1) := (blk_cell BK173.out 1).trans rfl
    have hfz18_0 := blk_frozen BK173.out 0
    have hfz18_1 := blk_frozen BK173.out 1
    have hcz19_0 : w10.cell? ⟨gb174, 0, none⟩ = some (.bool a1_0) := (blk_cell BK174.out 0).trans rfl
    have hcz19_1 : w10.cell? ⟨gb174, 1, none⟩ = some (.string a1_1) := (blk_cell BK174.out 1).trans rfl
    have hfz19_0 := blk_frozen BK174.out 0
    have hfz19_1 := blk_frozen BK174.out 1
    go_wp2
    go_meet
    case rel => exact ⟨_, (!t177), (by first | rfl | (simp; done) | (simp [*]; done)), H', ⟨by first | omega | exact Nat.le_refl _⟩, ⟨by (with_reducible repeat (first | refine blk_drewN ?_ _ | refine blk_drew ?_ | refine blk_alloc ?_ _)); refine blk_far ?_ NB173_174.out _; (with_reducible repeat (first | refine blk_drewN ?_ _ | refine blk_drew ?_ | refine blk_alloc ?_ _)); refine blk_far ?_ NB173_174.out _; (with_reducible repeat (first | refine blk_drewN ?_ _ | refine blk_drew ?_ | refine blk_alloc ?_ _)); refine blk_put (cs := #[.bool true, .string a0_1]) ?_ 1 _ rfl; (with_reducible repeat (first | refine blk_drewN ?_ _ | refine blk_drew ?_ | refine blk_alloc ?_ _)); refine blk_put (cs := #[.bool a0_0, .string a0_1]) ?_ 0 _ rfl; (with_reducible repeat (first | refine blk_drewN ?_ _ | refine blk_drew ?_ | refine blk_alloc ?_ _)); exact BK173.out⟩, ⟨by (with_reducible repeat (first | refine blk_drewN ?_ _ | refine blk_drew ?_ | refine blk_alloc ?_ _)); refine blk_put (cs := #[.bool t177, .string a1_1]) ?_ 1 _ rfl; (with_reducible repeat (first | refine blk_drewN ?_ _ | refine blk_drew ?_ | refine blk_alloc ?_ _)); refine blk_put (cs := #[.bool a1_0, .string a1_1]) ?_ 0 _ rfl; (with_reducible repeat (first | refine blk_drewN ?_ _ | refine blk_drew ?_ | refine blk_alloc ?_ _)); refine blk_far ?_ NB174_173.out _; (with_reducible repeat (first | refine blk_drewN ?_ _ | refine blk_drew ?_ | refine blk_alloc ?_ _)); refine blk_far ?_ NB174_173.out _; (with_reducible repeat (first | refine blk_drewN ?_ _ | refine blk_drew ?_ | refine blk_alloc ?_ _)); exact BK174.out⟩, ⟨by repeat (first | (with_reducible first | exact HB.out | apply below_alloc | apply pw_below_drewN | apply below_drew1 | refine below_set ?_ GE173.out | refine below_set ?_ GE174.out) | exact HB.out)⟩⟩
   ·replace c16 := Bool.eq_false_iff.mpr c16
    subst c16
    have H1 : (spec_intOrder.j0 k false false t176 t177 t178) = some r := by rw [if_neg (show ¬ (false = true) by decide)] at H; exact H
    clear H
    have H := H1
    clear H1
    have H' := Aside0.mk H
    clear H
    have hnb20 := NB173_174.out
    have hnc20 := NB174_173.out
    have hcz21_0 : w10.cell? ⟨gb173, 0, none⟩ = some (.bool a0_0) := (blk_cell BK173.out 0).trans rfl
    have hcz21_1 : w10.cell? ⟨gb173, 1, none⟩ = some (.string a0_1) := (blk_cell BK173.out 1).trans rfl
    have hfz21_0 := blk_frozen BK173.out 0
    have hfz21_1 := blk_frozen BK173.out 1
    go_wp2
    go_meet
    case rel => exact ⟨_, (false), (by first | rfl | (simp; done) | (simp [*]; done)), H', ⟨by first | omega | exact Nat.le_refl _⟩, ⟨by (with_reducible repeat (first | refine blk_drewN ?_ _ | refine blk_drew ?_ | refine blk_alloc ?_ _)); refine blk_far ?_ NB173_174.out _; (with_reducible repeat (first | refine blk_drewN ?_ _ | refine blk_drew ?_ | refine blk_alloc ?_ _)); refine blk_far ?_ NB173_174.out _; (with_reducible repeat (first | refine blk_drewN ?_ _ | refine blk_drew ?_ | refine blk_alloc ?_ _)); refine blk_put (cs := #[.bool false, .string a0_1]) ?_ 1 _ rfl; (with_reducible repeat (first | refine blk_drewN ?_ _ | refine blk_drew ?_ | refine blk_alloc ?_ _)); refine blk_put (cs := #[.bool a0_0, .string a0_1]) ?_ 0 _ rfl; (with_reducible repeat (first | refine blk_drewN ?_ _ | refine blk_drew ?_ | refine blk_alloc ?_ _)); exact BK173.out⟩, ⟨by (with_reducible repeat (first | refine blk_drewN ?_ _ | refine blk_drew ?_ | refine blk_alloc ?_ _)); refine blk_put (cs := #[.bool t177, .string a1_1]) ?_ 1 _ rfl; (with_reducible repeat (first | refine blk_drewN ?_ _ | refine blk_drew ?_ | refine blk_alloc ?_ _)); refine blk_put (cs := #[.bool a1_0, .string a1_1]) ?_ 0 _ rfl; (with_reducible repeat (first | refine blk_drewN ?_ _ | refine blk_drew ?_ | refine blk_alloc ?_ _)); refine blk_far ?_ NB174_173.out _; (with_reducible repeat (first | refine blk_drewN ?_ _ | refine blk_drew ?_ | refine blk_alloc ?_ _)); refine blk_far ?_ NB174_173.out _; (with_reducible repeat (first | refine blk_drewN ?_ _ | refine blk_drew ?_ | refine blk_alloc ?_ _)); exact BK174.out⟩, ⟨by repeat (first | (with_reducible first | exact HB.out | apply below_alloc | apply pw_below_drewN | apply below_drew1 | refine below_set ?_ GE173.out | refine below_set ?_ GE174.out) | exact HB.out)⟩⟩
  case rest =>
   clear HC15
   try clear c1
   try clear c2
   try clear p2
   try clear c4
   try clear c16
   try clear c17
   try clear c20
   try clear c21
   try clear hcz18_0
   try clear hcz18_1
   try clear hcz19_0
   try clear hcz19_1
   try clear hcz21_0
   try clear hcz21_1
   try clear hfz18_0
   try clear hfz18_1
   try clear hfz19_0
   try clear hfz19_1
   try clear hfz21_0
   try clear hfz21_1
   obtain ⟨kq, x9_14, rfl, HA, HJ14, BK173, BK174, HB⟩ := hcut
   cases kq with
   | zero => exact absurd HA.out (by simp [spec_intOrder.j0])
   | succ kj14 =>
    have H := HA.out
    clear HA
    simp only [spec_intOrder.j0] at H
    by_cases c22 : x9_14 = true
    ·subst c22
     have H1 : (some (-1)) = some r := by rw [if_pos rfl] at H; exact H
     clear H
     have H := H1
     clear H1
     obtain rfl := Option.some.inj H
     go_wp2
     go_ret
     exact ⟨by first | rfl | (simp [errW_none, errW_some] <;> rfl) | (simp [*, errW_none, errW_some] <;> rfl), by repeat (first | (with_reducible first | exact HB.out | apply below_alloc | apply pw_below_drewN | apply below_drew1 | refine below_set ?_ GE173.out | refine below_set ?_ GE174.out) | exact HB.out)⟩
    ·replace c22 := Bool.eq_false_iff.mpr c22
     subst c22
     have H1 : (if t175 = true then (spec_intOrder.j1 kj14 false t175 t176 t177 t178) else (spec_intOrder.j1 kj14 t177 t175 t176 t177 t178)) = some r := by rw [if_neg (show ¬ (false = true) by decide)] at H; exact H
     clear H
     have H := H1
     clear H1
     have HC23 := Aside0.mk H
     clear H
     go_upto_region 4 with (fail)
     go_cut [17] (fun v17 wc => ∃ (kq : Nat) (x17_22 : Bool), v17 = .bool x17_22 ∧ Aside0 (spec_intOrder.j1 kq x17_22 t175 t176 t177 t178 = some r) ∧ Aside0 (kq ≤ kj14) ∧ Aside0 (wc.heap[gb173]? = some (.cells #[.bool t175, .string t176] 23 (0, 0))) ∧ Aside0 (wc.heap[gb174]? = some (.cells #[.bool t177, .string t178] 23 (0, 0))) ∧ Aside0 (Below w.heap.size w wc))
     case first =>
      have H := HC23.out
      clear HC23
      by_cases c24 : t175 = true
      ·subst c24
       have H1 : (spec_intOrder.j1 kj14 false true t176 t177 t178) = some r := by rw [if_pos rfl] at H; exact H
       clear H
       have H := H1
       clear H1
       have H' := Aside0.mk H
       clear H
       have hnb25 := NB173_174.out
       have hnc25 := NB174_173.out
       have hcz26_0 : wc.cell? ⟨gb173, 0, none⟩ = some (.bool true) := (blk_cell BK173.out 0).trans rfl
       have hcz26_1 : wc.cell? ⟨gb173, 1, none⟩ = some (.string t176) := (blk_cell BK173.out 1).trans rfl
       have hfz26_0 := blk_frozen BK173.out 0
       have hfz26_1 := blk_frozen BK173.out 1
       go_wp2
       go_meet
       case rel => exact ⟨_, (false), (by first | rfl | (simp; done) | (simp [*]; done)), H', ⟨by have := HJ14.out; first | omega | exact Nat.le_refl _⟩, ⟨by (with_reducible repeat (first | refine blk_drewN ?_ _ | refine blk_drew ?_ | refine blk_alloc ?_ _)); exact BK173.out⟩, ⟨by (with_reducible repeat (first | refine blk_drewN ?_ _ | refine blk_drew ?_ | refine blk_alloc ?_ _)); exact BK174.out⟩, ⟨by repeat (first | (with_reducible first | exact HB.out | apply below_alloc | apply pw_below_drewN | apply below_drew1 | refine below_set ?_ GE173.out | refine below_set ?_ GE174.out) | exact HB.out)⟩⟩
      ·replace c24 := Bool.eq_false_iff.mpr c24
       subst c24
       have H1 : (spec_intOrder.j1 kj14 t177 false t176 t177 t178) = some r := by rw [if_neg (show ¬ (false = true) by decide)] at H; exact H
       clear H
       have H := H1
       clear H1
       have H' := Aside0.mk H
       clear H
       have hnb27 := NB173_174.out
       have hnc27 := NB174_173.out
       have hcz28_0 : wc.cell? ⟨gb173, 0, none⟩ = some (.bool false) := (blk_cell BK173.out 0).trans rfl
       have hcz28_1 : wc.cell? ⟨gb173, 1, none⟩ = some (.string t176) := (blk_cell BK173.out 1).trans rfl
       have hfz28_0 := blk_frozen BK173.out 0
       have hfz28_1 := blk_frozen BK173.out 1
       have hcz29_0 : wc.cell? ⟨gb174, 0, none⟩ = some (.bool t177) := (blk_cell BK174.out 0).trans rfl
       have hcz29_1 : wc.cell? ⟨gb174, 1, none⟩ = some (.string t178) := (blk_cell BK174.out 1).trans rfl
       have hfz29_0 := blk_frozen BK174.out 0
       have hfz29_1 := blk_frozen BK174.out 1
       go_wp2
       go_meet
       case rel => exact ⟨_, (t177), (by first | rfl | (simp; done) | (simp [*]; done)), H', ⟨by have := HJ14.out; first | omega | exact Nat.le_refl _⟩, ⟨by (with_reducible repeat (first | refine blk_drewN ?_ _ | refine blk_drew ?_ | refine blk_alloc ?_ _)); exact BK173.out⟩, ⟨by (with_reducible repeat (first | refine blk_drewN ?_ _ | refine blk_drew ?_ | refine blk_alloc ?_ _)); exact BK174.out⟩, ⟨by repeat (first | (with_reducible first | exact HB.out | apply below_alloc | apply pw_below_drewN | apply below_drew1 | refine below_set ?_ GE173.out | refine below_set ?_ GE174.out) | exact HB.out)⟩⟩
     case rest =>
      clear HC23
      try clear c1
      try clear c2
      try clear p2
      try clear c4
      try clear c16
      try clear c17
      try clear c20
      try clear c21
      try clear c22
      try clear c24
      try clear c25
      try clear c27
      try clear hcz18_0
      try clear hcz18_1
      try clear hcz19_0
      try clear hcz19_1
      try clear hcz21_0
      try clear hcz21_1
      try clear hcz26_0
      try clear hcz26_1
      try clear hcz28_0
      try clear hcz28_1
      try clear hcz29_0
      try clear hcz29_1
      try clear hfz18_0
      try clear hfz18_1
      try clear hfz19_0
      try clear hfz19_1
      try clear hfz21_0
      try clear hfz21_1
      try clear hfz26_0
      try clear hfz26_1
      try clear hfz28_0
      try clear hfz28_1
      try clear hfz29_0
      try clear hfz29_1
      try clear p2
      obtain ⟨kq, x17_22, rfl, HA, HJ22, BK173, BK174, HB⟩ := hcut
      cases kq with
      | zero => exact absurd HA.out (by simp [spec_intOrder.j1])
      | succ kj22 =>
       have H := HA.out
       clear HA
       simp only [spec_intOrder.j1] at H
       by_cases c30 : x17_22 = true
       ·subst c30
        have H1 : (some 1) = some r := by rw [if_pos rfl] at H; exact H
        clear H
        have H := H1
        clear H1
        obtain rfl := Option.some.inj H
        go_wp2
        go_ret
        exact ⟨by first | rfl | (simp [errW_none, errW_some] <;> rfl) | (simp [*, errW_none, errW_some] <;> rfl), by repeat (first | (with_reducible first | exact HB.out | apply below_alloc | apply pw_below_drewN | apply below_drew1 | refine below_set ?_ GE173.out | refine below_set ?_ GE174.out) | exact HB.out)⟩
       ·replace c30 := Bool.eq_false_iff.mpr c30
        subst c30
        have H1 : (if t175 = true then (spec_intOrder.j2 kj22 t177 t178 t175 t176) else (spec_intOrder.j2 kj22 t175 t176 t177 t178)) = some r := by rw [if_neg (show ¬ (false = true) by decide)] at H; exact H
        clear H
        have H := H1
        clear H1
        by_cases c31 : t175 = true
        ·subst c31
         have H1 : (spec_intOrder.j2 kj22 t177 t178 true t176) = some r := by rw [if_pos rfl] at H; exact H
         clear H
         have H := H1
         clear H1
         have H' := Aside0.mk H
         clear H
         have hnb32 := NB173_174.out
         have hnc32 := NB174_173.out
         have hcz33_0 : wc.cell? ⟨gb173, 0, none⟩ = some (.bool true) := (blk_cell BK173.out 0).trans rfl
         have hcz33_1 : wc.cell? ⟨gb173, 1, none⟩ = some (.string t176) := (blk_cell BK173.out 1).trans rfl
         have hfz33_0 := blk_frozen BK173.out 0
         have hfz33_1 := blk_frozen BK173.out 1
         have hcz34_0 : wc.cell? ⟨gb174, 0, none⟩ = some (.bool t177) := (blk_cell BK174.out 0).trans rfl
         have hcz34_1 : wc.cell? ⟨gb174, 1, none⟩ = some (.string t178) := (blk_cell BK174.out 1).trans rfl
         have hfz34_0 := blk_frozen BK174.out 0
         have hfz34_1 := blk_frozen BK174.out 1
         go_wp2
         go_meet
         case rel => exact ⟨_, (t177), (t178), (true), (t176), H', ⟨by have := HJ14.out; have := HJ22.out; first | omega | exact Nat.le_refl _⟩, ⟨by (with_reducible repeat (first | refine blk_drewN ?_ _ | refine blk_drew ?_ | refine blk_alloc ?_ _)); refine blk_far ?_ NB173_174.out _; (with_reducible repeat (first | refine blk_drewN ?_ _ | refine blk_drew ?_ | refine blk_alloc ?_ _)); refine blk_far ?_ NB173_174.out _; (with_reducible repeat (first | refine blk_drewN ?_ _ | refine blk_drew ?_ | refine blk_alloc ?_ _)); refine blk_put (cs := #[.bool t177, .string t176]) ?_ 1 _ rfl; (with_reducible repeat (first | refine blk_drewN ?_ _ | refine blk_drew ?_ | refine blk_alloc ?_ _)); refine blk_put (cs := #[.bool true, .string t176]) ?_ 0 _ rfl; (with_reducible repeat (first | refine blk_drewN ?_ _ | refine blk_drew ?_ | refine blk_alloc ?_ _)); exact BK173.out⟩, ⟨by (with_reducible repeat (first | refine blk_drewN ?_ _ | refine blk_drew ?_ | refine blk_alloc ?_ _)); refine blk_put (cs := #[.bool true, .string t178]) ?_ 1 _ rfl; (with_reducible repeat (first | refine blk_drewN ?_ _ | refine blk_drew ?_ | refine blk_alloc ?_ _)); refine blk_put (cs := #[.bool t177, .string t178]) ?_ 0 _ rfl; (with_reducible repeat (first | refine blk_drewN ?_ _ | refine blk_drew ?_ | refine blk_alloc ?_ _)); refine blk_far ?_ NB174_173.out _; (with_reducible repeat (first | refine blk_drewN ?_ _ | refine blk_drew ?_ | refine blk_alloc ?_ _)); refine blk_far ?_ NB174_173.out _; (with_reducible repeat (first | refine blk_drewN ?_ _ | refine blk_drew ?_ | refine blk_alloc ?_ _)); exact BK174.out⟩, ⟨by repeat (first | (with_reducible first | exact HB.out | apply below_alloc | apply pw_below_drewN | apply below_drew1 | refine below_set ?_ GE173.out | refine below_set ?_ GE174.out) | exact HB.out)⟩⟩
        ·replace c31 := Bool.eq_false_iff.mpr c31
         subst c31
         have H1 : (spec_intOrder.j2 kj22 false t176 t177 t178) = some r := by rw [if_neg (show ¬ (false = true) by decide)] at H; exact H
         clear H
         have H := H1
         clear H1
         have H' := Aside0.mk H
         clear H
         have hnb35 := NB173_174.out
         have hnc35 := NB174_173.out
         have hcz36_0 : wc.cell? ⟨gb173, 0, none⟩ = some (.bool false) := (blk_cell BK173.out 0).trans rfl
         have hcz36_1 : wc.cell? ⟨gb173, 1, none⟩ = some (.string t176) := (blk_cell BK173.out 1).trans rfl
         have hfz36_0 := blk_frozen BK173.out 0
         have hfz36_1 := blk_frozen BK173.out 1
         go_wp2
         go_meet
         case rel => exact ⟨_, (false), (t176), (t177), (t178), H', ⟨by have := HJ14.out; have := HJ22.out; first | omega | exact Nat.le_refl _⟩, ⟨by (with_reducible repeat (first | refine blk_drewN ?_ _ | refine blk_drew ?_ | refine blk_alloc ?_ _)); exact BK173.out⟩, ⟨by (with_reducible repeat (first | refine blk_drewN ?_ _ | refine blk_drew ?_ | refine blk_alloc ?_ _)); exact BK174.out⟩, ⟨by repeat (first | (with_reducible first | exact HB.out | apply below_alloc | apply pw_below_drewN | apply below_drew1 | refine below_set ?_ GE173.out | refine below_set ?_ GE174.out) | exact HB.out)⟩⟩
 case rest =>
  clear HC5
  try clear c1
  try clear c2
  try clear p2
  try clear c3
  try clear c4
  try clear c16
  try clear c17
  try clear c20
  try clear c21
  try clear c22
  try clear c24
  try clear c25
  try clear c27
  try clear c30
  try clear c31
  try clear c32
  try clear c35
  try clear hcz18_0
  try clear hcz18_1
  try clear hcz19_0
  try clear hcz19_1
  try clear hcz21_0
  try clear hcz21_1
  try clear hcz26_0
  try clear hcz26_1
  try clear hcz28_0
  try clear hcz28_1
  try clear hcz29_0
  try clear hcz29_1
  try clear hcz33_0
  try clear hcz33_1
  try clear hcz34_0
  try clear hcz34_1
  try clear hcz36_0
  try clear hcz36_1
  try clear hfz18_0
  try clear hfz18_1
  try clear hfz19_0
  try clear hfz19_1
  try clear hfz21_0
  try clear hfz21_1
  try clear hfz26_0
  try clear hfz26_1
  try clear hfz28_0
  try clear hfz28_1
  try clear hfz29_0
  try clear hfz29_1
  try clear hfz33_0
  try clear hfz33_1
  try clear hfz34_0
  try clear hfz34_1
  try clear hfz36_0
  try clear hfz36_1
  try clear p2
  obtain ⟨kq, x174000_4, x174001_4, x175000_4, x175001_4, HA, HJ4, BK173, BK174, HB⟩ := hcut
  cases kq with
  | zero => exact absurd HA.out (by simp [spec_intOrder.j2])
  | succ kj4 =>
   have H := HA.out
   clear HA
   simp only [spec_intOrder.j2] at H
   by_cases c37 : (x174001_4.size : Int) = (x175001_4.size : Int)
   ·rw [if_pos c37] at H
    have c37b0 : ((x174001_4.size : Int) == (x175001_4.size : Int)) = true := beq_iff_eq.mpr c37
    have c37b1 : ((x174001_4.size : Int) != (x175001_4.size : Int)) = false := bne_eq_false_iff_eq.mpr c37
    have c37b2 : (x174001_4.size == x175001_4.size) = true := by first | simpa using c37 | (simp at c37 ⊢; omega)
    clear c37
    replace H := Option.bind_eq_some_iff.mp H
    obtain ⟨t179, A380, H⟩ := H
    replace H : (some t179) = some r := H
    have A38 := Aside0.mk A380
    clear A380
    obtain rfl := Option.some.inj H
    have hnb39 := NB173_174.out
    have hnc39 := NB174_173.out
    have hcz40_0 : wc.cell? ⟨gb173, 0, none⟩ = some (.bool x174000_4) := (blk_cell BK173.out 0).trans rfl
    have hcz40_1 : wc.cell? ⟨gb173, 1, none⟩ = some (.string x174001_4) := (blk_cell BK173.out 1).trans rfl
    have hfz40_0 := blk_frozen BK173.out 0
    have hfz40_1 := blk_frozen BK173.out 1
    have hcz41_0 : wc.cell? ⟨gb174, 0, none⟩ = some (.bool x175000_4) := (blk_cell BK174.out 0).trans rfl
    have hcz41_1 : wc.cell? ⟨gb174, 1, none⟩ = some (.string x175001_4) := (blk_cell BK174.out 1).trans rfl
    have hfz41_0 := blk_frozen BK174.out 0
    have hfz41_1 := blk_frozen BK174.out 1
    go_wp2_with (first | ((with_reducible refine gate_callee (f := 39) rfl ?_); refine goesL_ (some 48) rfl rfl Tryz.func39 (by kernel_rfl) rfl #[.string x174001_4, .string x175001_4] rfl (by (try simp only [List.map_toArray, List.map_cons, List.map_nil]); first | done | rfl | (simp only [List.length_drop, List.length_take]; rfl)) ?_; (with_reducible refine (spec_order.calls x174001_4 x175001_4 t179 _ A38.out).mono ?_); rintro e w' ⟨rfl, ⟨nd, rfl⟩⟩; refine ⟨_, rfl, ?_⟩))
    go_ret
    exact ⟨by first | rfl | (simp [errW_none, errW_some] <;> rfl) | (simp [*, errW_none, errW_some] <;> rfl), by repeat (first | (with_reducible first | exact HB.out | apply below_alloc | apply pw_below_drewN | apply below_drew1 | refine below_set ?_ GE173.out | refine below_set ?_ GE174.out) | exact HB.out)⟩
   ·rw [if_neg c37] at H
    have c37b0 : ((x174001_4.size : Int) == (x175001_4.size : Int)) = false := beq_eq_false_iff_ne.mpr c37
    have c37b1 : ((x174001_4.size : Int) != (x175001_4.size : Int)) = true := bne_iff_ne.mpr c37
    have c37b2 : (x174001_4.size == x175001_4.size) = false := by first | simpa using c37 | (simp at c37 ⊢; omega)
    replace H := Option.bind_eq_some_iff.mp H
    obtain ⟨t180, A420, H⟩ := H
    replace H : (some t180) = some r := H
    have A42 := Aside0.mk A420
    clear A420
    obtain rfl := Option.some.inj H
    have hnb43 := NB173_174.out
    have hnc43 := NB174_173.out
    have hcz44_0 : wc.cell? ⟨gb173, 0, none⟩ = some (.bool x174000_4) := (blk_cell BK173.out 0).trans rfl
    have hcz44_1 : wc.cell? ⟨gb173, 1, none⟩ = some (.string x174001_4) := (blk_cell BK173.out 1).trans rfl
    have hfz44_0 := blk_frozen BK173.out 0
    have hfz44_1 := blk_frozen BK173.out 1
    have hcz45_0 : wc.cell? ⟨gb174, 0, none⟩ = some (.bool x175000_4) := (blk_cell BK174.out 0).trans rfl
    have hcz45_1 : wc.cell? ⟨gb174, 1, none⟩ = some (.string x175001_4) := (blk_cell BK174.out 1).trans rfl
    have hfz45_0 := blk_frozen BK174.out 0
    have hfz45_1 := blk_frozen BK174.out 1
    go_wp2_with (first | ((with_reducible refine gate_callee (f := 38) rfl ?_); refine goesL_ (some 43) rfl rfl Tryz.func38 (by kernel_rfl) rfl #[.int .i64 (x174001_4.size : Int), .int .i64 (x175001_4.size : Int)] rfl (by (try simp only [List.map_toArray, List.map_cons, List.map_nil]); first | done | rfl | (simp only [List.length_drop, List.length_take]; rfl)) ?_; (with_reducible refine (spec_orderInts.calls (x174001_4.size : Int) (x175001_4.size : Int) t180 _ A42.out).mono ?_); rintro e w' ⟨rfl, ⟨nd, rfl⟩⟩; refine ⟨_, rfl, ?_⟩))
    go_ret
    exact ⟨by first | rfl | (simp [errW_none, errW_some] <;> rfl) | (simp [*, errW_none, errW_some] <;> rfl), by repeat (first | (with_reducible first | exact HB.out | apply below_alloc | apply pw_below_drewN | apply below_drew1 | refine below_set ?_ GE173.out | refine below_set ?_ GE174.out) | exact HB.out)⟩

/-! ### spec_CompareNumbers: function 22 -/
mutual
def spec_CompareNumbers.l0 : Nat → List (S23) → List (S23) → Int → Option (Int)
 | 0, _, _, _ => none
 | k + 1, x0, x1, x5 => if x5 < (x0.length : Int) then (spec_CompareNumbers.j1 k x0 x1 x5 true) else (spec_CompareNumbers.j1 k x0 x1 x5 (decide (x5 < (x1.length : Int))))
def spec_CompareNumbers.j1 : Nat → List (S23) → List (S23) → Int → Bool → Option (Int)
 | 0, _, _, _, _ => none
 | k + 1, x0, x1, x5, x18 => if x18 = true then (if x5 < (x0.length : Int) then (if 0 ≤ x5 then (spec_CompareNumbers.j2 k x0 x1 x5 ((rd_T23 x0 x5).f0) ((rd_T23 x0 x5).f1) false (⟨#[]⟩ : ByteArray)) else (none)) else (spec_CompareNumbers.j2 k x0 x1 x5 false (⟨#[]⟩ : ByteArray) false (⟨#[]⟩ : ByteArray))) else (some 0)
def spec_CompareNumbers.j2 : Nat → List (S23) → List (S23) → Int → Bool → ByteArray → Bool → ByteArray → Option (Int)
 | 0, _, _, _, _, _, _, _ => none
 | k + 1, x0, x1, x5, x182000, x182001, x183000, x183001 => if x5 < (x1.length : Int) then (if 0 ≤ x5 then ((spec_intOrder.f k x182000 x182001 ((rd_T23 x1 x5).f0) ((rd_T23 x1 x5).f1)).bind fun t185 => (if t185 = 0 then (spec_CompareNumbers.l0 k x0 x1 (wrap64 (x5 + 1))) else (some t185))) else (none)) else ((spec_intOrder.f k x182000 x182001 x183000 x183001).bind fun t186 => (if t186 = 0 then (spec_CompareNumbers.l0 k x0 x1 (wrap64 (x5 + 1))) else (some t186)))
end
def spec_CompareNumbers.f (k : Nat) (l0 : List (S23)) (l1 : List (S23)) : Option (Int) := spec_CompareNumbers.l0 k l0 l1 0
theorem spec_CompareNumbers.mono_l : ∀ k, (∀ y0 y1 y2, LeO (spec_CompareNumbers.l0 k y0 y1 y2) (spec_CompareNumbers.l0 (k + 1) y0 y1 y2)) ∧ (∀ y0 y1 y2 y3, LeO (spec_CompareNumbers.j1 k y0 y1 y2 y3) (spec_CompareNumbers.j1 (k + 1) y0 y1 y2 y3)) ∧ (∀ y0 y1 y2 y3 y4 y5 y6, LeO (spec_CompareNumbers.j2 k y0 y1 y2 y3 y4 y5 y6) (spec_CompareNumbers.j2 (k + 1) y0 y1 y2 y3 y4 y5 y6))
 | 0 => ⟨fun _ _ _ r h => by simp [spec_CompareNumbers.l0] at h, fun _ _ _ _ r h => by simp [spec_CompareNumbers.j1] at h, fun _ _ _ _ _ _ _ r h => by simp [spec_CompareNumbers.j2] at h⟩
 | k + 1 => by
  obtain ⟨ih0, ih1, ih2⟩ := spec_CompareNumbers.mono_l k
  refine ⟨?_, ?_, ?_⟩
  ·intro y0 y1 y2
   unfold spec_CompareNumbers.l0
   repeat' first
   | (with_reducible exact ih0 _ _ _)
   | (with_reducible exact ih1 _ _ _ _)
   | (with_reducible exact ih2 _ _ _ _ _ _ _)
   | (with_reducible exact spec_intOrder.mono _ _ _ _ _)
   | (with_reducible exact LeO.refl _)
   | (with_reducible exact LeO.none _)
   | (with_reducible refine LeO.ite ?_ ?_)
   | (with_reducible refine LeO.bind ?_ (fun _ => ?_))
   | exact ih0 _ _ _
   | exact ih1 _ _ _ _
   | exact ih2 _ _ _ _ _ _ _
   | exact spec_intOrder.mono _ _ _ _ _
   | exact LeO.none _
   | refine LeO.ite ?_ ?_
   | refine LeO.bind ?_ (fun _ => ?_)
  ·intro y0 y1 y2 y3
   unfold spec_CompareNumbers.j1
   repeat' first
   | (with_reducible exact ih0 _ _ _)
   | (with_reducible exact ih1 _ _ _ _)
   | (with_reducible exact ih2 _ _ _ _ _ _ _)
   | (with_reducible exact spec_intOrder.mono _ _ _ _ _)
   | (with_reducible exact LeO.refl _)
   | (with_reducible exact LeO.none _)
   | (with_reducible refine LeO.ite ?_ ?_)
   | (with_reducible refine LeO.bind ?_ (fun _ => ?_))
   | exact ih0 _ _ _
   | exact ih1 _ _ _ _
   | exact ih2 _ _ _ _ _ _ _
   | exact spec_intOrder.mono _ _ _ _ _
   | exact LeO.none _
   | refine LeO.ite ?_ ?_
   | refine LeO.bind ?_ (fun _ => ?_)
  ·intro y0 y1 y2 y3 y4 y5 y6
   unfold spec_CompareNumbers.j2
   repeat' first
   | (with_reducible exact ih0 _ _ _)
   | (with_reducible exact ih1 _ _ _ _)
   | (with_reducible exact ih2 _ _ _ _ _ _ _)
   | (with_reducible exact spec_intOrder.mono _ _ _ _ _)
   | (with_reducible exact LeO.refl _)
   | (with_reducible exact LeO.none _)
   | (with_reducible refine LeO.ite ?_ ?_)
   | (with_reducible refine LeO.bind ?_ (fun _ => ?_))
   | exact ih0 _ _ _
   | exact ih1 _ _ _ _
   | exact ih2 _ _ _ _ _ _ _
   | exact spec_intOrder.mono _ _ _ _ _
   | exact LeO.none _
   | refine LeO.ite ?_ ?_
   | refine LeO.bind ?_ (fun _ => ?_)
theorem spec_CompareNumbers.mono : ∀ a0 a1 k, LeO (spec_CompareNumbers.f k a0 a1) (spec_CompareNumbers.f (k + 1) a0 a1) := by
 intro a0 a1 k
 obtain ⟨ih0, ih1, ih2⟩ := spec_CompareNumbers.mono_l k
 unfold spec_CompareNumbers.f
 repeat' first
   | (with_reducible exact ih0 _ _ _)
   | (with_reducible exact ih1 _ _ _ _)
   | (with_reducible exact ih2 _ _ _ _ _ _ _)
   | (with_reducible exact spec_intOrder.mono _ _ _ _ _)
   | (with_reducible exact LeO.refl _)
   | (with_reducible exact LeO.none _)
   | (with_reducible refine LeO.ite ?_ ?_)
   | (with_reducible refine LeO.bind ?_ (fun _ => ?_))
   | exact ih0 _ _ _
   | exact ih1 _ _ _ _
   | exact ih2 _ _ _ _ _ _ _
   | exact spec_intOrder.mono _ _ _ _ _
   | exact LeO.none _
   | refine LeO.ite ?_ ?_
   | refine LeO.bind ?_ (fun _ => ?_)
set_option maxHeartbeats 8000000 in
set_option maxRecDepth 100000 in
theorem spec_CompareNumbers.calls (k : Nat) (A0 : Option Addr) (c0 : Nat) (l0 : List (S23)) (A1 : Option Addr) (c1 : Nat) (l1 : List (S23)) (r : Int) (w : World) (hr0 : Kd.C k23 w A0 l0.length l0) (hc0 : l0.length ≤ c0) (hr1 : Kd.C k23 w A1 l1.length l1) (hc1 : l1.length ≤ c1) (h : spec_CompareNumbers.f k l0 l1 = some r) :
  Calls Tryz.prog 22 #[.slice A0 l0.length c0, .slice A1 l1.length c1] w fun e w' => e = .returned (.int .i64 r) ∧ Below w.heap.size w w' := by
 have hu23 := Tryz.underlying23
 have HR0 := Aside0.mk hr0
 have HC0 := Aside0.mk hc0
 clear hr0 hc0
 have HR1 := Aside0.mk hr1
 have HC1 := Aside0.mk hc1
 clear hr1 hc1
 have HB := Aside0.mk (Below.refl w.heap.size w)
 have H : (spec_CompareNumbers.l0 k l0 l1 0) = some r := h
 clear h
 have H' := Aside0.mk H
 clear H
 go_enter Tryz.func22, Tryz.ntmps22
 go_wp2
 go_loopg [5] k (fun kq v5 w' => ∃ (x5_1 : Int), v5 = .int .i64 x5_1 ∧ Aside0 (spec_CompareNumbers.l0 kq l0 l1 x5_1 = some r) ∧ Aside0 (kq ≤ k) ∧ Aside0 (Below w.heap.size w w'))
 case atStart => exact ⟨(0), (by first | rfl | (simp; done) | (simp [*]; done)), H', ⟨Nat.le_refl _⟩, ⟨by repeat (first | (with_reducible first | exact HB.out | apply below_alloc | apply pw_below_drewN | apply below_drew1) | exact HB.out)⟩⟩
 case round =>
  clear H'
  try clear c1
  try clear c2
  try clear p2
  obtain ⟨x5_1, rfl, HA, HK1, HB⟩ := hrel
  cases gk with
  | zero => exact absurd HA.out (by simp [spec_CompareNumbers.l0])
  | succ k1 =>
   have H := HA.out
   clear HA
   simp only [spec_CompareNumbers.l0] at H
   have HC3 := Aside0.mk H
   clear H
   go_upto_region 2 with (fail)
   go_cut [18] (fun v18 wc => ∃ (kq : Nat) (x18_2 : Bool), v18 = .bool x18_2 ∧ Aside0 (spec_CompareNumbers.j1 kq l0 l1 x5_1 x18_2 = some r) ∧ Aside0 (kq ≤ k1) ∧ Aside0 (Below w.heap.size w wc))
   case first =>
    have H := HC3.out
    clear HC3
    by_cases c4 : x5_1 < (l0.length : Int)
    ·rw [if_pos c4] at H
     have c4b0 : decide (x5_1 < (l0.length : Int)) = true := decide_eq_true c4
     clear c4
     (first | rw [c4b0] | (simp only [i64_w, i32_w]; rw [c4b0]) | skip)
     have H' := Aside0.mk H
     clear H
     go_wp2
     go_meet
     case rel => exact ⟨_, (true), (by first | rfl | (simp; done) | (simp [*]; done)), H', ⟨by have := HK1.out; first | omega | exact Nat.le_refl _⟩, ⟨by repeat (first | (with_reducible first | exact HB.out | apply below_alloc | apply pw_below_drewN | apply below_drew1) | exact HB.out)⟩⟩
    ·rw [if_neg c4] at H
     have c4b0 : decide (x5_1 < (l0.length : Int)) = false := decide_eq_false c4
     clear c4
     (first | rw [c4b0] | (simp only [i64_w, i32_w]; rw [c4b0]) | skip)
     have H' := Aside0.mk H
     clear H
     go_wp2
     go_meet
     case rel => exact ⟨_, (decide (x5_1 < (l1.length : Int))), (by first | rfl | (simp; done) | (simp [*]; done)), H', ⟨by have := HK1.out; first | omega | exact Nat.le_refl _⟩, ⟨by repeat (first | (with_reducible first | exact HB.out | apply below_alloc | apply pw_below_drewN | apply below_drew1) | exact HB.out)⟩⟩
   case rest =>
    clear HC3
    try clear c1
    try clear c2
    try clear p2
    try clear c4
    try clear c4b0
    try clear p2
    obtain ⟨kq, x18_2, rfl, HA, HJ2, HB⟩ := hcut
    cases kq with
    | zero => exact absurd HA.out (by simp [spec_CompareNumbers.j1])
    | succ kj2 =>
     have H := HA.out
     clear HA
     simp only [spec_CompareNumbers.j1] at H
     by_cases c5 : x18_2 = true
     ·subst c5
      have H1 : (if x5_1 < (l0.length : Int) then (if 0 ≤ x5_1 then (spec_CompareNumbers.j2 kj2 l0 l1 x5_1 ((rd_T23 l0 x5_1).f0) ((rd_T23 l0 x5_1).f1) false (⟨#[]⟩ : ByteArray)) else (none)) else (spec_CompareNumbers.j2 kj2 l0 l1 x5_1 false (⟨#[]⟩ : ByteArray) false (⟨#[]⟩ : ByteArray))) = some r := by rw [if_pos rfl] at H; exact H
      clear H
      have H := H1
      clear H1
      have HC6 := Aside0.mk H
      clear H
      go_upto_if 24 with (first | ((with_reducible refine gate_dst (N := 6) rfl ?_); (try (refine gate_guard (by rfl) ?_; dsimp only)); refine box_event ?hg (N := 6) ?hd (cs := #[.bool false, .string (⟨#[]⟩ : ByteArray)]) (t := 23) ?hr ?_; (case hd => rfl); (case hg => rfl); (case hr => first | (go_simp; done) | (go_simp; rfl)); intro gb181 hg w7 hbox hb; have n0_ := Aside0.mk (below_step (by repeat (first | (with_reducible first | exact HB.out | apply below_alloc | apply pw_below_drewN | apply below_drew1) | exact HB.out)) hb); have n1_ := Aside0.mk (hbox); have n2_ := Aside0.mk ((by rw [hg]; exact (below_size (by repeat (first | (with_reducible first | exact HB.out | apply below_alloc | apply pw_below_drewN | apply below_drew1) | exact HB.out))) : w.heap.size ≤ gb181)); have n3_ := Aside0.mk ((by rw [hg]; exact (below_size (by repeat (first | (with_reducible first | exact HB.out | apply below_alloc | apply pw_below_drewN | apply below_drew1) | exact HB.out))) : w.heap.size ≤ gb181)); clear HB; have HB := n0_; have BK181 := n1_; have GW181 := n2_; have GE181 := n3_; clear n0_ n1_ n2_ n3_; clear hb hbox hg) | ((with_reducible refine gate_dst (N := 7) rfl ?_); (try (refine gate_guard (by rfl) ?_; dsimp only)); refine box_event ?hg (N := 7) ?hd (cs := #[.bool false, .string (⟨#[]⟩ : ByteArray)]) (t := 23) ?hr ?_; (case hd => rfl); (case hg => rfl); (case hr => first | (go_simp; done) | (go_simp; rfl)); intro gb182 hg w8 hbox hb; have n0_ := Aside0.mk (blk_below (g := gb181) (o := .cells #[.bool false, .string (⟨#[]⟩ : ByteArray)] 23 (0, 0)) (by (with_reducible repeat (first | refine blk_drewN ?_ _ | refine blk_drew ?_ | refine blk_alloc ?_ _)); exact BK181.out) hb); have n1_ := Aside0.mk (below_step (by repeat (first | (with_reducible first | exact HB.out | apply below_alloc | apply pw_below_drewN | apply below_drew1 | refine below_set ?_ GE181.out) | exact HB.out)) hb); have n2_ := Aside0.mk (hbox); have n3_ := Aside0.mk ((by rw [hg]; exact (below_size (by repeat (first | (with_reducible first | exact HB.out | apply below_alloc | apply pw_below_drewN | apply below_drew1 | refine below_set ?_ GE181.out) | exact HB.out))) : w.heap.size ≤ gb182)); have n4_ := Aside0.mk ((by rw [hg]; exact (below_size (by repeat (first | (with_reducible first | exact HB.out | apply below_alloc | apply pw_below_drewN | apply below_drew1 | refine below_set ?_ GE181.out) | exact HB.out))) : w.heap.size ≤ gb182)); have n5_ := Aside0.mk ((by rw [hg]; exact Nat.ne_of_lt (blk_lt (g := gb181) (o := .cells #[.bool false, .string (⟨#[]⟩ : ByteArray)] 23 (0, 0)) (by (with_reducible repeat (first | refine blk_drewN ?_ _ | refine blk_drew ?_ | refine blk_alloc ?_ _)); exact BK181.out)) : gb181 ≠ gb182)); have n6_ := Aside0.mk ((by rw [hg]; exact Nat.ne_of_gt (blk_lt (g := gb181) (o := .cells #[.bool false, .string (⟨#[]⟩ : ByteArray)] 23 (0, 0)) (by (with_reducible repeat (first | refine blk_drewN ?_ _ | refine blk_drew ?_ | refine blk_alloc ?_ _)); exact BK181.out)) : gb182 ≠ gb181)); clear BK181; clear HB; have BK181 := n0_; have HB := n1_; have BK182 := n2_; have GW182 := n3_; have GE182 := n4_; have NB181_182 := n5_; have NB182_181 := n6_; clear n0_ n1_ n2_ n3_ n4_ n5_ n6_; clear hb hbox hg))
      (try simp only [Act.put, List.setIfInBounds_toArray, List.set_cons_zero, List.set_cons_succ])
      go_cut [] (fun wc => ∃ (kq : Nat) (x182000_5 : Bool) (x182001_5 : ByteArray), Aside0 (spec_CompareNumbers.j2 kq l0 l1 x5_1 x182000_5 x182001_5 false (⟨#[]⟩ : ByteArray) = some r) ∧ Aside0 (kq ≤ kj2) ∧ Aside0 (wc.heap[gb181]? = some (.cells #[.bool x182000_5, .string x182001_5] 23 (0, 0))) ∧ Aside0 (wc.heap[gb182]? = some (.cells #[.bool false, .string (⟨#[]⟩ : ByteArray)] 23 (0, 0))) ∧ Aside0 (Below w.heap.size w wc))
      case first =>
       have H := HC6.out
       clear HC6
       by_cases c9 : x5_1 < (l0.length : Int)
       ·rw [if_pos c9] at H
        have c9b0 : decide (x5_1 < (l0.length : Int)) = true := decide_eq_true c9
        clear c9
        (first | rw [c9b0] | (simp only [i64_w, i32_w]; rw [c9b0]) | skip)
        by_cases c10 : 0 ≤ x5_1
        ·rw [if_pos c10] at H
         have c10b0 : decide (0 ≤ x5_1) = true := decide_eq_true c10
         clear c10
         have H' := Aside0.mk H
         clear H
         have p183 : 0 ≤ (x5_1 : Int) := of_decide_eq_true (by first | (with_reducible assumption) | assumption)
         have q183 : x5_1 < (l0.length : Int) := of_decide_eq_true (by first | (with_reducible assumption) | assumption)
         obtain ⟨ad183, e183, hx183_0, hx183_1⟩ := at_T23 HR0.out x5_1 p183 q183
         cases e183
         replace hx183_0 := (HB.out.cell (World.block_lt_of_cell? w _ hx183_0)).trans hx183_0
         replace hx183_1 := (HB.out.cell (World.block_lt_of_cell? w _ hx183_1)).trans hx183_1
         replace p183 := eq_true p183
         replace q183 := eq_true q183
         have hnb11 := NB181_182.out
         have hnc11 := NB182_181.out
         have hcz12_0 : w8.cell? ⟨gb181, 0, none⟩ = some (.bool false) := (blk_cell BK181.out 0).trans rfl
         have hcz12_1 : w8.cell? ⟨gb181, 1, none⟩ = some (.string (⟨#[]⟩ : ByteArray)) := (blk_cell BK181.out 1).trans rfl
         have hfz12_0 := blk_frozen BK181.out 0
         have hfz12_1 := blk_frozen BK181.out 1
         go_wp2
         go_meet
         case rel => exact ⟨_, ((rd_T23 l0 x5_1).f0), ((rd_T23 l0 x5_1).f1), H', ⟨by have := HK1.out; have := HJ2.out; first | omega | exact Nat.le_refl _⟩, ⟨by (with_reducible repeat (first | refine blk_drewN ?_ _ | refine blk_drew ?_ | refine blk_alloc ?_ _)); refine blk_put (cs := #[.bool ((rd_T23 l0 x5_1).f0), .string (⟨#[]⟩ : ByteArray)]) ?_ 1 _ rfl; (with_reducible repeat (first | refine blk_drewN ?_ _ | refine blk_drew ?_ | refine blk_alloc ?_ _)); refine blk_put (cs := #[.bool false, .string (⟨#[]⟩ : ByteArray)]) ?_ 0 _ rfl; (with_reducible repeat (first | refine blk_drewN ?_ _ | refine blk_drew ?_ | refine blk_alloc ?_ _)); exact BK181.out⟩, ⟨by (with_reducible repeat (first | refine blk_drewN ?_ _ | refine blk_drew ?_ | refine blk_alloc ?_ _)); refine blk_far ?_ NB182_181.out _; (with_reducible repeat (first | refine blk_drewN ?_ _ | refine blk_drew ?_ | refine blk_alloc ?_ _)); refine blk_far ?_ NB182_181.out _; (with_reducible repeat (first | refine blk_drewN ?_ _ | refine blk_drew ?_ | refine blk_alloc ?_ _)); exact BK182.out⟩, ⟨by repeat (first | (with_reducible first | exact HB.out | apply below_alloc | apply pw_below_drewN | apply below_drew1 | refine below_set ?_ GE181.out | refine below_set ?_ GE182.out) | exact HB.out)⟩⟩
        ·rw [if_neg c10] at H
         exact absurd H (by simp)
       ·rw [if_neg c9] at H
        have c9b0 : decide (x5_1 < (l0.length : Int)) = false := decide_eq_false c9
        clear c9
        (first | rw [c9b0] | (simp only [i64_w, i32_w]; rw [c9b0]) | skip)
        have H' := Aside0.mk H
        clear H
        go_wp2
        go_meet
        case rel => exact ⟨_, (false), ((⟨#[]⟩ : ByteArray)), H', ⟨by have := HK1.out; have := HJ2.out; first | omega | exact Nat.le_refl _⟩, ⟨by (with_reducible repeat (first | refine blk_drewN ?_ _ | refine blk_drew ?_ | refine blk_alloc ?_ _)); exact BK181.out⟩, ⟨by (with_reducible repeat (first | refine blk_drewN ?_ _ | refine blk_drew ?_ | refine blk_alloc ?_ _)); exact BK182.out⟩, ⟨by repeat (first | (with_reducible first | exact HB.out | apply below_alloc | apply pw_below_drewN | apply below_drew1 | refine below_set ?_ GE181.out | refine below_set ?_ GE182.out) | exact HB.out)⟩⟩
      case rest =>
       clear HC6
       try clear c1
       try clear p1
       try clear q1
       try clear hx1
       try clear c2
       try clear p2
       try clear c4
       try clear c4b0
       try clear c5
       try clear c9
       try clear c9b0
       try clear c10
       try clear c10b0
       try clear c11
       try clear hcz12_0
       try clear hcz12_1
       try clear hfz12_0
       try clear hfz12_1
       try clear hx183_0
       try clear hx183_1
       try clear p183
       try clear p2
       try clear q183
       obtain ⟨kq, x182000_5, x182001_5, HA, HJ5, BK181, BK182, HB⟩ := hcut
       cases kq with
       | zero => exact absurd HA.out (by simp [spec_CompareNumbers.j2])
       | succ kj5 =>
        have H := HA.out
        clear HA
        simp only [spec_CompareNumbers.j2] at H
        by_cases c13 : x5_1 < (l1.length : Int)
        ·rw [if_pos c13] at H
         have c13b0 : decide (x5_1 < (l1.length : Int)) = true := decide_eq_true c13
         clear c13
         by_cases c14 : 0 ≤ x5_1
         ·rw [if_pos c14] at H
          have c14b0 : decide (0 ≤ x5_1) = true := decide_eq_true c14
          clear c14
          replace H := Option.bind_eq_some_iff.mp H
          obtain ⟨t185, A150, H⟩ := H
          replace H : (if t185 = 0 then (spec_CompareNumbers.l0 kj5 l0 l1 (wrap64 (x5_1 + 1))) else (some t185)) = some r := H
          have A15 := Aside0.mk A150
          clear A150
          by_cases c16 : t185 = 0
          ·rw [if_pos c16] at H
           have c16b0 : (t185 == 0) = true := beq_iff_eq.mpr c16
           have c16b1 : (t185 != 0) = false := bne_eq_false_iff_eq.mpr c16
           clear c16
           have H' := Aside0.mk H
           clear H
           have p184 : 0 ≤ (x5_1 : Int) := of_decide_eq_true (by first | (with_reducible assumption) | assumption)
           have q184 : x5_1 < (l1.length : Int) := of_decide_eq_true (by first | (with_reducible assumption) | assumption)
           obtain ⟨ad184, e184, hx184_0, hx184_1⟩ := at_T23 HR1.out x5_1 p184 q184
           cases e184
           replace hx184_0 := (HB.out.cell (World.block_lt_of_cell? w _ hx184_0)).trans hx184_0
           replace hx184_1 := (HB.out.cell (World.block_lt_of_cell? w _ hx184_1)).trans hx184_1
           replace p184 := eq_true p184
           replace q184 := eq_true q184
           have hnb17 := NB182_181.out
           have hnc17 := NB181_182.out
           have hcz18_0 : wc.cell? ⟨gb182, 0, none⟩ = some (.bool false) := (blk_cell BK182.out 0).trans rfl
           have hcz18_1 : wc.cell? ⟨gb182, 1, none⟩ = some (.string (⟨#[]⟩ : ByteArray)) := (blk_cell BK182.out 1).trans rfl
           have hfz18_0 := blk_frozen BK182.out 0
           have hfz18_1 := blk_frozen BK182.out 1
           have hcz19_0 : wc.cell? ⟨gb181, 0, none⟩ = some (.bool x182000_5) := (blk_cell BK181.out 0).trans rfl
           have hcz19_1 : wc.cell? ⟨gb181, 1, none⟩ = some (.string x182001_5) := (blk_cell BK181.out 1).trans rfl
           have hfz19_0 := blk_frozen BK181.out 0
           have hfz19_1 := blk_frozen BK181.out 1
           go_wp2_with (first | ((with_reducible refine gate_callee (f := 21) rfl ?_); refine goesL_ (some 39) rfl rfl Tryz.func21 (by kernel_rfl) rfl #[.agg #[.bool x182000_5, .string x182001_5], .agg #[.bool ((rd_T23 l1 x5_1).f0), .string ((rd_T23 l1 x5_1).f1)]] rfl (by (try simp only [List.map_toArray, List.map_cons, List.map_nil]); first | done | rfl | (simp only [List.length_drop, List.length_take]; rfl)) ?_; (with_reducible refine (spec_intOrder.calls kj5 x182000_5 x182001_5 ((rd_T23 l1 x5_1).f0) ((rd_T23 l1 x5_1).f1) t185 _ A15.out).mono ?_); rintro e w20 ⟨rfl, hb⟩; refine ⟨_, rfl, ?_⟩; have n0_ := Aside0.mk (blk_below (g := gb181) (o := .cells #[.bool x182000_5, .string x182001_5] 23 (0, 0)) (by (with_reducible repeat (first | refine blk_drewN ?_ _ | refine blk_drew ?_ | refine blk_alloc ?_ _)); refine blk_far ?_ NB181_182.out _; (with_reducible repeat (first | refine blk_drewN ?_ _ | refine blk_drew ?_ | refine blk_alloc ?_ _)); refine blk_far ?_ NB181_182.out _; (with_reducible repeat (first | refine blk_drewN ?_ _ | refine blk_drew ?_ | refine blk_alloc ?_ _)); exact BK181.out) hb); have n1_ := Aside0.mk (blk_below (g := gb182) (o := .cells #[.bool ((rd_T23 l1 x5_1).f0), .string ((rd_T23 l1 x5_1).f1)] 23 (0, 0)) (by (with_reducible repeat (first | refine blk_drewN ?_ _ | refine blk_drew ?_ | refine blk_alloc ?_ _)); refine blk_put (cs := #[.bool ((rd_T23 l1 x5_1).f0), .string (⟨#[]⟩ : ByteArray)]) ?_ 1 _ rfl; (with_reducible repeat (first | refine blk_drewN ?_ _ | refine blk_drew ?_ | refine blk_alloc ?_ _)); refine blk_put (cs := #[.bool false, .string (⟨#[]⟩ : ByteArray)]) ?_ 0 _ rfl; (with_reducible repeat (first | refine blk_drewN ?_ _ | refine blk_drew ?_ | refine blk_alloc ?_ _)); exact BK182.out) hb); have n2_ := Aside0.mk (below_step (by repeat (first | (with_reducible first | exact HB.out | apply below_alloc | apply pw_below_drewN | apply below_drew1 | refine below_set ?_ GE181.out | refine below_set ?_ GE182.out) | exact HB.out)) hb); clear BK181; clear BK182; clear HB; have BK181 := n0_; have BK182 := n1_; have HB := n2_; clear n0_ n1_ n2_; (try clear hb); (try clear hb2); (try clear hk); (try clear hi)))
           go_roundg kj5
           case measure => have := HK1.out; have := HJ2.out; have := HJ5.out; omega
           case rel => exact ⟨(wrap64 (x5_1 + 1)), (by first | rfl | (simp; done) | (simp [*]; done)), H', ⟨by have := HK1.out; have := HJ2.out; have := HJ5.out; omega⟩, ⟨by repeat (first | (with_reducible first | exact HB.out | apply below_alloc | apply pw_below_drewN | apply below_drew1 | refine below_set ?_ GE181.out | refine below_set ?_ GE182.out) | exact HB.out)⟩⟩
          ·rw [if_neg c16] at H
           have c16b0 : (t185 == 0) = false := beq_eq_false_iff_ne.mpr c16
           have c16b1 : (t185 != 0) = true := bne_iff_ne.mpr c16
           obtain rfl := Option.some.inj H
           have p184 : 0 ≤ (x5_1 : Int) := of_decide_eq_true (by first | (with_reducible assumption) | assumption)
           have q184 : x5_1 < (l1.length : Int) := of_decide_eq_true (by first | (with_reducible assumption) | assumption)
           obtain ⟨ad184, e184, hx184_0, hx184_1⟩ := at_T23 HR1.out x5_1 p184 q184
           cases e184
           replace hx184_0 := (HB.out.cell (World.block_lt_of_cell? w _ hx184_0)).trans hx184_0
           replace hx184_1 := (HB.out.cell (World.block_lt_of_cell? w _ hx184_1)).trans hx184_1
           replace p184 := eq_true p184
           replace q184 := eq_true q184
           have hnb21 := NB182_181.out
           have hnc21 := NB181_182.out
           have hcz22_0 : wc.cell? ⟨gb182, 0, none⟩ = some (.bool false) := (blk_cell BK182.out 0).trans rfl
           have hcz22_1 : wc.cell? ⟨gb182, 1, none⟩ = some (.string (⟨#[]⟩ : ByteArray)) := (blk_cell BK182.out 1).trans rfl
           have hfz22_0 := blk_frozen BK182.out 0
           have hfz22_1 := blk_frozen BK182.out 1
           have hcz23_0 : wc.cell? ⟨gb181, 0, none⟩ = some (.bool x182000_5) := (blk_cell BK181.out 0).trans rfl
           have hcz23_1 : wc.cell? ⟨gb181, 1, none⟩ = some (.string x182001_5) := (blk_cell BK181.out 1).trans rfl
           have hfz23_0 := blk_frozen BK181.out 0
           have hfz23_1 := blk_frozen BK181.out 1
           go_wp2_with (first | ((with_reducible refine gate_callee (f := 21) rfl ?_); refine goesL_ (some 39) rfl rfl Tryz.func21 (by kernel_rfl) rfl #[.agg #[.bool x182000_5, .string x182001_5], .agg #[.bool ((rd_T23 l1 x5_1).f0), .string ((rd_T23 l1 x5_1).f1)]] rfl (by (try simp only [List.map_toArray, List.map_cons, List.map_nil]); first | done | rfl | (simp only [List.length_drop, List.length_take]; rfl)) ?_; (with_reducible refine (spec_intOrder.calls kj5 x182000_5 x182001_5 ((rd_T23 l1 x5_1).f0) ((rd_T23 l1 x5_1).f1) t185 _ A15.out).mono ?_); rintro e w24 ⟨rfl, hb⟩; refine ⟨_, rfl, ?_⟩; have n0_ := Aside0.mk (blk_below (g := gb181) (o := .cells #[.bool x182000_5, .string x182001_5] 23 (0, 0)) (by (with_reducible repeat (first | refine blk_drewN ?_ _ | refine blk_drew ?_ | refine blk_alloc ?_ _)); refine blk_far ?_ NB181_182.out _; (with_reducible repeat (first | refine blk_drewN ?_ _ | refine blk_drew ?_ | refine blk_alloc ?_ _)); refine blk_far ?_ NB181_182.out _; (with_reducible repeat (first | refine blk_drewN ?_ _ | refine blk_drew ?_ | refine blk_alloc ?_ _)); exact BK181.out) hb); have n1_ := Aside0.mk (blk_below (g := gb182) (o := .cells #[.bool ((rd_T23 l1 x5_1).f0), .string ((rd_T23 l1 x5_1).f1)] 23 (0, 0)) (by (with_reducible repeat (first | refine blk_drewN ?_ _ | refine blk_drew ?_ | refine blk_alloc ?_ _)); refine blk_put (cs := #[.bool ((rd_T23 l1 x5_1).f0), .string (⟨#[]⟩ : ByteArray)]) ?_ 1 _ rfl; (with_reducible repeat (first | refine blk_drewN ?_ _ | refine blk_drew ?_ | refine blk_alloc ?_ _)); refine blk_put (cs := #[.bool false, .string (⟨#[]⟩ : ByteArray)]) ?_ 0 _ rfl; (with_reducible repeat (first | refine blk_drewN ?_ _ | refine blk_drew ?_ | refine blk_alloc ?_ _)); exact BK182.out) hb); have n2_ := Aside0.mk (below_step (by repeat (first | (with_reducible first | exact HB.out | apply below_alloc | apply pw_below_drewN | apply below_drew1 | refine below_set ?_ GE181.out | refine below_set ?_ GE182.out) | exact HB.out)) hb); clear BK181; clear BK182; clear HB; have BK181 := n0_; have BK182 := n1_; have HB := n2_; clear n0_ n1_ n2_; (try clear hb); (try clear hb2); (try clear hk); (try clear hi)))
           go_ret
           exact ⟨by first | rfl | (simp [errW_none, errW_some] <;> rfl) | (simp [*, errW_none, errW_some] <;> rfl), by repeat (first | (with_reducible first | exact HB.out | apply below_alloc | apply pw_below_drewN | apply below_drew1 | refine below_set ?_ GE181.out | refine below_set ?_ GE182.out) | exact HB.out)⟩
         ·rw [if_neg c14] at H
          exact absurd H (by simp)
        ·rw [if_neg c13] at H
         have c13b0 : decide (x5_1 < (l1.length : Int)) = false := decide_eq_false c13
         clear c13
         replace H := Option.bind_eq_some_iff.mp H
         obtain ⟨t186, A250, H⟩ := H
         replace H : (if t186 = 0 then (spec_CompareNumbers.l0 kj5 l0 l1 (wrap64 (x5_1 + 1))) else (some t186)) = some r := H
         have A25 := Aside0.mk A250
         clear A250
         by_cases c26 : t186 = 0
         ·rw [if_pos c26] at H
          have c26b0 : (t186 == 0) = true := beq_iff_eq.mpr c26
          have c26b1 : (t186 != 0) = false := bne_eq_false_iff_eq.mpr c26
          clear c26
          have H' := Aside0.mk H
          clear H
          have hnb27 := NB181_182.out
          have hnc27 := NB182_181.out
          have hcz28_0 : wc.cell? ⟨gb181, 0, none⟩ = some (.bool x182000_5) := (blk_cell BK181.out 0).trans rfl
          have hcz28_1 : wc.cell? ⟨gb181, 1, none⟩ = some (.string x182001_5) := (blk_cell BK181.out 1).trans rfl
          have hfz28_0 := blk_frozen BK181.out 0
          have hfz28_1 := blk_frozen BK181.out 1
          have hcz29_0 : wc.cell? ⟨gb182, 0, none⟩ = some (.bool false) := (blk_cell BK182.out 0).trans rfl
          have hcz29_1 : wc.cell? ⟨gb182, 1, none⟩ = some (.string (⟨#[]⟩ : ByteArray)) := (blk_cell BK182.out 1).trans rfl
          have hfz29_0 := blk_frozen BK182.out 0
          have hfz29_1 := blk_frozen BK182.out 1
          go_wp2_with (first | ((with_reducible refine gate_callee (f := 21) rfl ?_); refine goesL_ (some 39) rfl rfl Tryz.func21 (by kernel_rfl) rfl #[.agg #[.bool x182000_5, .string x182001_5], .agg #[.bool false, .string (⟨#[]⟩ : ByteArray)]] rfl (by (try simp only [List.map_toArray, List.map_cons, List.map_nil]); first | done | rfl | (simp only [List.length_drop, List.length_take]; rfl)) ?_; (with_reducible refine (spec_intOrder.calls kj5 x182000_5 x182001_5 false (⟨#[]⟩ : ByteArray) t186 _ A25.out).mono ?_); rintro e w30 ⟨rfl, hb⟩; refine ⟨_, rfl, ?_⟩; have n0_ := Aside0.mk (blk_below (g := gb181) (o := .cells #[.bool x182000_5, .string x182001_5] 23 (0, 0)) (by (with_reducible repeat (first | refine blk_drewN ?_ _ | refine blk_drew ?_ | refine blk_alloc ?_ _)); exact BK181.out) hb); have n1_ := Aside0.mk (blk_below (g := gb182) (o := .cells #[.bool false, .string (⟨#[]⟩ : ByteArray)] 23 (0, 0)) (by (with_reducible repeat (first | refine blk_drewN ?_ _ | refine blk_drew ?_ | refine blk_alloc ?_ _)); exact BK182.out) hb); have n2_ := Aside0.mk (below_step (by repeat (first | (with_reducible first | exact HB.out | apply below_alloc | apply pw_below_drewN | apply below_drew1 | refine below_set ?_ GE181.out | refine below_set ?_ GE182.out) | exact HB.out)) hb); clear BK181; clear BK182; clear HB; have BK181 := n0_; have BK182 := n1_; have HB := n2_; clear n0_ n1_ n2_; (try clear hb); (try clear hb2); (try clear hk); (try clear hi)))
          go_roundg kj5
          case measure => have := HK1.out; have := HJ2.out; have := HJ5.out; omega
          case rel => exact ⟨(wrap64 (x5_1 + 1)), (by first | rfl | (simp; done) | (simp [*]; done)), H', ⟨by have := HK1.out; have := HJ2.out; have := HJ5.out; omega⟩, ⟨by repeat (first | (with_reducible first | exact HB.out | apply below_alloc | apply pw_below_drewN | apply below_drew1 | refine below_set ?_ GE181.out | refine below_set ?_ GE182.out) | exact HB.out)⟩⟩
         ·rw [if_neg c26] at H
          have c26b0 : (t186 == 0) = false := beq_eq_false_iff_ne.mpr c26
          have c26b1 : (t186 != 0) = true := bne_iff_ne.mpr c26
          obtain rfl := Option.some.inj H
          have hnb31 := NB181_182.out
          have hnc31 := NB182_181.out
          have hcz32_0 : wc.cell? ⟨gb181, 0, none⟩ = some (.bool x182000_5) := (blk_cell BK181.out 0).trans rfl
          have hcz32_1 : wc.cell? ⟨gb181, 1, none⟩ = some (.string x182001_5) := (blk_cell BK181.out 1).trans rfl
          have hfz32_0 := blk_frozen BK181.out 0
          have hfz32_1 := blk_frozen BK181.out 1
          have hcz33_0 : wc.cell? ⟨gb182, 0, none⟩ = some (.bool false) := (blk_cell BK182.out 0).trans rfl
          have hcz33_1 : wc.cell? ⟨gb182, 1, none⟩ = some (.string (⟨#[]⟩ : ByteArray)) := (blk_cell BK182.out 1).trans rfl
          have hfz33_0 := blk_frozen BK182.out 0
          have hfz33_1 := blk_frozen BK182.out 1
          go_wp2_with (first | ((with_reducible refine gate_callee (f := 21) rfl ?_); refine goesL_ (some 39) rfl rfl Tryz.func21 (by kernel_rfl) rfl #[.agg #[.bool x182000_5, .string x182001_5], .agg #[.bool false, .string (⟨#[]⟩ : ByteArray)]] rfl (by (try simp only [List.map_toArray, List.map_cons, List.map_nil]); first | done | rfl | (simp only [List.length_drop, List.length_take]; rfl)) ?_; (with_reducible refine (spec_intOrder.calls kj5 x182000_5 x182001_5 false (⟨#[]⟩ : ByteArray) t186 _ A25.out).mono ?_); rintro e w34 ⟨rfl, hb⟩; refine ⟨_, rfl, ?_⟩; have n0_ := Aside0.mk (blk_below (g := gb181) (o := .cells #[.bool x182000_5, .string x182001_5] 23 (0, 0)) (by (with_reducible repeat (first | refine blk_drewN ?_ _ | refine blk_drew ?_ | refine blk_alloc ?_ _)); exact BK181.out) hb); have n1_ := Aside0.mk (blk_below (g := gb182) (o := .cells #[.bool false, .string (⟨#[]⟩ : ByteArray)] 23 (0, 0)) (by (with_reducible repeat (first | refine blk_drewN ?_ _ | refine blk_drew ?_ | refine blk_alloc ?_ _)); exact BK182.out) hb); have n2_ := Aside0.mk (below_step (by repeat (first | (with_reducible first | exact HB.out | apply below_alloc | apply pw_below_drewN | apply below_drew1 | refine below_set ?_ GE181.out | refine below_set ?_ GE182.out) | exact HB.out)) hb); clear BK181; clear BK182; clear HB; have BK181 := n0_; have BK182 := n1_; have HB := n2_; clear n0_ n1_ n2_; (try clear hb); (try clear hb2); (try clear hk); (try clear hi)))
          go_ret
          exact ⟨by first | rfl | (simp [errW_none, errW_some] <;> rfl) | (simp [*, errW_none, errW_some] <;> rfl), by repeat (first | (with_reducible first | exact HB.out | apply below_alloc | apply pw_below_drewN | apply below_drew1 | refine below_set ?_ GE181.out | refine below_set ?_ GE182.out) | exact HB.out)⟩
     ·replace c5 := Bool.eq_false_iff.mpr c5
      subst c5
      have H1 : (some 0) = some r := by rw [if_neg (show ¬ (false = true) by decide)] at H; exact H
      clear H
      have H := H1
      clear H1
      obtain rfl := Option.some.inj H
      go_wp2
      go_ret
      exact ⟨by first | rfl | (simp [errW_none, errW_some] <;> rfl) | (simp [*, errW_none, errW_some] <;> rfl), by repeat (first | (with_reducible first | exact HB.out | apply below_alloc | apply pw_below_drewN | apply below_drew1) | exact HB.out)⟩

/-! ### spec_pypiPlace: function 41 -/
def spec_pypiPlace.f (a0_0 : Bool) (a0_1 : ByteArray) (l0_2 : List (S23)) (a0_3 : Bool) (a0_4 : ByteArray) (a0_5 : Bool) (a0_6 : ByteArray) (a0_7 : Bool) (a0_8 : ByteArray) (a0_9 : Bool) (a0_10 : ByteArray) (a0_11 : Bool) (a0_12 : ByteArray) (a0_13 : Bool) (a0_14 : ByteArray) (l0_15 : List ByteArray) (l0_16 : List ByteArray) : Option (Int) := if a0_3 = true then (some 0) else (if a0_7 = true then (some 1) else (if a0_11 = true then (some (-1)) else (some 1)))
set_option maxHeartbeats 8000000 in
set_option maxRecDepth 100000 in
theorem spec_pypiPlace.calls (a0_0 : Bool) (a0_1 : ByteArray) (A0_2 : Option Addr) (c0_2 : Nat) (l0_2 : List (S23)) (a0_3 : Bool) (a0_4 : ByteArray) (a0_5 : Bool) (a0_6 : ByteArray) (a0_7 : Bool) (a0_8 : ByteArray) (a0_9 : Bool) (a0_10 : ByteArray) (a0_11 : Bool) (a0_12 : ByteArray) (a0_13 : Bool) (a0_14 : ByteArray) (A0_15 : Option Addr) (c0_15 : Nat) (l0_15 : List ByteArray) (A0_16 : Option Addr) (c0_16 : Nat) (l0_16 : List ByteArray) (r : Int) (w : World) (hr0_2 : Kd.C k23 w A0_2 l0_2.length l0_2) (hc0_2 : l0_2.length ≤ c0_2) (hr0_15 : Kd.C Kd.string w A0_15 l0_15.length l0_15) (hc0_15 : l0_15.length ≤ c0_15) (hr0_16 : Kd.C Kd.string w A0_16 l0_16.length l0_16) (hc0_16 : l0_16.length ≤ c0_16) (h : spec_pypiPlace.f a0_0 a0_1 l0_2 a0_3 a0_4 a0_5 a0_6 a0_7 a0_8 a0_9 a0_10 a0_11 a0_12 a0_13 a0_14 l0_15 l0_16 = some r) :
  Calls Tryz.prog 41 #[.agg #[.bool a0_0, .string a0_1, .slice A0_2 l0_2.length c0_2, .bool a0_3, .string a0_4, .bool a0_5, .string a0_6, .bool a0_7, .string a0_8, .bool a0_9, .string a0_10, .bool a0_11, .string a0_12, .bool a0_13, .string a0_14, .slice A0_15 l0_15.length c0_15, .slice A0_16 l0_16.length c0_16]] w fun e w' => e = .returned (.int .i64 r) ∧ Below w.heap.size w w' := by
 have hu29 := Tryz.underlying29
 have HR0_2 := Aside0.mk hr0_2
 have HC0_2 := Aside0.mk hc0_2
 clear hr0_2 hc0_2
 have HR0_15 := Aside0.mk hr0_15
 have HC0_15 := Aside0.mk hc0_15
 clear hr0_15 hc0_15
 have HR0_16 := Aside0.mk hr0_16
 have HC0_16 := Aside0.mk hc0_16
 clear hr0_16 hc0_16
 have HB := Aside0.mk (Below.refl w.heap.size w)
 have H : (if a0_3 = true then (some 0) else (if a0_7 = true then (some 1) else (if a0_11 = true then (some (-1)) else (some 1)))) = some r := h
 clear h
 by_cases c2 : a0_3 = true
 ·subst c2
  have H1 : (some 0) = some r := by rw [if_pos rfl] at H; exact H
  clear H
  have H := H1
  clear H1
  obtain rfl := Option.some.inj H
  go_enter Tryz.func41, Tryz.ntmps41
  go_wp2_with (first | ((with_reducible refine gate_dst (N := 1) rfl ?_); refine box_event ?hg (N := 1) ?hd (cs := #[.bool a0_0, .string a0_1, .slice A0_2 l0_2.length c0_2, .bool true, .string a0_4, .bool a0_5, .string a0_6, .bool a0_7, .string a0_8, .bool a0_9, .string a0_10, .bool a0_11, .string a0_12, .bool a0_13, .string a0_14, .slice A0_15 l0_15.length c0_15, .slice A0_16 l0_16.length c0_16]) (t := 29) ?hr ?_; (case hd => rfl); (case hg => rfl); (case hr => first | (go_simp; done) | (go_simp; rfl)); intro gb187 hg w3 hbox hb; have n0_ := Aside0.mk (below_step (by repeat (first | (with_reducible first | exact HB.out | apply below_alloc | apply pw_below_drewN | apply below_drew1) | exact HB.out)) hb); have n1_ := Aside0.mk (hbox); have n2_ := Aside0.mk ((by rw [hg]; exact (below_size (by repeat (first | (with_reducible first | exact HB.out | apply below_alloc | apply pw_below_drewN | apply below_drew1) | exact HB.out))) : w.heap.size ≤ gb187)); have n3_ := Aside0.mk ((by rw [hg]; exact (below_size (by repeat (first | (with_reducible first | exact HB.out | apply below_alloc | apply pw_below_drewN | apply below_drew1) | exact HB.out))) : w.heap.size ≤ gb187)); clear HB; have HB := n0_; have BK187 := n1_; have GW187 := n2_; have GE187 := n3_; clear n0_ n1_ n2_ n3_; clear hb hbox hg; have hcz4_0 : w3.cell? ⟨gb187, 0, none⟩ = some (.bool a0_0) := (blk_cell BK187.out 0).trans rfl; have hcz4_1 : w3.cell? ⟨gb187, 1, none⟩ = some (.string a0_1) := (blk_cell BK187.out 1).trans rfl; have hcz4_2 : w3.cell? ⟨gb187, 2, none⟩ = some (.slice A0_2 l0_2.length c0_2) := (blk_cell BK187.out 2).trans rfl; have hcz4_3 : w3.cell? ⟨gb187, 3, none⟩ = some (.bool true) := (blk_cell BK187.out 3).trans rfl; have hcz4_4 : w3.cell? ⟨gb187, 4, none⟩ = some (.string a0_4) := (blk_cell BK187.out 4).trans rfl; have hcz4_5 : w3.cell? ⟨gb187, 5, none⟩ = some (.bool a0_5) := (blk_cell BK187.out 5).trans rfl; have hcz4_6 : w3.cell? ⟨gb187, 6, none⟩ = some (.string a0_6) := (blk_cell BK187.out 6).trans rfl; have hcz4_7 : w3.cell? ⟨gb187, 7, none⟩ = some (.bool a0_7) := (blk_cell BK187.out 7).trans rfl; have hcz4_8 : w3.cell? ⟨gb187, 8, none⟩ = some (.string a0_8) := (blk_cell BK187.out 8).trans rfl; have hcz4_9 : w3.cell? ⟨gb187, 9, none⟩ = some (.bool a0_9) := (blk_cell BK187.out 9).trans rfl; have hcz4_10 : w3.cell? ⟨gb187, 10, none⟩ = some (.string a0_10) := (blk_cell BK187.out 10).trans rfl; have hcz4_11 : w3.cell? ⟨gb187, 11, none⟩ = some (.bool a0_11) := (blk_cell BK187.out 11).trans rfl; have hcz4_12 : w3.cell? ⟨gb187, 12, none⟩ = some (.string a0_12) := (blk_cell BK187.out 12).trans rfl; have hcz4_13 : w3.cell? ⟨gb187, 13, none⟩ = some (.bool a0_13) := (blk_cell BK187.out 13).trans rfl; have hcz4_14 : w3.cell? ⟨gb187, 14, none⟩ = some (.string a0_14) := (blk_cell BK187.out 14).trans rfl; have hcz4_15 : w3.cell? ⟨gb187, 15, none⟩ = some (.slice A0_15 l0_15.length c0_15) := (blk_cell BK187.out 15).trans rfl; have hcz4_16 : w3.cell? ⟨gb187, 16, none⟩ = some (.slice A0_16 l0_16.length c0_16) := (blk_cell BK187.out 16).trans rfl; have hfz4_0 := blk_frozen BK187.out 0; have hfz4_1 := blk_frozen BK187.out 1; have hfz4_2 := blk_frozen BK187.out 2; have hfz4_3 := blk_frozen BK187.out 3; have hfz4_4 := blk_frozen BK187.out 4; have hfz4_5 := blk_frozen BK187.out 5; have hfz4_6 := blk_frozen BK187.out 6; have hfz4_7 := blk_frozen BK187.out 7; have hfz4_8 := blk_frozen BK187.out 8; have hfz4_9 := blk_frozen BK187.out 9; have hfz4_10 := blk_frozen BK187.out 10; have hfz4_11 := blk_frozen BK187.out 11; have hfz4_12 := blk_frozen BK187.out 12; have hfz4_13 := blk_frozen BK187.out 13; have hfz4_14 := blk_frozen BK187.out 14; have hfz4_15 := blk_frozen BK187.out 15; have hfz4_16 := blk_frozen BK187.out 16))
  go_ret
  exact ⟨by first | rfl | (simp [errW_none, errW_some] <;> rfl) | (simp [*, errW_none, errW_some] <;> rfl), by repeat (first | (with_reducible first | exact HB.out | apply below_alloc | apply pw_below_drewN | apply below_drew1 | refine below_set ?_ GE187.out) | exact HB.out)⟩
 ·replace c2 := Bool.eq_false_iff.mpr c2
  subst c2
  have H1 : (if a0_7 = true then (some 1) else (if a0_11 = true then (some (-1)) else (some 1))) = some r := by rw [if_neg (show ¬ (false = true) by decide)] at H; exact H
  clear H
  have H := H1
  clear H1
  by_cases c5 : a0_7 = true
  ·subst c5
   have H1 : (some 1) = some r := by rw [if_pos rfl] at H; exact H
   clear H
   have H := H1
   clear H1
   obtain rfl := Option.some.inj H
   go_enter Tryz.func41, Tryz.ntmps41
   go_wp2_with (first | ((with_reducible refine gate_dst (N := 1) rfl ?_); refine box_event ?hg (N := 1) ?hd (cs := #[.bool a0_0, .string a0_1, .slice A0_2 l0_2.length c0_2, .bool false, .string a0_4, .bool a0_5, .string a0_6, .bool true, .string a0_8, .bool a0_9, .string a0_10, .bool a0_11, .string a0_12, .bool a0_13, .string a0_14, .slice A0_15 l0_15.length c0_15, .slice A0_16 l0_16.length c0_16]) (t := 29) ?hr ?_; (case hd => rfl); (case hg => rfl); (case hr => first | (go_simp; done) | (go_simp; rfl)); intro gb187 hg w6 hbox hb; have n0_ := Aside0.mk (below_step (by repeat (first | (with_reducible first | exact HB.out | apply below_alloc | apply pw_below_drewN | apply below_drew1) | exact HB.out)) hb); have n1_ := Aside0.mk (hbox); have n2_ := Aside0.mk ((by rw [hg]; exact (below_size (by repeat (first | (with_reducible first | exact HB.out | apply below_alloc | apply pw_below_drewN | apply below_drew1) | exact HB.out))) : w.heap.size ≤ gb187)); have n3_ := Aside0.mk ((by rw [hg]; exact (below_size (by repeat (first | (with_reducible first | exact HB.out | apply below_alloc | apply pw_below_drewN | apply below_drew1) | exact HB.out))) : w.heap.size ≤ gb187)); clear HB; have HB := n0_; have BK187 := n1_; have GW187 := n2_; have GE187 := n3_; clear n0_ n1_ n2_ n3_; clear hb hbox hg; have hcz7_0 : w6.cell? ⟨gb187, 0, none⟩ = some (.bool a0_0) := (blk_cell BK187.out 0).trans rfl; have hcz7_1 : w6.cell? ⟨gb187, 1, none⟩ = some (.string a0_1) := (blk_cell BK187.out 1).trans rfl; have hcz7_2 : w6.cell? ⟨gb187, 2, none⟩ = some (.slice A0_2 l0_2.length c0_2) := (blk_cell BK187.out 2).trans rfl; have hcz7_3 : w6.cell? ⟨gb187, 3, none⟩ = some (.bool false) := (blk_cell BK187.out 3).trans rfl; have hcz7_4 : w6.cell? ⟨gb187, 4, none⟩ = some (.string a0_4) := (blk_cell BK187.out 4).trans rfl; have hcz7_5 : w6.cell? ⟨gb187, 5, none⟩ = some (.bool a0_5) := (blk_cell BK187.out 5).trans rfl; have hcz7_6 : w6.cell? ⟨gb187, 6, none⟩ = some (.string a0_6) := (blk_cell BK187.out 6).trans rfl; have hcz7_7 : w6.cell? ⟨gb187, 7, none⟩ = some (.bool true) := (blk_cell BK187.out 7).trans rfl; have hcz7_8 : w6.cell? ⟨gb187, 8, none⟩ = some (.string a0_8) := (blk_cell BK187.out 8).trans rfl; have hcz7_9 : w6.cell? ⟨gb187, 9, none⟩ = some (.bool a0_9) := (blk_cell BK187.out 9).trans rfl; have hcz7_10 : w6.cell? ⟨gb187, 10, none⟩ = some (.string a0_10) := (blk_cell BK187.out 10).trans rfl; have hcz7_11 : w6.cell? ⟨gb187, 11, none⟩ = some (.bool a0_11) := (blk_cell BK187.out 11).trans rfl; have hcz7_12 : w6.cell? ⟨gb187, 12, none⟩ = some (.string a0_12) := (blk_cell BK187.out 12).trans rfl; have hcz7_13 : w6.cell? ⟨gb187, 13, none⟩ = some (.bool a0_13) := (blk_cell BK187.out 13).trans rfl; have hcz7_14 : w6.cell? ⟨gb187, 14, none⟩ = some (.string a0_14) := (blk_cell BK187.out 14).trans rfl; have hcz7_15 : w6.cell? ⟨gb187, 15, none⟩ = some (.slice A0_15 l0_15.length c0_15) := (blk_cell BK187.out 15).trans rfl; have hcz7_16 : w6.cell? ⟨gb187, 16, none⟩ = some (.slice A0_16 l0_16.length c0_16) := (blk_cell BK187.out 16).trans rfl; have hfz7_0 := blk_frozen BK187.out 0; have hfz7_1 := blk_frozen BK187.out 1; have hfz7_2 := blk_frozen BK187.out 2; have hfz7_3 := blk_frozen BK187.out 3; have hfz7_4 := blk_frozen BK187.out 4; have hfz7_5 := blk_frozen BK187.out 5; have hfz7_6 := blk_frozen BK187.out 6; have hfz7_7 := blk_frozen BK187.out 7; have hfz7_8 := blk_frozen BK187.out 8; have hfz7_9 := blk_frozen BK187.out 9; have hfz7_10 := blk_frozen BK187.out 10; have hfz7_11 := blk_frozen BK187.out 11; have hfz7_12 := blk_frozen BK187.out 12; have hfz7_13 := blk_frozen BK187.out 13; have hfz7_14 := blk_frozen BK187.out 14; have hfz7_15 := blk_frozen BK187.out 15; have hfz7_16 := blk_frozen BK187.out 16))
   go_ret
   exact ⟨by first | rfl | (simp [errW_none, errW_some] <;> rfl) | (simp [*, errW_none, errW_some] <;> rfl), by repeat (first | (with_reducible first | exact HB.out | apply below_alloc | apply pw_below_drewN | apply below_drew1 | refine below_set ?_ GE187.out) | exact HB.out)⟩
  ·replace c5 := Bool.eq_false_iff.mpr c5
   subst c5
   have H1 : (if a0_11 = true then (some (-1)) else (some 1)) = some r := by rw [if_neg (show ¬ (false = true) by decide)] at H; exact H
   clear H
   have H := H1
   clear H1
   by_cases c8 : a0_11 = true
   ·subst c8
    have H1 : (some (-1)) = some r := by rw [if_pos rfl] at H; exact H
    clear H
    have H := H1
    clear H1
    obtain rfl := Option.some.inj H
    go_enter Tryz.func41, Tryz.ntmps41
    go_wp2_with (first | ((with_reducible refine gate_dst (N := 1) rfl ?_); refine box_event ?hg (N := 1) ?hd (cs := #[.bool a0_0, .string a0_1, .slice A0_2 l0_2.length c0_2, .bool false, .string a0_4, .bool a0_5, .string a0_6, .bool false, .string a0_8, .bool a0_9, .string a0_10, .bool true, .string a0_12, .bool a0_13, .string a0_14, .slice A0_15 l0_15.length c0_15, .slice A0_16 l0_16.length c0_16]) (t := 29) ?hr ?_; (case hd => rfl); (case hg => rfl); (case hr => first | (go_simp; done) | (go_simp; rfl)); intro gb187 hg w9 hbox hb; have n0_ := Aside0.mk (below_step (by repeat (first | (with_reducible first | exact HB.out | apply below_alloc | apply pw_below_drewN | apply below_drew1) | exact HB.out)) hb); have n1_ := Aside0.mk (hbox); have n2_ := Aside0.mk ((by rw [hg]; exact (below_size (by repeat (first | (with_reducible first | exact HB.out | apply below_alloc | apply pw_below_drewN | apply below_drew1) | exact HB.out))) : w.heap.size ≤ gb187)); have n3_ := Aside0.mk ((by rw [hg]; exact (below_size (by repeat (first | (with_reducible first | exact HB.out | apply below_alloc | apply pw_below_drewN | apply below_drew1) | exact HB.out))) : w.heap.size ≤ gb187)); clear HB; have HB := n0_; have BK187 := n1_; have GW187 := n2_; have GE187 := n3_; clear n0_ n1_ n2_ n3_; clear hb hbox hg; have hcz10_0 : w9.cell? ⟨gb187, 0, none⟩ = some (.bool a0_0) := (blk_cell BK187.out 0).trans rfl; have hcz10_1 : w9.cell? ⟨gb187, 1, none⟩ = some (.string a0_1) := (blk_cell BK187.out 1).trans rfl; have hcz10_2 : w9.cell? ⟨gb187, 2, none⟩ = some (.slice A0_2 l0_2.length c0_2) := (blk_cell BK187.out 2).trans rfl; have hcz10_3 : w9.cell? ⟨gb187, 3, none⟩ = some (.bool false) := (blk_cell BK187.out 3).trans rfl; have hcz10_4 : w9.cell? ⟨gb187, 4, none⟩ = some (.string a0_4) := (blk_cell BK187.out 4).trans rfl; have hcz10_5 : w9.cell? ⟨gb187, 5, none⟩ = some (.bool a0_5) := (blk_cell BK187.out 5).trans rfl; have hcz10_6 : w9.cell? ⟨gb187, 6, none⟩ = some (.string a0_6) := (blk_cell BK187.out 6).trans rfl; have hcz10_7 : w9.cell? ⟨gb187, 7, none⟩ = some (.bool false) := (blk_cell BK187.out 7).trans rfl; have hcz10_8 : w9.cell? ⟨gb187, 8, none⟩ = some (.string a0_8) := (blk_cell BK187.out 8).trans rfl; have hcz10_9 : w9.cell? ⟨gb187, 9, none⟩ = some (.bool a0_9) := (blk_cell BK187.out 9).trans rfl; have hcz10_10 : w9.cell? ⟨gb187, 10, none⟩ = some (.string a0_10) := (blk_cell BK187.out 10).trans rfl; have hcz10_11 : w9.cell? ⟨gb187, 11, none⟩ = some (.bool true) := (blk_cell BK187.out 11).trans rfl; have hcz10_12 : w9.cell? ⟨gb187, 12, none⟩ = some (.string a0_12) := (blk_cell BK187.out 12).trans rfl; have hcz10_13 : w9.cell? ⟨gb187, 13, none⟩ = some (.bool a0_13) := (blk_cell BK187.out 13).trans rfl; have hcz10_14 : w9.cell? ⟨gb187, 14, none⟩ = some (.string a0_14) := (blk_cell BK187.out 14).trans rfl; have hcz10_15 : w9.cell? ⟨gb187, 15, none⟩ = some (.slice A0_15 l0_15.length c0_15) := (blk_cell BK187.out 15).trans rfl; have hcz10_16 : w9.cell? ⟨gb187, 16, none⟩ = some (.slice A0_16 l0_16.length c0_16) := (blk_cell BK187.out 16).trans rfl; have hfz10_0 := blk_frozen BK187.out 0; have hfz10_1 := blk_frozen BK187.out 1; have hfz10_2 := blk_frozen BK187.out 2; have hfz10_3 := blk_frozen BK187.out 3; have hfz10_4 := blk_frozen BK187.out 4; have hfz10_5 := blk_frozen BK187.out 5; have hfz10_6 := blk_frozen BK187.out 6; have hfz10_7 := blk_frozen BK187.out 7; have hfz10_8 := blk_frozen BK187.out 8; have hfz10_9 := blk_frozen BK187.out 9; have hfz10_10 := blk_frozen BK187.out 10; have hfz10_11 := blk_frozen BK187.out 11; have hfz10_12 := blk_frozen BK187.out 12; have hfz10_13 := blk_frozen BK187.out 13; have hfz10_14 := blk_frozen BK187.out 14; have hfz10_15 := blk_frozen BK187.out 15; have hfz10_16 := blk_frozen BK187.out 16))
    go_ret
    exact ⟨by first | rfl | (simp [errW_none, errW_some] <;> rfl) | (simp [*, errW_none, errW_some] <;> rfl), by repeat (first | (with_reducible first | exact HB.out | apply below_alloc | apply pw_below_drewN | apply below_drew1 | refine below_set ?_ GE187.out) | exact HB.out)⟩
   ·replace c8 := Bool.eq_false_iff.mpr c8
    subst c8
    have H1 : (some 1) = some r := by rw [if_neg (show ¬ (false = true) by decide)] at H; exact H
    clear H
    have H := H1
    clear H1
    obtain rfl := Option.some.inj H
    go_enter Tryz.func41, Tryz.ntmps41
    go_wp2_with (first | ((with_reducible refine gate_dst (N := 1) rfl ?_); refine box_event ?hg (N := 1) ?hd (cs := #[.bool a0_0, .string a0_1, .slice A0_2 l0_2.length c0_2, .bool false, .string a0_4, .bool a0_5, .string a0_6, .bool false, .string a0_8, .bool a0_9, .string a0_10, .bool false, .string a0_12, .bool a0_13, .string a0_14, .slice A0_15 l0_15.length c0_15, .slice A0_16 l0_16.length c0_16]) (t := 29) ?hr ?_; (case hd => rfl); (case hg => rfl); (case hr => first | (go_simp; done) | (go_simp; rfl)); intro gb187 hg w11 hbox hb; have n0_ := Aside0.mk (below_step (by repeat (first | (with_reducible first | exact HB.out | apply below_alloc | apply pw_below_drewN | apply below_drew1) | exact HB.out)) hb); have n1_ := Aside0.mk (hbox); have n2_ := Aside0.mk ((by rw [hg]; exact (below_size (by repeat (first | (with_reducible first | exact HB.out | apply below_alloc | apply pw_below_drewN | apply below_drew1) | exact HB.out))) : w.heap.size ≤ gb187)); have n3_ := Aside0.mk ((by rw [hg]; exact (below_size (by repeat (first | (with_reducible first | exact HB.out | apply below_alloc | apply pw_below_drewN | apply below_drew1) | exact HB.out))) : w.heap.size ≤ gb187)); clear HB; have HB := n0_; have BK187 := n1_; have GW187 := n2_; have GE187 := n3_; clear n0_ n1_ n2_ n3_; clear hb hbox hg; have hcz12_0 : w11.cell? ⟨gb187, 0, none⟩ = some (.bool a0_0) := (blk_cell BK187.out 0).trans rfl; have hcz12_1 : w11.cell? ⟨gb187, 1, none⟩ = some (.string a0_1) := (blk_cell BK187.out 1).trans rfl; have hcz12_2 : w11.cell? ⟨gb187, 2, none⟩ = some (.slice A0_2 l0_2.length c0_2) := (blk_cell BK187.out 2).trans rfl; have hcz12_3 : w11.cell? ⟨gb187, 3, none⟩ = some (.bool false) := (blk_cell BK187.out 3).trans rfl; have hcz12_4 : w11.cell? ⟨gb187, 4, none⟩ = some (.string a0_4) := (blk_cell BK187.out 4).trans rfl; have hcz12_5 : w11.cell? ⟨gb187, 5, none⟩ = some (.bool a0_5) := (blk_cell BK187.out 5).trans rfl; have hcz12_6 : w11.cell? ⟨gb187, 6, none⟩ = some (.string a0_6) := (blk_cell BK187.out 6).trans rfl; have hcz12_7 : w11.cell? ⟨gb187, 7, none⟩ = some (.bool false) := (blk_cell BK187.out 7).trans rfl; have hcz12_8 : w11.cell? ⟨gb187, 8, none⟩ = some (.string a0_8) := (blk_cell BK187.out 8).trans rfl; have hcz12_9 : w11.cell? ⟨gb187, 9, none⟩ = some (.bool a0_9) := (blk_cell BK187.out 9).trans rfl; have hcz12_10 : w11.cell? ⟨gb187, 10, none⟩ = some (.string a0_10) := (blk_cell BK187.out 10).trans rfl; have hcz12_11 : w11.cell? ⟨gb187, 11, none⟩ = some (.bool false) := (blk_cell BK187.out 11).trans rfl; have hcz12_12 : w11.cell? ⟨gb187, 12, none⟩ = some (.string a0_12) := (blk_cell BK187.out 12).trans rfl; have hcz12_13 : w11.cell? ⟨gb187, 13, none⟩ = some (.bool a0_13) := (blk_cell BK187.out 13).trans rfl; have hcz12_14 : w11.cell? ⟨gb187, 14, none⟩ = some (.string a0_14) := (blk_cell BK187.out 14).trans rfl; have hcz12_15 : w11.cell? ⟨gb187, 15, none⟩ = some (.slice A0_15 l0_15.length c0_15) := (blk_cell BK187.out 15).trans rfl; have hcz12_16 : w11.cell? ⟨gb187, 16, none⟩ = some (.slice A0_16 l0_16.length c0_16) := (blk_cell BK187.out 16).trans rfl; have hfz12_0 := blk_frozen BK187.out 0; have hfz12_1 := blk_frozen BK187.out 1; have hfz12_2 := blk_frozen BK187.out 2; have hfz12_3 := blk_frozen BK187.out 3; have hfz12_4 := blk_frozen BK187.out 4; have hfz12_5 := blk_frozen BK187.out 5; have hfz12_6 := blk_frozen BK187.out 6; have hfz12_7 := blk_frozen BK187.out 7; have hfz12_8 := blk_frozen BK187.out 8; have hfz12_9 := blk_frozen BK187.out 9; have hfz12_10 := blk_frozen BK187.out 10; have hfz12_11 := blk_frozen BK187.out 11; have hfz12_12 := blk_frozen BK187.out 12; have hfz12_13 := blk_frozen BK187.out 13; have hfz12_14 := blk_frozen BK187.out 14; have hfz12_15 := blk_frozen BK187.out 15; have hfz12_16 := blk_frozen BK187.out 16))
    go_ret
    exact ⟨by first | rfl | (simp [errW_none, errW_some] <;> rfl) | (simp [*, errW_none, errW_some] <;> rfl), by repeat (first | (with_reducible first | exact HB.out | apply below_alloc | apply pw_below_drewN | apply below_drew1 | refine below_set ?_ GE187.out) | exact HB.out)⟩

end Go.Proofs.YtipfmkfpaglkkaaGreatDoor.Z
