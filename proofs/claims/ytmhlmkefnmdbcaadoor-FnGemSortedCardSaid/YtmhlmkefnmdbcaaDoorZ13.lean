-- Written by a program of this session (myprint.py).
import Derived.Test.YtmhlmkefnmdbcaaDoorZ0
import Derived.Test.YtmhlmkefnmdbcaaDoorZ1
import Derived.Test.YtmhlmkefnmdbcaaDoorZ12
import Derived.Test.YtmhlmkefnmdbcaaDoorGe
namespace Go.Proofs.YtmhlmkefnmdbcaaDoor.Z
open Go.Proofs.YtmhlmkefnmdbcaaDoor.Gw
open Go.RowKit Go.Proofs.YtmhlmkefnmdbcaaDoorW.PrintWords Go.Proofs.YtmhlmkefnmdbcaaDoorW.PrintLast Go.Proofs.YtmhlmkefnmdbcaaDoorW.PrintMore
attribute [local go_sem high] Go.Proofs.YtmhlmkefnmdbcaaDoor.Ge.gtr_str
attribute [local go_sem] max2_int min2_int max_two min_two max_three min_three max_four min_four   -- for this text's walks alone
set_option linter.unusedVariables false
set_option linter.unusedSimpArgs false

/-! ### spec_RubySegments: function 51 -/
mutual
def spec_RubySegments.l0 : Nat → List ByteArray → List ByteArray → Int → Option (Int)
 | 0, _, _, _ => none
 | k + 1, x0, x1, x5 => if x5 < (x0.length : Int) then (spec_RubySegments.j1 k x0 x1 x5 true) else (spec_RubySegments.j1 k x0 x1 x5 (decide (x5 < (x1.length : Int))))
def spec_RubySegments.j1 : Nat → List ByteArray → List ByteArray → Int → Bool → Option (Int)
 | 0, _, _, _, _ => none
 | k + 1, x0, x1, x5, x20 => if x20 = true then (if x5 < (x0.length : Int) then (if 0 ≤ x5 then (spec_RubySegments.j2 k x0 x1 x5 (rdOf ByteArray.empty x0 x5) (⟨#[48]⟩ : ByteArray)) else (none)) else (spec_RubySegments.j2 k x0 x1 x5 (⟨#[48]⟩ : ByteArray) (⟨#[48]⟩ : ByteArray))) else (some 0)
def spec_RubySegments.j2 : Nat → List ByteArray → List ByteArray → Int → ByteArray → ByteArray → Option (Int)
 | 0, _, _, _, _, _ => none
 | k + 1, x0, x1, x5, x6, x7 => if x5 < (x1.length : Int) then (if 0 ≤ x5 then (spec_RubySegments.j3 k x0 x1 x5 x6 (rdOf ByteArray.empty x1 x5)) else (none)) else (spec_RubySegments.j3 k x0 x1 x5 x6 x7)
def spec_RubySegments.j3 : Nat → List ByteArray → List ByteArray → Int → ByteArray → ByteArray → Option (Int)
 | 0, _, _, _, _, _ => none
 | k + 1, x0, x1, x5, x6, x7 => (spec_allDigits.f k x6).bind fun t245 => ((spec_allDigits.f k x7).bind fun t246 => (if t245 = true then (spec_RubySegments.j4 k x0 x1 x5 x6 x7 t245 t246 t246) else (spec_RubySegments.j4 k x0 x1 x5 x6 x7 t245 t246 false)))
def spec_RubySegments.j4 : Nat → List ByteArray → List ByteArray → Int → ByteArray → ByteArray → Bool → Bool → Bool → Option (Int)
 | 0, _, _, _, _, _, _, _, _ => none
 | k + 1, x0, x1, x5, x6, x7, x9, x10, x46 => if x46 = true then ((spec_orderNumbers.f k x6 x7).bind fun t247 => (if t247 = 0 then (spec_RubySegments.l0 k x0 x1 (wrap64 (x5 + 1))) else (some t247))) else (if x9 = true then (if 1 = 0 then (spec_RubySegments.l0 k x0 x1 (wrap64 (x5 + 1))) else (some 1)) else (if x10 = true then (if (-1) = 0 then (spec_RubySegments.l0 k x0 x1 (wrap64 (x5 + 1))) else (some (-1))) else ((spec_order.f x6 x7).bind fun t248 => (if t248 = 0 then (spec_RubySegments.l0 k x0 x1 (wrap64 (x5 + 1))) else (some t248)))))
end
def spec_RubySegments.f (k : Nat) (l0 : List ByteArray) (l1 : List ByteArray) : Option (Int) := spec_RubySegments.l0 k l0 l1 0
theorem spec_RubySegments.mono_l : ∀ k, (∀ y0 y1 y2, LeO (spec_RubySegments.l0 k y0 y1 y2) (spec_RubySegments.l0 (k + 1) y0 y1 y2)) ∧ (∀ y0 y1 y2 y3, LeO (spec_RubySegments.j1 k y0 y1 y2 y3) (spec_RubySegments.j1 (k + 1) y0 y1 y2 y3)) ∧ (∀ y0 y1 y2 y3 y4, LeO (spec_RubySegments.j2 k y0 y1 y2 y3 y4) (spec_RubySegments.j2 (k + 1) y0 y1 y2 y3 y4)) ∧ (∀ y0 y1 y2 y3 y4, LeO (spec_RubySegments.j3 k y0 y1 y2 y3 y4) (spec_RubySegments.j3 (k + 1) y0 y1 y2 y3 y4)) ∧ (∀ y0 y1 y2 y3 y4 y5 y6 y7, LeO (spec_RubySegments.j4 k y0 y1 y2 y3 y4 y5 y6 y7) (spec_RubySegments.j4 (k + 1) y0 y1 y2 y3 y4 y5 y6 y7))
 | 0 => ⟨fun _ _ _ r h => by simp [spec_RubySegments.l0] at h, fun _ _ _ _ r h => by simp [spec_RubySegments.j1] at h, fun _ _ _ _ _ r h => by simp [spec_RubySegments.j2] at h, fun _ _ _ _ _ r h => by simp [spec_RubySegments.j3] at h, fun _ _ _ _ _ _ _ _ r h => by simp [spec_RubySegments.j4] at h⟩
 | k + 1 => by
  obtain ⟨ih0, ih1, ih2, ih3, ih4⟩ := spec_RubySegments.mono_l k
  refine ⟨?_, ?_, ?_, ?_, ?_⟩
  ·intro y0 y1 y2
   unfold spec_RubySegments.l0
   repeat' first
   | (with_reducible exact ih0 _ _ _)
   | (with_reducible exact ih1 _ _ _ _)
   | (with_reducible exact ih2 _ _ _ _ _)
   | (with_reducible exact ih3 _ _ _ _ _)
   | (with_reducible exact ih4 _ _ _ _ _ _ _ _)
   | (with_reducible exact spec_allDigits.mono _ _)
   | (with_reducible exact spec_orderNumbers.mono _ _ _)
   | (with_reducible exact LeO.refl _)
   | (with_reducible exact LeO.none _)
   | (with_reducible refine LeO.ite ?_ ?_)
   | (with_reducible refine LeO.bind ?_ (fun _ => ?_))
   | exact ih0 _ _ _
   | exact ih1 _ _ _ _
   | exact ih2 _ _ _ _ _
   | exact ih3 _ _ _ _ _
   | exact ih4 _ _ _ _ _ _ _ _
   | exact spec_allDigits.mono _ _
   | exact spec_orderNumbers.mono _ _ _
   | exact LeO.none _
   | refine LeO.ite ?_ ?_
   | refine LeO.bind ?_ (fun _ => ?_)
  ·intro y0 y1 y2 y3
   unfold spec_RubySegments.j1
   repeat' first
   | (with_reducible exact ih0 _ _ _)
   | (with_reducible exact ih1 _ _ _ _)
   | (with_reducible exact ih2 _ _ _ _ _)
   | (with_reducible exact ih3 _ _ _ _ _)
   | (with_reducible exact ih4 _ _ _ _ _ _ _ _)
   | (with_reducible exact spec_allDigits.mono _ _)
   | (with_reducible exact spec_orderNumbers.mono _ _ _)
   | (with_reducible exact LeO.refl _)
   | (with_reducible exact LeO.none _)
   | (with_reducible refine LeO.ite ?_ ?_)
   | (with_reducible refine LeO.bind ?_ (fun _ => ?_))
   | exact ih0 _ _ _
   | exact ih1 _ _ _ _
   | exact ih2 _ _ _ _ _
   | exact ih3 _ _ _ _ _
   | exact ih4 _ _ _ _ _ _ _ _
   | exact spec_allDigits.mono _ _
   | exact spec_orderNumbers.mono _ _ _
   | exact LeO.none _
   | refine LeO.ite ?_ ?_
   | refine LeO.bind ?_ (fun _ => ?_)
  ·intro y0 y1 y2 y3 y4
   unfold spec_RubySegments.j2
   repeat' first
   | (with_reducible exact ih0 _ _ _)
   | (with_reducible exact ih1 _ _ _ _)
   | (with_reducible exact ih2 _ _ _ _ _)
   | (with_reducible exact ih3 _ _ _ _ _)
   | (with_reducible exact ih4 _ _ _ _ _ _ _ _)
   | (with_reducible exact spec_allDigits.mono _ _)
   | (with_reducible exact spec_orderNumbers.mono _ _ _)
   | (with_reducible exact LeO.refl _)
   | (with_reducible exact LeO.none _)
   | (with_reducible refine LeO.ite ?_ ?_)
   | (with_reducible refine LeO.bind ?_ (fun _ => ?_))
   | exact ih0 _ _ _
   | exact ih1 _ _ _ _
   | exact ih2 _ _ _ _ _
   | exact ih3 _ _ _ _ _
   | exact ih4 _ _ _ _ _ _ _ _
   | exact spec_allDigits.mono _ _
   | exact spec_orderNumbers.mono _ _ _
   | exact LeO.none _
   | refine LeO.ite ?_ ?_
   | refine LeO.bind ?_ (fun _ => ?_)
  ·intro y0 y1 y2 y3 y4
   unfold spec_RubySegments.j3
   repeat' first
   | (with_reducible exact ih0 _ _ _)
   | (with_reducible exact ih1 _ _ _ _)
   | (with_reducible exact ih2 _ _ _ _ _)
   | (with_reducible exact ih3 _ _ _ _ _)
   | (with_reducible exact ih4 _ _ _ _ _ _ _ _)
   | (with_reducible exact spec_allDigits.mono _ _)
   | (with_reducible exact spec_orderNumbers.mono _ _ _)
   | (with_reducible exact LeO.refl _)
   | (with_reducible exact LeO.none _)
   | (with_reducible refine LeO.ite ?_ ?_)
   | (with_reducible refine LeO.bind ?_ (fun _ => ?_))
   | exact ih0 _ _ _
   | exact ih1 _ _ _ _
   | exact ih2 _ _ _ _ _
   | exact ih3 _ _ _ _ _
   | exact ih4 _ _ _ _ _ _ _ _
   | exact spec_allDigits.mono _ _
   | exact spec_orderNumbers.mono _ _ _
   | exact LeO.none _
   | refine LeO.ite ?_ ?_
   | refine LeO.bind ?_ (fun _ => ?_)
  ·intro y0 y1 y2 y3 y4 y5 y6 y7
   unfold spec_RubySegments.j4
   repeat' first
   | (with_reducible exact ih0 _ _ _)
   | (with_reducible exact ih1 _ _ _ _)
   | (with_reducible exact ih2 _ _ _ _ _)
   | (with_reducible exact ih3 _ _ _ _ _)
   | (with_reducible exact ih4 _ _ _ _ _ _ _ _)
   | (with_reducible exact spec_allDigits.mono _ _)
   | (with_reducible exact spec_orderNumbers.mono _ _ _)
   | (with_reducible exact LeO.refl _)
   | (with_reducible exact LeO.none _)
   | (with_reducible refine LeO.ite ?_ ?_)
   | (with_reducible refine LeO.bind ?_ (fun _ => ?_))
   | exact ih0 _ _ _
   | exact ih1 _ _ _ _
   | exact ih2 _ _ _ _ _
   | exact ih3 _ _ _ _ _
   | exact ih4 _ _ _ _ _ _ _ _
   | exact spec_allDigits.mono _ _
   | exact spec_orderNumbers.mono _ _ _
   | exact LeO.none _
   | refine LeO.ite ?_ ?_
   | refine LeO.bind ?_ (fun _ => ?_)
theorem spec_RubySegments.mono : ∀ a0 a1 k, LeO (spec_RubySegments.f k a0 a1) (spec_RubySegments.f (k + 1) a0 a1) := by
 intro a0 a1 k
 obtain ⟨ih0, ih1, ih2, ih3, ih4⟩ := spec_RubySegments.mono_l k
 unfold spec_RubySegments.f
 repeat' first
   | (with_reducible exact ih0 _ _ _)
   | (with_reducible exact ih1 _ _ _ _)
   | (with_reducible exact ih2 _ _ _ _ _)
   | (with_reducible exact ih3 _ _ _ _ _)
   | (with_reducible exact ih4 _ _ _ _ _ _ _ _)
   | (with_reducible exact spec_allDigits.mono _ _)
   | (with_reducible exact spec_orderNumbers.mono _ _ _)
   | (with_reducible exact LeO.refl _)
   | (with_reducible exact LeO.none _)
   | (with_reducible refine LeO.ite ?_ ?_)
   | (with_reducible refine LeO.bind ?_ (fun _ => ?_))
   | exact ih0 _ _ _
   | exact ih1 _ _ _ _
   | exact ih2 _ _ _ _ _
   | exact ih3 _ _ _ _ _
   | exact ih4 _ _ _ _ _ _ _ _
   | exact spec_allDigits.mono _ _
   | exact spec_orderNumbers.mono _ _ _
   | exact LeO.none _
   | refine LeO.ite ?_ ?_
   | refine LeO.bind ?_ (fun _ => ?_)
set_option maxHeartbeats 8000000 in
set_option maxRecDepth 100000 in
theorem spec_RubySegments.calls (k : Nat) (A0 : Option Addr) (c0 : Nat) (l0 : List ByteArray) (A1 : Option Addr) (c1 : Nat) (l1 : List ByteArray) (r : Int) (w : World) (hr0 : Kd.C Kd.string w A0 l0.length l0) (hc0 : l0.length ≤ c0) (hr1 : Kd.C Kd.string w A1 l1.length l1) (hc1 : l1.length ≤ c1) (h : spec_RubySegments.f k l0 l1 = some r) :
  Calls Tryd.prog 51 #[.slice A0 l0.length c0, .slice A1 l1.length c1] w fun e w' => e = .returned (.int .i64 r) ∧ Drawn0 w w' := by
 have HR0 := Aside0.mk hr0
 have HC0 := Aside0.mk hc0
 clear hr0 hc0
 have HR1 := Aside0.mk hr1
 have HC1 := Aside0.mk hc1
 clear hr1 hc1
 have H : (spec_RubySegments.l0 k l0 l1 0) = some r := h
 clear h
 have H' := Aside0.mk H
 clear H
 go_enter Tryd.func51, Tryd.ntmps51
 go_wp2
 go_loopg [5] k (fun kq v5 w' => ∃ (x5_1 : Int), v5 = .int .i64 x5_1 ∧ Aside0 (spec_RubySegments.l0 kq l0 l1 x5_1 = some r) ∧ Aside0 (kq ≤ k) ∧ Drawn0 w w')
 case atStart => exact ⟨(0), (by first | rfl | (simp; done) | (simp [*]; done)), H', ⟨Nat.le_refl _⟩, by repeat (first | exact Drawn0.refl _ | apply Drawn0.step)⟩
 case round =>
  clear H'
  try clear c1
  try clear p2
  obtain ⟨x5_1, rfl, HA, HK1, ⟨m1, rfl⟩⟩ := hrel
  cases gk with
  | zero => exact absurd HA.out (by simp [spec_RubySegments.l0])
  | succ k1 =>
   have H := HA.out
   clear HA
   simp only [spec_RubySegments.l0] at H
   have HC3 := Aside0.mk H
   clear H
   go_upto_region 2 with (fail)
   go_cut [20] (fun v20 wc => ∃ (kq : Nat) (x20_2 : Bool), v20 = .bool x20_2 ∧ Aside0 (spec_RubySegments.j1 kq l0 l1 x5_1 x20_2 = some r) ∧ Aside0 (kq ≤ k1) ∧ Drawn0 w wc)
   case first =>
    have H := HC3.out
    clear HC3
    by_cases c4 : x5_1 < (l0.length : Int)
    ·rw [if_pos c4] at H
     have c4b0 : decide (x5_1 < (l0.length : Int)) = true := decide_eq_true c4
     clear c4
     (first | rw [c4b0] | (simp only [i64_w, i32_w]; rw [c4b0]) | skip)
     have H' := Aside0.mk H
     clear H
     go_wp2
     go_meet
     case rel => exact ⟨_, (true), (by first | rfl | (simp; done) | (simp [*]; done)), H', ⟨by have := HK1.out; first | omega | exact Nat.le_refl _⟩, by repeat (first | exact Drawn0.refl _ | apply Drawn0.step)⟩
    ·rw [if_neg c4] at H
     have c4b0 : decide (x5_1 < (l0.length : Int)) = false := decide_eq_false c4
     clear c4
     (first | rw [c4b0] | (simp only [i64_w, i32_w]; rw [c4b0]) | skip)
     have H' := Aside0.mk H
     clear H
     go_wp2
     go_meet
     case rel => exact ⟨_, (decide (x5_1 < (l1.length : Int))), (by first | rfl | (simp; done) | (simp [*]; done)), H', ⟨by have := HK1.out; first | omega | exact Nat.le_refl _⟩, by repeat (first | exact Drawn0.refl _ | apply Drawn0.step)⟩
   case rest =>
    clear HC3
    try clear c1
    try clear p2
    try clear c4
    try clear c4b0
    try clear p2
    obtain ⟨kq, x20_2, rfl, HA, HJ2, ⟨mc2, rfl⟩⟩ := hcut
    cases kq with
    | zero => exact absurd HA.out (by simp [spec_RubySegments.j1])
    | succ kj2 =>
     have H := HA.out
     clear HA
     simp only [spec_RubySegments.j1] at H
     by_cases c5 : x20_2 = true
     ·subst c5
      have H1 : (if x5_1 < (l0.length : Int) then (if 0 ≤ x5_1 then (spec_RubySegments.j2 kj2 l0 l1 x5_1 (rdOf ByteArray.empty l0 x5_1) (⟨#[48]⟩ : ByteArray)) else (none)) else (spec_RubySegments.j2 kj2 l0 l1 x5_1 (⟨#[48]⟩ : ByteArray) (⟨#[48]⟩ : ByteArray))) = some r := by rw [if_pos rfl] at H; exact H
      clear H
      have H := H1
      clear H1
      have HC6 := Aside0.mk H
      clear H
      go_upto_if 26 with (fail)
      go_cut [6] (fun v6 wc => ∃ (kq : Nat) (x6_5 : ByteArray), v6 = .string x6_5 ∧ Aside0 (spec_RubySegments.j2 kq l0 l1 x5_1 x6_5 (⟨#[48]⟩ : ByteArray) = some r) ∧ Aside0 (kq ≤ kj2) ∧ Drawn0 w wc)
      case first =>
       have H := HC6.out
       clear HC6
       by_cases c7 : x5_1 < (l0.length : Int)
       ·rw [if_pos c7] at H
        have c7b0 : decide (x5_1 < (l0.length : Int)) = true := decide_eq_true c7
        clear c7
        (first | rw [c7b0] | (simp only [i64_w, i32_w]; rw [c7b0]) | skip)
        by_cases c8 : 0 ≤ x5_1
        ·rw [if_pos c8] at H
         have c8b0 : decide (0 ≤ x5_1) = true := decide_eq_true c8
         clear c8
         have H' := Aside0.mk H
         clear H
         have p243 : 0 ≤ (x5_1 : Int) := of_decide_eq_true (by first | (with_reducible assumption) | assumption)
         have q243 : x5_1 < (l0.length : Int) := of_decide_eq_true (by first | (with_reducible assumption) | assumption)
         obtain ⟨ad243, e243, hx243_0⟩ := Kd.at_string HR0.out x5_1 p243 q243
         cases e243
         replace p243 := eq_true p243
         replace q243 := eq_true q243
         go_wp2
         go_meet
         case rel => exact ⟨_, (rdOf ByteArray.empty l0 x5_1), (by first | rfl | (simp; done) | (simp [*]; done)), H', ⟨by have := HK1.out; have := HJ2.out; first | omega | exact Nat.le_refl _⟩, by repeat (first | exact Drawn0.refl _ | apply Drawn0.step)⟩
        ·rw [if_neg c8] at H
         exact absurd H (by simp)
       ·rw [if_neg c7] at H
        have c7b0 : decide (x5_1 < (l0.length : Int)) = false := decide_eq_false c7
        clear c7
        (first | rw [c7b0] | (simp only [i64_w, i32_w]; rw [c7b0]) | skip)
        have H' := Aside0.mk H
        clear H
        go_wp2
        go_meet
        case rel => exact ⟨_, ((⟨#[48]⟩ : ByteArray)), (by first | rfl | (simp; done) | (simp [*]; done)), H', ⟨by have := HK1.out; have := HJ2.out; first | omega | exact Nat.le_refl _⟩, by repeat (first | exact Drawn0.refl _ | apply Drawn0.step)⟩
      case rest =>
       clear HC6
       try clear c1
       try clear c2
       try clear p2
       try clear q2
       try clear hx2
       try clear c4
       try clear c4b0
       try clear c5
       try clear c7
       try clear c7b0
       try clear c8
       try clear c8b0
       try clear hx243_0
       try clear p2
       try clear p243
       try clear q243
       obtain ⟨kq, x6_5, rfl, HA, HJ5, ⟨mc5, rfl⟩⟩ := hcut
       cases kq with
       | zero => exact absurd HA.out (by simp [spec_RubySegments.j2])
       | succ kj5 =>
        have H := HA.out
        clear HA
        simp only [spec_RubySegments.j2] at H
        have HC9 := Aside0.mk H
        clear H
        go_upto_if 34 with (fail)
        go_cut [7] (fun v7 wc => ∃ (kq : Nat) (x7_8 : ByteArray), v7 = .string x7_8 ∧ Aside0 (spec_RubySegments.j3 kq l0 l1 x5_1 x6_5 x7_8 = some r) ∧ Aside0 (kq ≤ kj5) ∧ Drawn0 w wc)
        case first =>
         have H := HC9.out
         clear HC9
         by_cases c10 : x5_1 < (l1.length : Int)
         ·rw [if_pos c10] at H
          have c10b0 : decide (x5_1 < (l1.length : Int)) = true := decide_eq_true c10
          clear c10
          (first | rw [c10b0] | (simp only [i64_w, i32_w]; rw [c10b0]) | skip)
          by_cases c11 : 0 ≤ x5_1
          ·rw [if_pos c11] at H
           have c11b0 : decide (0 ≤ x5_1) = true := decide_eq_true c11
           clear c11
           have H' := Aside0.mk H
           clear H
           have p244 : 0 ≤ (x5_1 : Int) := of_decide_eq_true (by first | (with_reducible assumption) | assumption)
           have q244 : x5_1 < (l1.length : Int) := of_decide_eq_true (by first | (with_reducible assumption) | assumption)
           obtain ⟨ad244, e244, hx244_0⟩ := Kd.at_string HR1.out x5_1 p244 q244
           cases e244
           replace p244 := eq_true p244
           replace q244 := eq_true q244
           go_wp2
           go_meet
           case rel => exact ⟨_, (rdOf ByteArray.empty l1 x5_1), (by first | rfl | (simp; done) | (simp [*]; done)), H', ⟨by have := HK1.out; have := HJ2.out; have := HJ5.out; first | omega | exact Nat.le_refl _⟩, by repeat (first | exact Drawn0.refl _ | apply Drawn0.step)⟩
          ·rw [if_neg c11] at H
           exact absurd H (by simp)
         ·rw [if_neg c10] at H
          have c10b0 : decide (x5_1 < (l1.length : Int)) = false := decide_eq_false c10
          clear c10
          (first | rw [c10b0] | (simp only [i64_w, i32_w]; rw [c10b0]) | skip)
          have H' := Aside0.mk H
          clear H
          go_wp2
          go_meet
          case rel => exact ⟨_, ((⟨#[48]⟩ : ByteArray)), (by first | rfl | (simp; done) | (simp [*]; done)), H', ⟨by have := HK1.out; have := HJ2.out; have := HJ5.out; first | omega | exact Nat.le_refl _⟩, by repeat (first | exact Drawn0.refl _ | apply Drawn0.step)⟩
        case rest =>
         clear HC9
         try clear c1
         try clear c2
         try clear p2
         try clear q2
         try clear hx2
         try clear c4
         try clear c4b0
         try clear c5
         try clear c7
         try clear c7b0
         try clear c8
         try clear c8b0
         try clear c10
         try clear c10b0
         try clear c11
         try clear c11b0
         try clear hx243_0
         try clear hx244_0
         try clear p2
         try clear p243
         try clear p244
         try clear q2
         try clear q243
         try clear q244
         obtain ⟨kq, x7_8, rfl, HA, HJ8, ⟨mc8, rfl⟩⟩ := hcut
         cases kq with
         | zero => exact absurd HA.out (by simp [spec_RubySegments.j3])
         | succ kj8 =>
          have H := HA.out
          clear HA
          simp only [spec_RubySegments.j3] at H
          replace H := Option.bind_eq_some_iff.mp H
          obtain ⟨t245, A120, H⟩ := H
          replace H : ((spec_allDigits.f kj8 x7_8).bind fun t246 => (if t245 = true then (spec_RubySegments.j4 kj8 l0 l1 x5_1 x6_5 x7_8 t245 t246 t246) else (spec_RubySegments.j4 kj8 l0 l1 x5_1 x6_5 x7_8 t245 t246 false))) = some r := H
          have A12 := Aside0.mk A120
          clear A120
          replace H := Option.bind_eq_some_iff.mp H
          obtain ⟨t246, A130, H⟩ := H
          replace H : (if t245 = true then (spec_RubySegments.j4 kj8 l0 l1 x5_1 x6_5 x7_8 t245 t246 t246) else (spec_RubySegments.j4 kj8 l0 l1 x5_1 x6_5 x7_8 t245 t246 false)) = some r := H
          have A13 := Aside0.mk A130
          clear A130
          have HC14 := Aside0.mk H
          clear H
          go_upto_region 12 with (first | ((with_reducible refine gate_callee (f := 45) rfl ?_); refine goesL_ (some 40) rfl rfl Tryd.func45 (by kernel_rfl) rfl #[.string x6_5] rfl (by (try simp only [List.map_toArray, List.map_cons, List.map_nil]); first | done | rfl | (simp only [List.length_drop, List.length_take]; rfl)) ?_; (with_reducible refine (spec_allDigits.calls kj8 x6_5 t245 _ A12.out).mono ?_); rintro e w' ⟨rfl, ⟨nd, rfl⟩⟩; refine ⟨_, rfl, ?_⟩) | ((with_reducible refine gate_callee (f := 45) rfl ?_); refine goesL_ (some 42) rfl rfl Tryd.func45 (by kernel_rfl) rfl #[.string x7_8] rfl (by (try simp only [List.map_toArray, List.map_cons, List.map_nil]); first | done | rfl | (simp only [List.length_drop, List.length_take]; rfl)) ?_; (with_reducible refine (spec_allDigits.calls kj8 x7_8 t246 _ A13.out).mono ?_); rintro e w' ⟨rfl, ⟨nd, rfl⟩⟩; refine ⟨_, rfl, ?_⟩))
          (try simp only [Act.put, List.setIfInBounds_toArray, List.set_cons_zero, List.set_cons_succ])
          go_cut [46] (fun v46 wc => ∃ (kq : Nat) (x46_13 : Bool), v46 = .bool x46_13 ∧ Aside0 (spec_RubySegments.j4 kq l0 l1 x5_1 x6_5 x7_8 t245 t246 x46_13 = some r) ∧ Aside0 (kq ≤ kj8) ∧ Drawn0 w wc)
          case first =>
           have H := HC14.out
           clear HC14
           by_cases c15 : t245 = true
           ·subst c15
            have H1 : (spec_RubySegments.j4 kj8 l0 l1 x5_1 x6_5 x7_8 true t246 t246) = some r := by rw [if_pos rfl] at H; exact H
            clear H
            have H := H1
            clear H1
            have H' := Aside0.mk H
            clear H
            go_wp2
            go_meet
            case rel => exact ⟨_, (t246), (by first | rfl | (simp; done) | (simp [*]; done)), H', ⟨by have := HK1.out; have := HJ2.out; have := HJ5.out; have := HJ8.out; first | omega | exact Nat.le_refl _⟩, by repeat (first | exact Drawn0.refl _ | apply Drawn0.step)⟩
           ·replace c15 := Bool.eq_false_iff.mpr c15
            subst c15
            have H1 : (spec_RubySegments.j4 kj8 l0 l1 x5_1 x6_5 x7_8 false t246 false) = some r := by rw [if_neg (show ¬ (false = true) by decide)] at H; exact H
            clear H
            have H := H1
            clear H1
            have H' := Aside0.mk H
            clear H
            go_wp2
            go_meet
            case rel => exact ⟨_, (false), (by first | rfl | (simp; done) | (simp [*]; done)), H', ⟨by have := HK1.out; have := HJ2.out; have := HJ5.out; have := HJ8.out; first | omega | exact Nat.le_refl _⟩, by repeat (first | exact Drawn0.refl _ | apply Drawn0.step)⟩
          case rest =>
           clear HC14
           try clear c1
           try clear c2
           try clear p2
           try clear q2
           try clear hx2
           try clear c4
           try clear c4b0
           try clear c5
           try clear c7
           try clear c7b0
           try clear c8
           try clear c8b0
           try clear c10
           try clear c10b0
           try clear c11
           try clear c11b0
           try clear c15
           try clear hx243_0
           try clear hx244_0
           try clear p2
           try clear p243
           try clear p244
           try clear q2
           try clear q243
           try clear q244
           obtain ⟨kq, x46_13, rfl, HA, HJ13, ⟨mc13, rfl⟩⟩ := hcut
           cases kq with
           | zero => exact absurd HA.out (by simp [spec_RubySegments.j4])
           | succ kj13 =>
            have H := HA.out
            clear HA
            simp only [spec_RubySegments.j4] at H
            by_cases c16 : x46_13 = true
            ·subst c16
             have H1 : ((spec_orderNumbers.f kj13 x6_5 x7_8).bind fun t247 => (if t247 = 0 then (spec_RubySegments.l0 kj13 l0 l1 (wrap64 (x5_1 + 1))) else (some t247))) = some r := by rw [if_pos rfl] at H; exact H
             clear H
             have H := H1
             clear H1
             replace H := Option.bind_eq_some_iff.mp H
             obtain ⟨t247, A170, H⟩ := H
             replace H : (if t247 = 0 then (spec_RubySegments.l0 kj13 l0 l1 (wrap64 (x5_1 + 1))) else (some t247)) = some r := H
             have A17 := Aside0.mk A170
             clear A170
             by_cases c18 : t247 = 0
             ·rw [if_pos c18] at H
              have c18b0 : (t247 == 0) = true := beq_iff_eq.mpr c18
              have c18b1 : (t247 != 0) = false := bne_eq_false_iff_eq.mpr c18
              clear c18
              have H' := Aside0.mk H
              clear H
              go_wp2_with (first | ((with_reducible refine gate_callee (f := 69) rfl ?_); refine goesL_ (some 53) rfl rfl Tryd.func69 (by kernel_rfl) rfl #[.string x6_5, .string x7_8] rfl (by (try simp only [List.map_toArray, List.map_cons, List.map_nil]); first | done | rfl | (simp only [List.length_drop, List.length_take]; rfl)) ?_; (with_reducible refine (spec_orderNumbers.calls kj13 x6_5 x7_8 t247 _ A17.out).mono ?_); rintro e w' ⟨rfl, ⟨nd, rfl⟩⟩; refine ⟨_, rfl, ?_⟩))
              go_roundg kj13
              case measure => have := HK1.out; have := HJ2.out; have := HJ5.out; have := HJ8.out; have := HJ13.out; omega
              case rel => exact ⟨(wrap64 (x5_1 + 1)), (by first | rfl | (simp; done) | (simp [*]; done)), H', ⟨by have := HK1.out; have := HJ2.out; have := HJ5.out; have := HJ8.out; have := HJ13.out; omega⟩, by repeat (first | exact Drawn0.refl _ | apply Drawn0.step)⟩
             ·rw [if_neg c18] at H
              have c18b0 : (t247 == 0) = false := beq_eq_false_iff_ne.mpr c18
              have c18b1 : (t247 != 0) = true := bne_iff_ne.mpr c18
              obtain rfl := Option.some.inj H
              go_wp2_with (first | ((with_reducible refine gate_callee (f := 69) rfl ?_); refine goesL_ (some 53) rfl rfl Tryd.func69 (by kernel_rfl) rfl #[.string x6_5, .string x7_8] rfl (by (try simp only [List.map_toArray, List.map_cons, List.map_nil]); first | done | rfl | (simp only [List.length_drop, List.length_take]; rfl)) ?_; (with_reducible refine (spec_orderNumbers.calls kj13 x6_5 x7_8 t247 _ A17.out).mono ?_); rintro e w' ⟨rfl, ⟨nd, rfl⟩⟩; refine ⟨_, rfl, ?_⟩))
              go_ret
              exact ⟨by first | rfl | (simp; done) | (simp [*]; done), by repeat (first | exact Drawn0.refl _ | apply Drawn0.step)⟩
            ·replace c16 := Bool.eq_false_iff.mpr c16
             subst c16
             have H1 : (if t245 = true then (if 1 = 0 then (spec_RubySegments.l0 kj13 l0 l1 (wrap64 (x5_1 + 1))) else (some 1)) else (if t246 = true then (if (-1) = 0 then (spec_RubySegments.l0 kj13 l0 l1 (wrap64 (x5_1 + 1))) else (some (-1))) else ((spec_order.f x6_5 x7_8).bind fun t248 => (if t248 = 0 then (spec_RubySegments.l0 kj13 l0 l1 (wrap64 (x5_1 + 1))) else (some t248))))) = some r := by rw [if_neg (show ¬ (false = true) by decide)] at H; exact H
             clear H
             have H := H1
             clear H1
             by_cases c19 : t245 = true
             ·subst c19
              have H1 : (if 1 = 0 then (spec_RubySegments.l0 kj13 l0 l1 (wrap64 (x5_1 + 1))) else (some 1)) = some r := by rw [if_pos rfl] at H; exact H
              clear H
              have H := H1
              clear H1
              by_cases c20 : 1 = 0
              ·exact absurd c20 (by decide)
              ·rw [if_neg c20] at H
               have c20b0 : (1 == 0) = false := beq_eq_false_iff_ne.mpr c20
               have c20b1 : (1 != 0) = true := bne_iff_ne.mpr c20
               obtain rfl := Option.some.inj H
               go_wp2
               go_ret
               exact ⟨by first | rfl | (simp; done) | (simp [*]; done), by repeat (first | exact Drawn0.refl _ | apply Drawn0.step)⟩
             ·replace c19 := Bool.eq_false_iff.mpr c19
              subst c19
              have H1 : (if t246 = true then (if (-1) = 0 then (spec_RubySegments.l0 kj13 l0 l1 (wrap64 (x5_1 + 1))) else (some (-1))) else ((spec_order.f x6_5 x7_8).bind fun t248 => (if t248 = 0 then (spec_RubySegments.l0 kj13 l0 l1 (wrap64 (x5_1 + 1))) else (some t248)))) = some r := by rw [if_neg (show ¬ (false = true) by decide)] at H; exact H
              clear H
              have H := H1
              clear H1
              by_cases c21 : t246 = true
              ·subst c21
               have H1 : (if (-1) = 0 then (spec_RubySegments.l0 kj13 l0 l1 (wrap64 (x5_1 + 1))) else (some (-1))) = some r := by rw [if_pos rfl] at H; exact H
               clear H
               have H := H1
               clear H1
               by_cases c22 : (-1) = 0
               ·exact absurd c22 (by decide)
               ·rw [if_neg c22] at H
                have c22b0 : ((-1) == 0) = false := beq_eq_false_iff_ne.mpr c22
                have c22b1 : ((-1) != 0) = true := bne_iff_ne.mpr c22
                obtain rfl := Option.some.inj H
                go_wp2
                go_ret
                exact ⟨by first | rfl | (simp; done) | (simp [*]; done), by repeat (first | exact Drawn0.refl _ | apply Drawn0.step)⟩
              ·replace c21 := Bool.eq_false_iff.mpr c21
               subst c21
               have H1 : ((spec_order.f x6_5 x7_8).bind fun t248 => (if t248 = 0 then (spec_RubySegments.l0 kj13 l0 l1 (wrap64 (x5_1 + 1))) else (some t248))) = some r := by rw [if_neg (show ¬ (false = true) by decide)] at H; exact H
               clear H
               have H := H1
               clear H1
               replace H := Option.bind_eq_some_iff.mp H
               obtain ⟨t248, A230, H⟩ := H
               replace H : (if t248 = 0 then (spec_RubySegments.l0 kj13 l0 l1 (wrap64 (x5_1 + 1))) else (some t248)) = some r := H
               have A23 := Aside0.mk A230
               clear A230
               by_cases c24 : t248 = 0
               ·rw [if_pos c24] at H
                have c24b0 : (t248 == 0) = true := beq_iff_eq.mpr c24
                have c24b1 : (t248 != 0) = false := bne_eq_false_iff_eq.mpr c24
                clear c24
                have H' := Aside0.mk H
                clear H
                go_wp2_with (first | ((with_reducible refine gate_callee (f := 70) rfl ?_); refine goesL_ (some 45) rfl rfl Tryd.func70 (by kernel_rfl) rfl #[.string x6_5, .string x7_8] rfl (by (try simp only [List.map_toArray, List.map_cons, List.map_nil]); first | done | rfl | (simp only [List.length_drop, List.length_take]; rfl)) ?_; (with_reducible refine (spec_order.calls x6_5 x7_8 t248 _ A23.out).mono ?_); rintro e w' ⟨rfl, ⟨nd, rfl⟩⟩; refine ⟨_, rfl, ?_⟩))
                go_roundg kj13
                case measure => have := HK1.out; have := HJ2.out; have := HJ5.out; have := HJ8.out; have := HJ13.out; omega
                case rel => exact ⟨(wrap64 (x5_1 + 1)), (by first | rfl | (simp; done) | (simp [*]; done)), H', ⟨by have := HK1.out; have := HJ2.out; have := HJ5.out; have := HJ8.out; have := HJ13.out; omega⟩, by repeat (first | exact Drawn0.refl _ | apply Drawn0.step)⟩
               ·rw [if_neg c24] at H
                have c24b0 : (t248 == 0) = false := beq_eq_false_iff_ne.mpr c24
                have c24b1 : (t248 != 0) = true := bne_iff_ne.mpr c24
                obtain rfl := Option.some.inj H
                go_wp2_with (first | ((with_reducible refine gate_callee (f := 70) rfl ?_); refine goesL_ (some 45) rfl rfl Tryd.func70 (by kernel_rfl) rfl #[.string x6_5, .string x7_8] rfl (by (try simp only [List.map_toArray, List.map_cons, List.map_nil]); first | done | rfl | (simp only [List.length_drop, List.length_take]; rfl)) ?_; (with_reducible refine (spec_order.calls x6_5 x7_8 t248 _ A23.out).mono ?_); rintro e w' ⟨rfl, ⟨nd, rfl⟩⟩; refine ⟨_, rfl, ?_⟩))
                go_ret
                exact ⟨by first | rfl | (simp; done) | (simp [*]; done), by repeat (first | exact Drawn0.refl _ | apply Drawn0.step)⟩
     ·replace c5 := Bool.eq_false_iff.mpr c5
      subst c5
      have H1 : (some 0) = some r := by rw [if_neg (show ¬ (false = true) by decide)] at H; exact H
      clear H
      have H := H1
      clear H1
      obtain rfl := Option.some.inj H
      go_wp2
      go_ret
      exact ⟨by first | rfl | (simp; done) | (simp [*]; done), by repeat (first | exact Drawn0.refl _ | apply Drawn0.step)⟩

/-! ### spec_GemCompare: function 24 -/
def spec_GemCompare.f (k : Nat) (a0 : ByteArray) (a1 : ByteArray) : Option (Int) := (spec_gemRuns.f k a0).bind fun t249 => ((spec_gemFirst.f k t249).bind fun t252 => ((spec_RubyTrim.f k t252).bind fun t255 => ((spec_gemRuns.f k a1).bind fun t258 => ((spec_gemFirst.f k t258).bind fun t261 => ((spec_RubyTrim.f k t261).bind fun t264 => ((spec_RubySegments.f k t255 t264).bind fun t267 => (some t267)))))))
theorem spec_GemCompare.mono : ∀ a0 a1 k, LeO (spec_GemCompare.f k a0 a1) (spec_GemCompare.f (k + 1) a0 a1) := by
 intro a0 a1 k
 unfold spec_GemCompare.f
 repeat' first
   | (with_reducible exact spec_RubySegments.mono _ _ _)
   | (with_reducible exact spec_RubyTrim.mono _ _)
   | (with_reducible exact spec_gemFirst.mono _ _)
   | (with_reducible exact spec_gemRuns.mono _ _)
   | (with_reducible exact LeO.refl _)
   | (with_reducible exact LeO.none _)
   | (with_reducible refine LeO.ite ?_ ?_)
   | (with_reducible refine LeO.bind ?_ (fun _ => ?_))
   | exact spec_RubySegments.mono _ _ _
   | exact spec_RubyTrim.mono _ _
   | exact spec_gemFirst.mono _ _
   | exact spec_gemRuns.mono _ _
   | exact LeO.none _
   | refine LeO.ite ?_ ?_
   | refine LeO.bind ?_ (fun _ => ?_)
set_option maxHeartbeats 8000000 in
set_option maxRecDepth 100000 in
theorem spec_GemCompare.calls (k : Nat) (a0 : ByteArray) (a1 : ByteArray) (r : Int) (w : World) (h : spec_GemCompare.f k a0 a1 = some r) :
  Calls Tryd.prog 24 #[.string a0, .string a1] w fun e w' => e = .returned (.int .i64 r) ∧ Below w.heap.size w w' := by
 have HB := Aside0.mk (Below.refl w.heap.size w)
 have H : ((spec_gemRuns.f k a0).bind fun t249 => ((spec_gemFirst.f k t249).bind fun t252 => ((spec_RubyTrim.f k t252).bind fun t255 => ((spec_gemRuns.f k a1).bind fun t258 => ((spec_gemFirst.f k t258).bind fun t261 => ((spec_RubyTrim.f k t261).bind fun t264 => ((spec_RubySegments.f k t255 t264).bind fun t267 => (some t267)))))))) = some r := h
 clear h
 replace H := Option.bind_eq_some_iff.mp H
 obtain ⟨t249, A30, H⟩ := H
 replace H : ((spec_gemFirst.f k t249).bind fun t252 => ((spec_RubyTrim.f k t252).bind fun t255 => ((spec_gemRuns.f k a1).bind fun t258 => ((spec_gemFirst.f k t258).bind fun t261 => ((spec_RubyTrim.f k t261).bind fun t264 => ((spec_RubySegments.f k t255 t264).bind fun t267 => (some t267))))))) = some r := H
 have A3 := Aside0.mk A30
 clear A30
 replace H := Option.bind_eq_some_iff.mp H
 obtain ⟨t252, A40, H⟩ := H
 replace H : ((spec_RubyTrim.f k t252).bind fun t255 => ((spec_gemRuns.f k a1).bind fun t258 => ((spec_gemFirst.f k t258).bind fun t261 => ((spec_RubyTrim.f k t261).bind fun t264 => ((spec_RubySegments.f k t255 t264).bind fun t267 => (some t267)))))) = some r := H
 have A4 := Aside0.mk A40
 clear A40
 replace H := Option.bind_eq_some_iff.mp H
 obtain ⟨t255, A50, H⟩ := H
 replace H : ((spec_gemRuns.f k a1).bind fun t258 => ((spec_gemFirst.f k t258).bind fun t261 => ((spec_RubyTrim.f k t261).bind fun t264 => ((spec_RubySegments.f k t255 t264).bind fun t267 => (some t267))))) = some r := H
 have A5 := Aside0.mk A50
 clear A50
 replace H := Option.bind_eq_some_iff.mp H
 obtain ⟨t258, A60, H⟩ := H
 replace H : ((spec_gemFirst.f k t258).bind fun t261 => ((spec_RubyTrim.f k t261).bind fun t264 => ((spec_RubySegments.f k t255 t264).bind fun t267 => (some t267)))) = some r := H
 have A6 := Aside0.mk A60
 clear A60
 replace H := Option.bind_eq_some_iff.mp H
 obtain ⟨t261, A70, H⟩ := H
 replace H : ((spec_RubyTrim.f k t261).bind fun t264 => ((spec_RubySegments.f k t255 t264).bind fun t267 => (some t267))) = some r := H
 have A7 := Aside0.mk A70
 clear A70
 replace H := Option.bind_eq_some_iff.mp H
 obtain ⟨t264, A80, H⟩ := H
 replace H : ((spec_RubySegments.f k t255 t264).bind fun t267 => (some t267)) = some r := H
 have A8 := Aside0.mk A80
 clear A80
 replace H := Option.bind_eq_some_iff.mp H
 obtain ⟨t267, A90, H⟩ := H
 replace H : (some t267) = some r := H
 have A9 := Aside0.mk A90
 clear A90
 obtain rfl := Option.some.inj H
 go_enter Tryd.func24, Tryd.ntmps24
 go_wp2_with (first | ((with_reducible refine gate_callee (f := 50) rfl ?_); refine goesL_ (some 8) rfl rfl Tryd.func50 (by kernel_rfl) rfl #[.string a0] rfl (by (try simp only [List.map_toArray, List.map_cons, List.map_nil]); first | done | rfl | (simp only [List.length_drop, List.length_take]; rfl)) ?_; (with_reducible refine (spec_gemRuns.calls k a0 t249 _ A3.out).mono ?_); rintro e w10 ⟨v250, rfl, ho0, hb⟩; refine ⟨_, rfl, ?_⟩; have n0_ := Aside0.mk (Kd.R_lower ho0 (below_size (by repeat (first | (with_reducible first | exact HB.out | apply below_alloc | apply pw_below_drewN | apply below_drew1) | exact HB.out)))); have n1_ := Aside0.mk (below_step (by repeat (first | (with_reducible first | exact HB.out | apply below_alloc | apply pw_below_drewN | apply below_drew1) | exact HB.out)) hb); clear HB; have HO251 := n0_; have HB := n1_; clear n0_ n1_; (try clear hb); (try clear hb2); (try clear hk); (try clear hi); (try clear ho0); obtain ⟨Ao11, co11, eo11⟩ := Kd.R_slice HO251.out; subst eo11) | ((with_reducible refine gate_callee (f := 49) rfl ?_); refine goesL_ (some 9) rfl rfl Tryd.func49 (by kernel_rfl) rfl #[.slice Ao11 t249.length co11] rfl (by (try simp only [List.map_toArray, List.map_cons, List.map_nil]); first | done | rfl | (simp only [List.length_drop, List.length_take]; rfl)) ?_; (with_reducible refine (spec_gemFirst.calls k _ _ t249 t252 _ ?side1 ?side2 A4.out).mono ?_); (case side1 => repeat (first | exact (Kd.R_reads' HO251.out).2.2 | (with_reducible refine Kd.C_alloc ?_ _) | (with_reducible refine Kd.C_drewN ?_ _) | (with_reducible refine Kd.C_drew ?_))); (case side2 => exact (Kd.R_reads' HO251.out).2.1); rintro e w12 ⟨v253, rfl, ho0, hb⟩; refine ⟨_, rfl, ?_⟩; have n0_ := Aside0.mk (Kd.R_elder' (by (with_reducible repeat (first | apply Kd.R_alloc | apply Kd.R_drewN | apply Kd.R_drew)); exact HO251.out) (Kd.R_base ho0) hb); have n1_ := Aside0.mk (Kd.R_lower (Kd.R_new' ho0 (Kd.R_lt (by (with_reducible repeat (first | apply Kd.R_alloc | apply Kd.R_drewN | apply Kd.R_drew)); exact HO251.out))) (below_size (by repeat (first | (with_reducible first | exact HB.out | apply below_alloc | apply pw_below_drewN | apply below_drew1) | exact HB.out)))); have n2_ := Aside0.mk (below_step (by repeat (first | (with_reducible first | exact HB.out | apply below_alloc | apply pw_below_drewN | apply below_drew1) | exact HB.out)) hb); clear HO251; clear HB; have HO251 := n0_; have HO254 := n1_; have HB := n2_; clear n0_ n1_ n2_; (try clear hb); (try clear hb2); (try clear hk); (try clear hi); (try clear ho0); obtain ⟨Ao13, co13, eo13⟩ := Kd.R_slice HO254.out; subst eo13) | ((with_reducible refine gate_callee (f := 48) rfl ?_); refine goesL_ (some 10) rfl rfl Tryd.func48 (by kernel_rfl) rfl #[.slice Ao13 t252.length co13] rfl (by (try simp only [List.map_toArray, List.map_cons, List.map_nil]); first | done | rfl | (simp only [List.length_drop, List.length_take]; rfl)) ?_; (with_reducible refine (spec_RubyTrim.calls k _ _ t252 t255 _ ?side1 ?side2 A5.out).mono ?_); (case side1 => repeat (first | exact (Kd.R_reads' HO254.out).2.2 | (with_reducible refine Kd.C_alloc ?_ _) | (with_reducible refine Kd.C_drewN ?_ _) | (with_reducible refine Kd.C_drew ?_))); (case side2 => exact (Kd.R_reads' HO254.out).2.1); rintro e w14 ⟨v256, rfl, ho0, hb⟩; refine ⟨_, rfl, ?_⟩; have n0_ := Aside0.mk (Kd.R_elder' (by (with_reducible repeat (first | apply Kd.R_alloc | apply Kd.R_drewN | apply Kd.R_drew)); exact HO251.out) (Kd.R_base ho0) hb); have n1_ := Aside0.mk (Kd.R_elder' (by (with_reducible repeat (first | apply Kd.R_alloc | apply Kd.R_drewN | apply Kd.R_drew)); exact HO254.out) (Kd.R_base ho0) hb); have n2_ := Aside0.mk (Kd.R_lower (Kd.R_new' (Kd.R_new' ho0 (Kd.R_lt (by (with_reducible repeat (first | apply Kd.R_alloc | apply Kd.R_drewN | apply Kd.R_drew)); exact HO251.out))) (Kd.R_lt (by (with_reducible repeat (first | apply Kd.R_alloc | apply Kd.R_drewN | apply Kd.R_drew)); exact HO254.out))) (below_size (by repeat (first | (with_reducible first | exact HB.out | apply below_alloc | apply pw_below_drewN | apply below_drew1) | exact HB.out)))); have n3_ := Aside0.mk (below_step (by repeat (first | (with_reducible first | exact HB.out | apply below_alloc | apply pw_below_drewN | apply below_drew1) | exact HB.out)) hb); clear HO251; clear HO254; clear HB; have HO251 := n0_; have HO254 := n1_; have HO257 := n2_; have HB := n3_; clear n0_ n1_ n2_ n3_; (try clear hb); (try clear hb2); (try clear hk); (try clear hi); (try clear ho0)) | ((with_reducible refine gate_callee (f := 50) rfl ?_); refine goesL_ (some 12) rfl rfl Tryd.func50 (by kernel_rfl) rfl #[.string a1] rfl (by (try simp only [List.map_toArray, List.map_cons, List.map_nil]); first | done | rfl | (simp only [List.length_drop, List.length_take]; rfl)) ?_; (with_reducible refine (spec_gemRuns.calls k a1 t258 _ A6.out).mono ?_); rintro e w15 ⟨v259, rfl, ho0, hb⟩; refine ⟨_, rfl, ?_⟩; have n0_ := Aside0.mk (Kd.R_elder' (by (with_reducible repeat (first | apply Kd.R_alloc | apply Kd.R_drewN | apply Kd.R_drew)); exact HO251.out) (Kd.R_base ho0) hb); have n1_ := Aside0.mk (Kd.R_elder' (by (with_reducible repeat (first | apply Kd.R_alloc | apply Kd.R_drewN | apply Kd.R_drew)); exact HO254.out) (Kd.R_base ho0) hb); have n2_ := Aside0.mk (Kd.R_elder' (by (with_reducible repeat (first | apply Kd.R_alloc | apply Kd.R_drewN | apply Kd.R_drew)); exact HO257.out) (Kd.R_base ho0) hb); have n3_ := Aside0.mk (Kd.R_lower (Kd.R_new' (Kd.R_new' (Kd.R_new' ho0 (Kd.R_lt (by (with_reducible repeat (first | apply Kd.R_alloc | apply Kd.R_drewN | apply Kd.R_drew)); exact HO251.out))) (Kd.R_lt (by (with_reducible repeat (first | apply Kd.R_alloc | apply Kd.R_drewN | apply Kd.R_drew)); exact HO254.out))) (Kd.R_lt (by (with_reducible repeat (first | apply Kd.R_alloc | apply Kd.R_drewN | apply Kd.R_drew)); exact HO257.out))) (below_size (by repeat (first | (with_reducible first | exact HB.out | apply below_alloc | apply pw_below_drewN | apply below_drew1) | exact HB.out)))); have n4_ := Aside0.mk (below_step (by repeat (first | (with_reducible first | exact HB.out | apply below_alloc | apply pw_below_drewN | apply below_drew1) | exact HB.out)) hb); clear HO251; clear HO254; clear HO257; clear HB; have HO251 := n0_; have HO254 := n1_; have HO257 := n2_; have HO260 := n3_; have HB := n4_; clear n0_ n1_ n2_ n3_ n4_; (try clear hb); (try clear hb2); (try clear hk); (try clear hi); (try clear ho0); obtain ⟨Ao16, co16, eo16⟩ := Kd.R_slice HO260.out; subst eo16) | ((with_reducible refine gate_callee (f := 49) rfl ?_); refine goesL_ (some 13) rfl rfl Tryd.func49 (by kernel_rfl) rfl #[.slice Ao16 t258.length co16] rfl (by (try simp only [List.map_toArray, List.map_cons, List.map_nil]); first | done | rfl | (simp only [List.length_drop, List.length_take]; rfl)) ?_; (with_reducible refine (spec_gemFirst.calls k _ _ t258 t261 _ ?side1 ?side2 A7.out).mono ?_); (case side1 => repeat (first | exact (Kd.R_reads' HO260.out).2.2 | (with_reducible refine Kd.C_alloc ?_ _) | (with_reducible refine Kd.C_drewN ?_ _) | (with_reducible refine Kd.C_drew ?_))); (case side2 => exact (Kd.R_reads' HO260.out).2.1); rintro e w17 ⟨v262, rfl, ho0, hb⟩; refine ⟨_, rfl, ?_⟩; have n0_ := Aside0.mk (Kd.R_elder' (by (with_reducible repeat (first | apply Kd.R_alloc | apply Kd.R_drewN | apply Kd.R_drew)); exact HO251.out) (Kd.R_base ho0) hb); have n1_ := Aside0.mk (Kd.R_elder' (by (with_reducible repeat (first | apply Kd.R_alloc | apply Kd.R_drewN | apply Kd.R_drew)); exact HO254.out) (Kd.R_base ho0) hb); have n2_ := Aside0.mk (Kd.R_elder' (by (with_reducible repeat (first | apply Kd.R_alloc | apply Kd.R_drewN | apply Kd.R_drew)); exact HO257.out) (Kd.R_base ho0) hb); have n3_ := Aside0.mk (Kd.R_elder' (by (with_reducible repeat (first | apply Kd.R_alloc | apply Kd.R_drewN | apply Kd.R_drew)); exact HO260.out) (Kd.R_base ho0) hb); have n4_ := Aside0.mk (Kd.R_lower (Kd.R_new' (Kd.R_new' (Kd.R_new' (Kd.R_new' ho0 (Kd.R_lt (by (with_reducible repeat (first | apply Kd.R_alloc | apply Kd.R_drewN | apply Kd.R_drew)); exact HO251.out))) (Kd.R_lt (by (with_reducible repeat (first | apply Kd.R_alloc | apply Kd.R_drewN | apply Kd.R_drew)); exact HO254.out))) (Kd.R_lt (by (with_reducible repeat (first | apply Kd.R_alloc | apply Kd.R_drewN | apply Kd.R_drew)); exact HO257.out))) (Kd.R_lt (by (with_reducible repeat (first | apply Kd.R_alloc | apply Kd.R_drewN | apply Kd.R_drew)); exact HO260.out))) (below_size (by repeat (first | (with_reducible first | exact HB.out | apply below_alloc | apply pw_below_drewN | apply below_drew1) | exact HB.out)))); have n5_ := Aside0.mk (below_step (by repeat (first | (with_reducible first | exact HB.out | apply below_alloc | apply pw_below_drewN | apply below_drew1) | exact HB.out)) hb); clear HO251; clear HO254; clear HO257; clear HO260; clear HB; have HO251 := n0_; have HO254 := n1_; have HO257 := n2_; have HO260 := n3_; have HO263 := n4_; have HB := n5_; clear n0_ n1_ n2_ n3_ n4_ n5_; (try clear hb); (try clear hb2); (try clear hk); (try clear hi); (try clear ho0); obtain ⟨Ao18, co18, eo18⟩ := Kd.R_slice HO263.out; subst eo18) | ((with_reducible refine gate_callee (f := 48) rfl ?_); refine goesL_ (some 14) rfl rfl Tryd.func48 (by kernel_rfl) rfl #[.slice Ao18 t261.length co18] rfl (by (try simp only [List.map_toArray, List.map_cons, List.map_nil]); first | done | rfl | (simp only [List.length_drop, List.length_take]; rfl)) ?_; (with_reducible refine (spec_RubyTrim.calls k _ _ t261 t264 _ ?side1 ?side2 A8.out).mono ?_); (case side1 => repeat (first | exact (Kd.R_reads' HO263.out).2.2 | (with_reducible refine Kd.C_alloc ?_ _) | (with_reducible refine Kd.C_drewN ?_ _) | (with_reducible refine Kd.C_drew ?_))); (case side2 => exact (Kd.R_reads' HO263.out).2.1); rintro e w19 ⟨v265, rfl, ho0, hb⟩; refine ⟨_, rfl, ?_⟩; have n0_ := Aside0.mk (Kd.R_elder' (by (with_reducible repeat (first | apply Kd.R_alloc | apply Kd.R_drewN | apply Kd.R_drew)); exact HO251.out) (Kd.R_base ho0) hb); have n1_ := Aside0.mk (Kd.R_elder' (by (with_reducible repeat (first | apply Kd.R_alloc | apply Kd.R_drewN | apply Kd.R_drew)); exact HO254.out) (Kd.R_base ho0) hb); have n2_ := Aside0.mk (Kd.R_elder' (by (with_reducible repeat (first | apply Kd.R_alloc | apply Kd.R_drewN | apply Kd.R_drew)); exact HO257.out) (Kd.R_base ho0) hb); have n3_ := Aside0.mk (Kd.R_elder' (by (with_reducible repeat (first | apply Kd.R_alloc | apply Kd.R_drewN | apply Kd.R_drew)); exact HO260.out) (Kd.R_base ho0) hb); have n4_ := Aside0.mk (Kd.R_elder' (by (with_reducible repeat (first | apply Kd.R_alloc | apply Kd.R_drewN | apply Kd.R_drew)); exact HO263.out) (Kd.R_base ho0) hb); have n5_ := Aside0.mk (Kd.R_lower (Kd.R_new' (Kd.R_new' (Kd.R_new' (Kd.R_new' (Kd.R_new' ho0 (Kd.R_lt (by (with_reducible repeat (first | apply Kd.R_alloc | apply Kd.R_drewN | apply Kd.R_drew)); exact HO251.out))) (Kd.R_lt (by (with_reducible repeat (first | apply Kd.R_alloc | apply Kd.R_drewN | apply Kd.R_drew)); exact HO254.out))) (Kd.R_lt (by (with_reducible repeat (first | apply Kd.R_alloc | apply Kd.R_drewN | apply Kd.R_drew)); exact HO257.out))) (Kd.R_lt (by (with_reducible repeat (first | apply Kd.R_alloc | apply Kd.R_drewN | apply Kd.R_drew)); exact HO260.out))) (Kd.R_lt (by (with_reducible repeat (first | apply Kd.R_alloc | apply Kd.R_drewN | apply Kd.R_drew)); exact HO263.out))) (below_size (by repeat (first | (with_reducible first | exact HB.out | apply below_alloc | apply pw_below_drewN | apply below_drew1) | exact HB.out)))); have n6_ := Aside0.mk (below_step (by repeat (first | (with_reducible first | exact HB.out | apply below_alloc | apply pw_below_drewN | apply below_drew1) | exact HB.out)) hb); clear HO251; clear HO254; clear HO257; clear HO260; clear HO263; clear HB; have HO251 := n0_; have HO254 := n1_; have HO257 := n2_; have HO260 := n3_; have HO263 := n4_; have HO266 := n5_; have HB := n6_; clear n0_ n1_ n2_ n3_ n4_ n5_ n6_; (try clear hb); (try clear hb2); (try clear hk); (try clear hi); (try clear ho0); obtain ⟨Ao20, co20, eo20⟩ := Kd.R_slice HO257.out; subst eo20; obtain ⟨Ao21, co21, eo21⟩ := Kd.R_slice HO266.out; subst eo21) | ((with_reducible refine gate_callee (f := 51) rfl ?_); refine goesL_ (some 17) rfl rfl Tryd.func51 (by kernel_rfl) rfl #[.slice Ao20 t255.length co20, .slice Ao21 t264.length co21] rfl (by (try simp only [List.map_toArray, List.map_cons, List.map_nil]); first | done | rfl | (simp only [List.length_drop, List.length_take]; rfl)) ?_; (with_reducible refine (spec_RubySegments.calls k _ _ t255 _ _ t264 t267 _ ?side1 ?side2 ?side3 ?side4 A9.out).mono ?_); (case side1 => repeat (first | exact (Kd.R_reads' HO257.out).2.2 | (with_reducible refine Kd.C_alloc ?_ _) | (with_reducible refine Kd.C_drewN ?_ _) | (with_reducible refine Kd.C_drew ?_))); (case side2 => exact (Kd.R_reads' HO257.out).2.1); (case side3 => repeat (first | exact (Kd.R_reads' HO266.out).2.2 | (with_reducible refine Kd.C_alloc ?_ _) | (with_reducible refine Kd.C_drewN ?_ _) | (with_reducible refine Kd.C_drew ?_))); (case side4 => exact (Kd.R_reads' HO266.out).2.1); rintro e w' ⟨rfl, ⟨nd, rfl⟩⟩; refine ⟨_, rfl, ?_⟩))
 go_ret
 exact ⟨by first | rfl | (simp [errW_none, errW_some] <;> rfl) | (simp [*, errW_none, errW_some] <;> rfl), by repeat (first | (with_reducible first | exact HB.out | apply below_alloc | apply pw_below_drewN | apply below_drew1) | exact HB.out)⟩

end Go.Proofs.YtmhlmkefnmdbcaaDoor.Z
