-- Written by a program of this session (myprint.py).
import Derived.Test.YtmhlmkefnmdbcaaDoorZ0
import Derived.Test.YtmhlmkefnmdbcaaDoorGe
namespace Go.Proofs.YtmhlmkefnmdbcaaDoor.Z
open Go.Proofs.YtmhlmkefnmdbcaaDoor.Gw
open Go.RowKit Go.Proofs.YtmhlmkefnmdbcaaDoorW.PrintWords Go.Proofs.YtmhlmkefnmdbcaaDoorW.PrintLast Go.Proofs.YtmhlmkefnmdbcaaDoorW.PrintMore
attribute [local go_sem high] Go.Proofs.YtmhlmkefnmdbcaaDoor.Ge.gtr_str
attribute [local go_sem] max2_int min2_int max_two min_two max_three min_three max_four min_four   -- for this text's walks alone
set_option linter.unusedVariables false
set_option linter.unusedSimpArgs false

/-! ### laws_short: function 11 -/
def laws_short.l0 : Nat → List ByteArray → List ByteArray → Int → Int → Option (Bool)
 | 0, _, _, _, _ => none
 | k + 1, x0, x5, x6, x7 => if x7 < x6 then (if 0 ≤ x7 then (if x7 < (x5.length : Int) then (if ((rdOf ByteArray.empty x5 x7).size : Int) > 1500 then (some false) else (laws_short.l0 k x0 x5 x6 (wrap64 (x7 + 1)))) else (none)) else (none)) else (some (decide ((x0.length : Int) ≤ 150)))
def laws_short.f (k : Nat) (l0 : List ByteArray) : Option (Bool) := laws_short.l0 k l0 l0 (l0.length : Int) 0
theorem laws_short.mono_l : ∀ k, (∀ y0 y1 y2 y3, LeO (laws_short.l0 k y0 y1 y2 y3) (laws_short.l0 (k + 1) y0 y1 y2 y3))
 | 0 => fun _ _ _ _ r h => by simp [laws_short.l0] at h
 | k + 1 => by
  have ih0 := laws_short.mono_l k
  ·intro y0 y1 y2 y3
   unfold laws_short.l0
   repeat' first
   | (with_reducible exact ih0 _ _ _ _)
   | (with_reducible exact LeO.refl _)
   | (with_reducible exact LeO.none _)
   | (with_reducible refine LeO.ite ?_ ?_)
   | (with_reducible refine LeO.bind ?_ (fun _ => ?_))
   | exact ih0 _ _ _ _
   | exact LeO.none _
   | refine LeO.ite ?_ ?_
   | refine LeO.bind ?_ (fun _ => ?_)
theorem laws_short.mono : ∀ a0 k, LeO (laws_short.f k a0) (laws_short.f (k + 1) a0) := by
 intro a0 k
 have ih0 := laws_short.mono_l k
 unfold laws_short.f
 repeat' first
   | (with_reducible exact ih0 _ _ _ _)
   | (with_reducible exact LeO.refl _)
   | (with_reducible exact LeO.none _)
   | (with_reducible refine LeO.ite ?_ ?_)
   | (with_reducible refine LeO.bind ?_ (fun _ => ?_))
   | exact ih0 _ _ _ _
   | exact LeO.none _
   | refine LeO.ite ?_ ?_
   | refine LeO.bind ?_ (fun _ => ?_)
set_option maxHeartbeats 8000000 in
set_option maxRecDepth 100000 in
theorem laws_short.calls (k : Nat) (A0 : Option Addr) (c0 : Nat) (l0 : List ByteArray) (r : Bool) (w : World) (hr0 : Kd.C Kd.string w A0 l0.length l0) (hc0 : l0.length ≤ c0) (h : laws_short.f k l0 = some r) :
  Calls Tryd.prog 11 #[.slice A0 l0.length c0] w fun e w' => e = .returned (.bool r) ∧ Drawn0 w w' := by
 have HR0 := Aside0.mk hr0
 have HC0 := Aside0.mk hc0
 clear hr0 hc0
 have H : (laws_short.l0 k l0 l0 (l0.length : Int) 0) = some r := h
 clear h
 have H' := Aside0.mk H
 clear H
 go_enter Tryd.func11, Tryd.ntmps11
 go_wp2
 go_loopg [7] k (fun kq v7 w' => ∃ (x7_1 : Int), v7 = .int .i64 x7_1 ∧ Aside0 (laws_short.l0 kq l0 l0 (l0.length : Int) x7_1 = some r) ∧ Aside0 (kq ≤ k) ∧ Drawn0 w w')
 case atStart => exact ⟨(0), (by first | rfl | (simp; done) | (simp [*]; done)), H', ⟨Nat.le_refl _⟩, by repeat (first | exact Drawn0.refl _ | apply Drawn0.step)⟩
 case round =>
  clear H'
  try clear c1
  obtain ⟨x7_1, rfl, HA, HK1, ⟨m1, rfl⟩⟩ := hrel
  cases gk with
  | zero => exact absurd HA.out (by simp [laws_short.l0])
  | succ k1 =>
   have H := HA.out
   clear HA
   simp only [laws_short.l0] at H
   by_cases c2 : x7_1 < (l0.length : Int)
   ·rw [if_pos c2] at H
    have c2b0 : decide (x7_1 < (l0.length : Int)) = true := decide_eq_true c2
    clear c2
    by_cases c3 : 0 ≤ x7_1
    ·rw [if_pos c3] at H
     have c3b0 : decide (0 ≤ x7_1) = true := decide_eq_true c3
     clear c3
     by_cases c4 : x7_1 < (l0.length : Int)
     ·rw [if_pos c4] at H
      have c4b0 : decide (x7_1 < (l0.length : Int)) = true := decide_eq_true c4
      clear c4
      by_cases c5 : ((rdOf ByteArray.empty l0 x7_1).size : Int) > 1500
      ·rw [if_pos c5] at H
       have c5b0 : decide (1500 < ((rdOf ByteArray.empty l0 x7_1).size : Int)) = true := decide_eq_true c5
       have c5b1 : decide (1500 < (rdOf ByteArray.empty l0 x7_1).size) = true := decide_eq_true (by omega)
       clear c5
       obtain rfl := Option.some.inj H
       have p101 : 0 ≤ (x7_1 : Int) := of_decide_eq_true (by first | (with_reducible assumption) | assumption)
       have q101 : x7_1 < (l0.length : Int) := of_decide_eq_true (by first | (with_reducible assumption) | assumption)
       obtain ⟨ad101, e101, hx101_0⟩ := Kd.at_string HR0.out x7_1 p101 q101
       cases e101
       replace p101 := eq_true p101
       replace q101 := eq_true q101
       go_wp2
       go_ret
       exact ⟨by first | rfl | (simp; done) | (simp [*]; done), by repeat (first | exact Drawn0.refl _ | apply Drawn0.step)⟩
      ·rw [if_neg c5] at H
       have c5b0 : decide (1500 < ((rdOf ByteArray.empty l0 x7_1).size : Int)) = false := decide_eq_false c5
       have c5b1 : decide (1500 < (rdOf ByteArray.empty l0 x7_1).size) = false := decide_eq_false (by omega)
       clear c5
       have H' := Aside0.mk H
       clear H
       have p101 : 0 ≤ (x7_1 : Int) := of_decide_eq_true (by first | (with_reducible assumption) | assumption)
       have q101 : x7_1 < (l0.length : Int) := of_decide_eq_true (by first | (with_reducible assumption) | assumption)
       obtain ⟨ad101, e101, hx101_0⟩ := Kd.at_string HR0.out x7_1 p101 q101
       cases e101
       replace p101 := eq_true p101
       replace q101 := eq_true q101
       go_wp2
       go_roundg k1
       case measure => have := HK1.out; omega
       case rel => exact ⟨(wrap64 (x7_1 + 1)), (by first | rfl | (simp; done) | (simp [*]; done)), H', ⟨by have := HK1.out; omega⟩, by repeat (first | exact Drawn0.refl _ | apply Drawn0.step)⟩
     ·rw [if_neg c4] at H
      exact absurd H (by simp)
    ·rw [if_neg c3] at H
     exact absurd H (by simp)
   ·rw [if_neg c2] at H
    have c2b0 : decide (x7_1 < (l0.length : Int)) = false := decide_eq_false c2
    clear c2
    obtain rfl := Option.some.inj H
    go_wp2
    go_ret
    exact ⟨by first | rfl | (simp; done) | (simp [*]; done), by repeat (first | exact Drawn0.refl _ | apply Drawn0.step)⟩

/-! ### laws_zzFits1: function 16 -/
def laws_zzFits1.l0 : Nat → List ByteArray → Int → Int → Option (Bool)
 | 0, _, _, _ => none
 | k + 1, x8, x9, x10 => if x10 < x9 then (if 0 ≤ x10 then (if x10 < (x8.length : Int) then (if ((rdOf ByteArray.empty x8 x10).size : Int) > 2147483647 then (some false) else (laws_zzFits1.l0 k x8 x9 (wrap64 (x10 + 1)))) else (none)) else (none)) else (some true)
def laws_zzFits1.f (k : Nat) (l0 : List ByteArray) : Option (Bool) := if (l0.length : Int) > 2147483647 then (some false) else (laws_zzFits1.l0 k l0 (l0.length : Int) 0)
theorem laws_zzFits1.mono_l : ∀ k, (∀ y0 y1 y2, LeO (laws_zzFits1.l0 k y0 y1 y2) (laws_zzFits1.l0 (k + 1) y0 y1 y2))
 | 0 => fun _ _ _ r h => by simp [laws_zzFits1.l0] at h
 | k + 1 => by
  have ih0 := laws_zzFits1.mono_l k
  ·intro y0 y1 y2
   unfold laws_zzFits1.l0
   repeat' first
   | (with_reducible exact ih0 _ _ _)
   | (with_reducible exact LeO.refl _)
   | (with_reducible exact LeO.none _)
   | (with_reducible refine LeO.ite ?_ ?_)
   | (with_reducible refine LeO.bind ?_ (fun _ => ?_))
   | exact ih0 _ _ _
   | exact LeO.none _
   | refine LeO.ite ?_ ?_
   | refine LeO.bind ?_ (fun _ => ?_)
theorem laws_zzFits1.mono : ∀ a0 k, LeO (laws_zzFits1.f k a0) (laws_zzFits1.f (k + 1) a0) := by
 intro a0 k
 have ih0 := laws_zzFits1.mono_l k
 unfold laws_zzFits1.f
 repeat' first
   | (with_reducible exact ih0 _ _ _)
   | (with_reducible exact LeO.refl _)
   | (with_reducible exact LeO.none _)
   | (with_reducible refine LeO.ite ?_ ?_)
   | (with_reducible refine LeO.bind ?_ (fun _ => ?_))
   | exact ih0 _ _ _
   | exact LeO.none _
   | refine LeO.ite ?_ ?_
   | refine LeO.bind ?_ (fun _ => ?_)
set_option maxHeartbeats 8000000 in
set_option maxRecDepth 100000 in
theorem laws_zzFits1.calls (k : Nat) (A0 : Option Addr) (c0 : Nat) (l0 : List ByteArray) (r : Bool) (w : World) (hr0 : Kd.C Kd.string w A0 l0.length l0) (hc0 : l0.length ≤ c0) (h : laws_zzFits1.f k l0 = some r) :
  Calls Tryd.prog 16 #[.slice A0 l0.length c0] w fun e w' => e = .returned (.bool r) ∧ Drawn0 w w' := by
 have HR0 := Aside0.mk hr0
 have HC0 := Aside0.mk hc0
 clear hr0 hc0
 have H : (if (l0.length : Int) > 2147483647 then (some false) else (laws_zzFits1.l0 k l0 (l0.length : Int) 0)) = some r := h
 clear h
 by_cases c2 : (l0.length : Int) > 2147483647
 ·rw [if_pos c2] at H
  have c2b0 : decide (2147483647 < (l0.length : Int)) = true := decide_eq_true c2
  have c2b1 : decide (2147483647 < l0.length) = true := decide_eq_true (by omega)
  clear c2
  obtain rfl := Option.some.inj H
  go_enter Tryd.func16, Tryd.ntmps16
  go_wp2
  go_ret
  exact ⟨by first | rfl | (simp; done) | (simp [*]; done), by repeat (first | exact Drawn0.refl _ | apply Drawn0.step)⟩
 ·rw [if_neg c2] at H
  have c2b0 : decide (2147483647 < (l0.length : Int)) = false := decide_eq_false c2
  have c2b1 : decide (2147483647 < l0.length) = false := decide_eq_false (by omega)
  clear c2
  have H' := Aside0.mk H
  clear H
  go_enter Tryd.func16, Tryd.ntmps16
  go_wp2
  go_loopg [10] k (fun kq v10 w' => ∃ (x10_1 : Int), v10 = .int .i64 x10_1 ∧ Aside0 (laws_zzFits1.l0 kq l0 (l0.length : Int) x10_1 = some r) ∧ Aside0 (kq ≤ k) ∧ Drawn0 w w')
  case atStart => exact ⟨(0), (by first | rfl | (simp; done) | (simp [*]; done)), H', ⟨Nat.le_refl _⟩, by repeat (first | exact Drawn0.refl _ | apply Drawn0.step)⟩
  case round =>
   clear H'
   try clear c1
   try clear c2
   try clear c2b0
   try clear c2b1
   try clear p2
   obtain ⟨x10_1, rfl, HA, HK1, ⟨m1, rfl⟩⟩ := hrel
   cases gk with
   | zero => exact absurd HA.out (by simp [laws_zzFits1.l0])
   | succ k1 =>
    have H := HA.out
    clear HA
    simp only [laws_zzFits1.l0] at H
    by_cases c3 : x10_1 < (l0.length : Int)
    ·rw [if_pos c3] at H
     have c3b0 : decide (x10_1 < (l0.length : Int)) = true := decide_eq_true c3
     clear c3
     by_cases c4 : 0 ≤ x10_1
     ·rw [if_pos c4] at H
      have c4b0 : decide (0 ≤ x10_1) = true := decide_eq_true c4
      clear c4
      by_cases c5 : x10_1 < (l0.length : Int)
      ·rw [if_pos c5] at H
       have c5b0 : decide (x10_1 < (l0.length : Int)) = true := decide_eq_true c5
       clear c5
       by_cases c6 : ((rdOf ByteArray.empty l0 x10_1).size : Int) > 2147483647
       ·rw [if_pos c6] at H
        have c6b0 : decide (2147483647 < ((rdOf ByteArray.empty l0 x10_1).size : Int)) = true := decide_eq_true c6
        have c6b1 : decide (2147483647 < (rdOf ByteArray.empty l0 x10_1).size) = true := decide_eq_true (by omega)
        clear c6
        obtain rfl := Option.some.inj H
        have p102 : 0 ≤ (x10_1 : Int) := of_decide_eq_true (by first | (with_reducible assumption) | assumption)
        have q102 : x10_1 < (l0.length : Int) := of_decide_eq_true (by first | (with_reducible assumption) | assumption)
        obtain ⟨ad102, e102, hx102_0⟩ := Kd.at_string HR0.out x10_1 p102 q102
        cases e102
        replace p102 := eq_true p102
        replace q102 := eq_true q102
        go_wp2
        go_ret
        exact ⟨by first | rfl | (simp; done) | (simp [*]; done), by repeat (first | exact Drawn0.refl _ | apply Drawn0.step)⟩
       ·rw [if_neg c6] at H
        have c6b0 : decide (2147483647 < ((rdOf ByteArray.empty l0 x10_1).size : Int)) = false := decide_eq_false c6
        have c6b1 : decide (2147483647 < (rdOf ByteArray.empty l0 x10_1).size) = false := decide_eq_false (by omega)
        clear c6
        have H' := Aside0.mk H
        clear H
        have p102 : 0 ≤ (x10_1 : Int) := of_decide_eq_true (by first | (with_reducible assumption) | assumption)
        have q102 : x10_1 < (l0.length : Int) := of_decide_eq_true (by first | (with_reducible assumption) | assumption)
        obtain ⟨ad102, e102, hx102_0⟩ := Kd.at_string HR0.out x10_1 p102 q102
        cases e102
        replace p102 := eq_true p102
        replace q102 := eq_true q102
        go_wp2
        go_roundg k1
        case measure => have := HK1.out; omega
        case rel => exact ⟨(wrap64 (x10_1 + 1)), (by first | rfl | (simp; done) | (simp [*]; done)), H', ⟨by have := HK1.out; omega⟩, by repeat (first | exact Drawn0.refl _ | apply Drawn0.step)⟩
      ·rw [if_neg c5] at H
       exact absurd H (by simp)
     ·rw [if_neg c4] at H
      exact absurd H (by simp)
    ·rw [if_neg c3] at H
     have c3b0 : decide (x10_1 < (l0.length : Int)) = false := decide_eq_false c3
     clear c3
     obtain rfl := Option.some.inj H
     go_wp2
     go_ret
     exact ⟨by first | rfl | (simp; done) | (simp [*]; done), by repeat (first | exact Drawn0.refl _ | apply Drawn0.step)⟩

/-! ### spec_cranMark: function 37 -/
def spec_cranMark.f (a0 : Int) : Option (Bool) := if a0 = 46 then (some true) else (some (a0 == 45))
set_option maxHeartbeats 8000000 in
set_option maxRecDepth 100000 in
theorem spec_cranMark.calls (a0 : Int) (r : Bool) (w : World) (h : spec_cranMark.f a0 = some r) :
  Calls Tryd.prog 37 #[.int .u8 a0] w fun e w' => e = .returned (.bool r) ∧ Drawn0 w w' := by
 have H : (if a0 = 46 then (some true) else (some (a0 == 45))) = some r := h
 clear h
 by_cases c2 : a0 = 46
 ·rw [if_pos c2] at H
  have c2b0 : (a0 == 46) = true := beq_iff_eq.mpr c2
  have c2b1 : (a0 != 46) = false := bne_eq_false_iff_eq.mpr c2
  clear c2
  obtain rfl := Option.some.inj H
  go_enter Tryd.func37, Tryd.ntmps37
  go_wp2
  go_ret
  exact ⟨by first | rfl | (simp; done) | (simp [*]; done), by repeat (first | exact Drawn0.refl _ | apply Drawn0.step)⟩
 ·rw [if_neg c2] at H
  have c2b0 : (a0 == 46) = false := beq_eq_false_iff_ne.mpr c2
  have c2b1 : (a0 != 46) = true := bne_iff_ne.mpr c2
  obtain rfl := Option.some.inj H
  go_enter Tryd.func37, Tryd.ntmps37
  go_wp2
  go_ret
  exact ⟨by first | rfl | (simp; done) | (simp [*]; done), by repeat (first | exact Drawn0.refl _ | apply Drawn0.step)⟩

/-! ### spec_isPoint: function 42 -/
def spec_isPoint.f (a0 : Int) : Option (Bool) := some (a0 == 46)
set_option maxHeartbeats 8000000 in
set_option maxRecDepth 100000 in
theorem spec_isPoint.calls (a0 : Int) (r : Bool) (w : World) (h : spec_isPoint.f a0 = some r) :
  Calls Tryd.prog 42 #[.int .u8 a0] w fun e w' => e = .returned (.bool r) ∧ Drawn0 w w' := by
 have H : (some (a0 == 46)) = some r := h
 clear h
 obtain rfl := Option.some.inj H
 go_enter Tryd.func42, Tryd.ntmps42
 go_wp2
 go_ret
 exact ⟨by first | rfl | (simp; done) | (simp [*]; done), by repeat (first | exact Drawn0.refl _ | apply Drawn0.step)⟩

/-! ### spec_cut_isPoint: function 36 -/
def spec_cut_isPoint.l0 : Nat → ByteArray → List ByteArray → Int → Int → Option (List ByteArray)
 | 0, _, _, _, _ => none
 | k + 1, x0, x5, x6, x7 => if x7 ≤ (x0.size : Int) then (if x7 = (x0.size : Int) then (if 0 ≤ x6 then (if x6 ≤ x7 then (if x5.length < 8796093022208 then (spec_cut_isPoint.l0 k x0 (x5 ++ [x0.extract (x6 : Int).toNat (x7 : Int).toNat]) (wrap64 (x7 + 1)) (wrap64 (x7 + 1))) else (none)) else (none)) else (none)) else (if 0 ≤ x7 then (if x7 < (x0.size : Int) then ((spec_isPoint.f (bt x0 x7)).bind fun t106 => (if t106 = true then (if 0 ≤ x6 then (if x6 ≤ x7 then (if x5.length < 8796093022208 then (spec_cut_isPoint.l0 k x0 (x5 ++ [x0.extract (x6 : Int).toNat (x7 : Int).toNat]) (wrap64 (x7 + 1)) (wrap64 (x7 + 1))) else (none)) else (none)) else (none)) else (spec_cut_isPoint.l0 k x0 x5 x6 (wrap64 (x7 + 1))))) else (none)) else (none))) else (some x5)
def spec_cut_isPoint.f (k : Nat) (a0 : ByteArray) (a1 : Nat) : Option (List ByteArray) := spec_cut_isPoint.l0 k a0 ([] : List ByteArray) 0 0
theorem spec_cut_isPoint.mono_l : ∀ k, (∀ y0 y1 y2 y3, LeO (spec_cut_isPoint.l0 k y0 y1 y2 y3) (spec_cut_isPoint.l0 (k + 1) y0 y1 y2 y3))
 | 0 => fun _ _ _ _ r h => by simp [spec_cut_isPoint.l0] at h
 | k + 1 => by
  have ih0 := spec_cut_isPoint.mono_l k
  ·intro y0 y1 y2 y3
   unfold spec_cut_isPoint.l0
   repeat' first
   | (with_reducible exact ih0 _ _ _ _)
   | (with_reducible exact LeO.refl _)
   | (with_reducible exact LeO.none _)
   | (with_reducible refine LeO.ite ?_ ?_)
   | (with_reducible refine LeO.bind ?_ (fun _ => ?_))
   | exact ih0 _ _ _ _
   | exact LeO.none _
   | refine LeO.ite ?_ ?_
   | refine LeO.bind ?_ (fun _ => ?_)
theorem spec_cut_isPoint.mono : ∀ a0 a1 k, LeO (spec_cut_isPoint.f k a0 a1) (spec_cut_isPoint.f (k + 1) a0 a1) := by
 intro a0 a1 k
 have ih0 := spec_cut_isPoint.mono_l k
 unfold spec_cut_isPoint.f
 repeat' first
   | (with_reducible exact ih0 _ _ _ _)
   | (with_reducible exact LeO.refl _)
   | (with_reducible exact LeO.none _)
   | (with_reducible refine LeO.ite ?_ ?_)
   | (with_reducible refine LeO.bind ?_ (fun _ => ?_))
   | exact ih0 _ _ _ _
   | exact LeO.none _
   | refine LeO.ite ?_ ?_
   | refine LeO.bind ?_ (fun _ => ?_)
set_option maxHeartbeats 8000000 in
set_option maxRecDepth 100000 in
theorem spec_cut_isPoint.calls (k : Nat) (a0 : ByteArray) (a1 : Nat) (r : List ByteArray) (w : World) (h : spec_cut_isPoint.f k a0 a1 = some r) :
  Calls Tryd.prog 36 #[.string a0, .func (.func 42) #[] #[]] w fun e w' => ∃ v0_ : Value, e = .returned (v0_) ∧ Kd.R Kd.string 9 w' w.heap.size (fun _ => True) v0_ r ∧ Below w.heap.size w w' := by
 have HB := Aside0.mk (Below.refl w.heap.size w)
 have H : (spec_cut_isPoint.l0 k a0 ([] : List ByteArray) 0 0) = some r := h
 clear h
 have H' := Aside0.mk H
 clear H
 go_enter Tryd.func36, Tryd.ntmps36
 go_wp2
 go_loopg [5, 6, 7] k (fun kq v5 v6 v7 w' => ∃ (x5_1 : List ByteArray) (x6_1 : Int) (x7_1 : Int), v6 = .int .i64 x6_1 ∧ v7 = .int .i64 x7_1 ∧ Aside0 (spec_cut_isPoint.l0 kq a0 x5_1 x6_1 x7_1 = some r) ∧ Aside0 (kq ≤ k) ∧ Aside0 (Kd.R Kd.string 9 w' w.heap.size (fun _ => True) v5 x5_1) ∧ Aside0 (Below w.heap.size w w'))
 case atStart => exact ⟨(([] : List ByteArray)), (0), (0), (by first | rfl | (simp; done) | (simp [*]; done)), (by first | rfl | (simp; done) | (simp [*]; done)), H', ⟨Nat.le_refl _⟩, ⟨by first | exact Kd.R_nil _ _ _ _ _ | exact Kd.N_nil _ _ _ _ _ | exact Kd.V_nil _ _ _ _ _ | exact Kd.Q_nil _ _ _ _ _ | exact Kd.S_nil _ _ _ _ _⟩, ⟨by repeat (first | (with_reducible first | exact HB.out | apply below_alloc | apply pw_below_drewN | apply below_drew1) | exact HB.out)⟩⟩
 case round =>
  clear H'
  try clear p2
  obtain ⟨x5_1, x6_1, x7_1, rfl, rfl, HA, HK1, HO_5, HB⟩ := hrel
  cases gk with
  | zero => exact absurd HA.out (by simp [spec_cut_isPoint.l0])
  | succ k1 =>
   have H := HA.out
   clear HA
   simp only [spec_cut_isPoint.l0] at H
   by_cases c3 : x7_1 ≤ (a0.size : Int)
   ·rw [if_pos c3] at H
    have c3b0 : decide (x7_1 ≤ (a0.size : Int)) = true := decide_eq_true c3
    clear c3
    by_cases c4 : x7_1 = (a0.size : Int)
    ·rw [if_pos c4] at H
     have c4b0 : (x7_1 == (a0.size : Int)) = true := beq_iff_eq.mpr c4
     have c4b1 : (x7_1 != (a0.size : Int)) = false := bne_eq_false_iff_eq.mpr c4
     clear c4
     by_cases c5 : 0 ≤ x6_1
     ·rw [if_pos c5] at H
      have c5b0 := eq_true c5
      have c5b1 : decide (0 ≤ x6_1) = true := decide_eq_true c5
      clear c5
      by_cases c6 : x6_1 ≤ x7_1
      ·rw [if_pos c6] at H
       have c6b0 := eq_true c6
       have c6b1 : decide (x6_1 ≤ x7_1) = true := decide_eq_true c6
       clear c6
       have c7b0 := eq_true (of_decide_eq_true (by first | (with_reducible assumption) | assumption) : x7_1 ≤ (a0.size : Int))
       by_cases c8 : x5_1.length < 8796093022208
       ·rw [if_pos c8] at H
        have LMc8 := Aside0.mk c8
        clear c8
        obtain ⟨y103, hy103⟩ : ∃ y_ : List ByteArray, y_ = (x5_1 ++ [a0.extract (x6_1 : Int).toNat (x7_1 : Int).toNat]) := ⟨_, rfl⟩
        replace H : (spec_cut_isPoint.l0 k1 a0 y103 (wrap64 (x7_1 + 1)) (wrap64 (x7_1 + 1))) = some r := by first | (rw [hy103]; with_reducible exact H) | (have H2_ := (Option.bind_some _ _).symm.trans H; rw [hy103]; with_reducible exact H2_) | (have H2_ := (Option.bind_some _ _).symm.trans H; with_reducible exact H2_) | with_reducible exact H | (rw [hy103]; exact H) | exact H
        have Ny103 := Aside0.mk hy103
        clear hy103
        have H' := Aside0.mk H
        clear H
        go_wp2_with (first | ((with_reducible refine gate_builtin (b := .append) (xs := #[.tmp 25, .tmp 30]) rfl ?_); at_builtin; refine Kd.R_append Kd.string (w0 := w) w.heap.size rfl (.tmp 25) (.tmp 30) 28 9 (.string ⟨#[]⟩) 16 rfl Tryd.underlying28 info9 rfl (by decide) (by omega) u5 x5_1 (a0.extract (x6_1 : Int).toNat (x7_1 : Int).toNat) [.string (a0.extract (x6_1 : Int).toNat (x7_1 : Int).toNat)] (fun _ => True) (fun _ => False) rfl rfl ?aP (fun _ hk => hk.elim) ?aF ?aO ?aB ?aS ?aL ?_; (case aP => exact rfl); (case aB => exact (by repeat (first | (with_reducible first | exact HB.out | apply below_alloc | apply pw_below_drewN | apply below_drew1) | exact HB.out))); (case aF => exact (fun _ _ => trivial)); (case aO => exact (by (with_reducible repeat (first | apply Kd.R_alloc | apply Kd.R_drewN | apply Kd.R_drew)); exact HO_5.out)); (case aS => exact (below_size (by repeat (first | (with_reducible first | exact HB.out | apply below_alloc | apply pw_below_drewN | apply below_drew1) | exact HB.out)))); (case aL => have := LMc8.out; omega); intro v104 w9 ho hb hg hat; rw [← Ny103.out] at ho; have n0_ := Aside0.mk (hb); have n1_ := Aside0.mk (ho); clear HB; clear HO_5; have HB := n0_; have HO105 := n1_; clear n0_ n1_; clear ho hb hg hat))
        go_roundg k1
        case measure => have := HK1.out; omega
        case rel => exact ⟨(y103), (wrap64 (x7_1 + 1)), (wrap64 (x7_1 + 1)), (by first | rfl | (simp; done) | (simp [*]; done)), (by first | rfl | (simp; done) | (simp [*]; done)), H', ⟨by have := HK1.out; omega⟩, ⟨by (with_reducible repeat (first | apply Kd.R_alloc | apply Kd.R_drewN | apply Kd.R_drew)); exact HO105.out⟩, ⟨by repeat (first | (with_reducible first | exact HB.out | apply below_alloc | apply pw_below_drewN | apply below_drew1) | exact HB.out)⟩⟩
       ·rw [if_neg c8] at H
        exact absurd H (by simp)
      ·rw [if_neg c6] at H
       exact absurd H (by simp)
     ·rw [if_neg c5] at H
      exact absurd H (by simp)
    ·rw [if_neg c4] at H
     have c4b0 : (x7_1 == (a0.size : Int)) = false := beq_eq_false_iff_ne.mpr c4
     have c4b1 : (x7_1 != (a0.size : Int)) = true := bne_iff_ne.mpr c4
     by_cases c10 : 0 ≤ x7_1
     ·rw [if_pos c10] at H
      have c10b0 : decide (0 ≤ x7_1) = true := decide_eq_true c10
      clear c10
      by_cases c11 : x7_1 < (a0.size : Int)
      ·rw [if_pos c11] at H
       have c11b0 : decide (x7_1 < (a0.size : Int)) = true := decide_eq_true c11
       clear c11
       replace H := Option.bind_eq_some_iff.mp H
       obtain ⟨t106, A130, H⟩ := H
       replace H : (if t106 = true then (if 0 ≤ x6_1 then (if x6_1 ≤ x7_1 then (if x5_1.length < 8796093022208 then (spec_cut_isPoint.l0 k1 a0 (x5_1 ++ [a0.extract (x6_1 : Int).toNat (x7_1 : Int).toNat]) (wrap64 (x7_1 + 1)) (wrap64 (x7_1 + 1))) else (none)) else (none)) else (none)) else (spec_cut_isPoint.l0 k1 a0 x5_1 x6_1 (wrap64 (x7_1 + 1)))) = some r := H
       have A13 := Aside0.mk A130
       clear A130
       by_cases c14 : t106 = true
       ·subst c14
        have H1 : (if 0 ≤ x6_1 then (if x6_1 ≤ x7_1 then (if x5_1.length < 8796093022208 then (spec_cut_isPoint.l0 k1 a0 (x5_1 ++ [a0.extract (x6_1 : Int).toNat (x7_1 : Int).toNat]) (wrap64 (x7_1 + 1)) (wrap64 (x7_1 + 1))) else (none)) else (none)) else (none)) = some r := by rw [if_pos rfl] at H; exact H
        clear H
        have H := H1
        clear H1
        by_cases c15 : 0 ≤ x6_1
        ·rw [if_pos c15] at H
         have c15b0 := eq_true c15
         have c15b1 : decide (0 ≤ x6_1) = true := decide_eq_true c15
         clear c15
         by_cases c16 : x6_1 ≤ x7_1
         ·rw [if_pos c16] at H
          have c16b0 := eq_true c16
          have c16b1 : decide (x6_1 ≤ x7_1) = true := decide_eq_true c16
          clear c16
          have c17b0 := eq_true (of_decide_eq_true (by first | (with_reducible assumption) | assumption) : x7_1 ≤ (a0.size : Int))
          by_cases c18 : x5_1.length < 8796093022208
          ·rw [if_pos c18] at H
           have LMc18 := Aside0.mk c18
           clear c18
           obtain ⟨y107, hy107⟩ : ∃ y_ : List ByteArray, y_ = (x5_1 ++ [a0.extract (x6_1 : Int).toNat (x7_1 : Int).toNat]) := ⟨_, rfl⟩
           replace H : (spec_cut_isPoint.l0 k1 a0 y107 (wrap64 (x7_1 + 1)) (wrap64 (x7_1 + 1))) = some r := by first | (rw [hy107]; with_reducible exact H) | (have H2_ := (Option.bind_some _ _).symm.trans H; rw [hy107]; with_reducible exact H2_) | (have H2_ := (Option.bind_some _ _).symm.trans H; with_reducible exact H2_) | with_reducible exact H | (rw [hy107]; exact H) | exact H
           have Ny107 := Aside0.mk hy107
           clear hy107
           have H' := Aside0.mk H
           clear H
           have p12 : 0 ≤ (x7_1 : Int) := of_decide_eq_true (by first | (with_reducible assumption) | assumption)
           have q12 : x7_1 < (a0.size : Int) := of_decide_eq_true (by first | (with_reducible assumption) | assumption)
           have hx12 := bt_at a0 x7_1
           replace p12 := eq_true p12
           replace q12 := eq_true q12
           go_wp2_with (first | (go_at_call 42; (with_reducible refine (spec_isPoint.calls (bt a0 x7_1) true _ A13.out).mono ?_); rintro e w' ⟨rfl, ⟨nd, rfl⟩⟩) | ((with_reducible refine gate_builtin (b := .append) (xs := #[.tmp 25, .tmp 30]) rfl ?_); at_builtin; refine Kd.R_append Kd.string (w0 := w) w.heap.size rfl (.tmp 25) (.tmp 30) 28 9 (.string ⟨#[]⟩) 16 rfl Tryd.underlying28 info9 rfl (by decide) (by omega) u5 x5_1 (a0.extract (x6_1 : Int).toNat (x7_1 : Int).toNat) [.string (a0.extract (x6_1 : Int).toNat (x7_1 : Int).toNat)] (fun _ => True) (fun _ => False) rfl rfl ?aP (fun _ hk => hk.elim) ?aF ?aO ?aB ?aS ?aL ?_; (case aP => exact rfl); (case aB => exact (by repeat (first | (with_reducible first | exact HB.out | apply below_alloc | apply pw_below_drewN | apply below_drew1) | exact HB.out))); (case aF => exact (fun _ _ => trivial)); (case aO => exact (by (with_reducible repeat (first | apply Kd.R_alloc | apply Kd.R_drewN | apply Kd.R_drew)); exact HO_5.out)); (case aS => exact (below_size (by repeat (first | (with_reducible first | exact HB.out | apply below_alloc | apply pw_below_drewN | apply below_drew1) | exact HB.out)))); (case aL => have := LMc18.out; omega); intro v108 w19 ho hb hg hat; rw [← Ny107.out] at ho; have n0_ := Aside0.mk (hb); have n1_ := Aside0.mk (ho); clear HB; clear HO_5; have HB := n0_; have HO109 := n1_; clear n0_ n1_; clear ho hb hg hat))
           go_roundg k1
           case measure => have := HK1.out; omega
           case rel => exact ⟨(y107), (wrap64 (x7_1 + 1)), (wrap64 (x7_1 + 1)), (by first | rfl | (simp; done) | (simp [*]; done)), (by first | rfl | (simp; done) | (simp [*]; done)), H', ⟨by have := HK1.out; omega⟩, ⟨by (with_reducible repeat (first | apply Kd.R_alloc | apply Kd.R_drewN | apply Kd.R_drew)); exact HO109.out⟩, ⟨by repeat (first | (with_reducible first | exact HB.out | apply below_alloc | apply pw_below_drewN | apply below_drew1) | exact HB.out)⟩⟩
          ·rw [if_neg c18] at H
           exact absurd H (by simp)
         ·rw [if_neg c16] at H
          exact absurd H (by simp)
        ·rw [if_neg c15] at H
         exact absurd H (by simp)
       ·replace c14 := Bool.eq_false_iff.mpr c14
        subst c14
        have H1 : (spec_cut_isPoint.l0 k1 a0 x5_1 x6_1 (wrap64 (x7_1 + 1))) = some r := by rw [if_neg (show ¬ (false = true) by decide)] at H; exact H
        clear H
        have H := H1
        clear H1
        have H' := Aside0.mk H
        clear H
        have p12 : 0 ≤ (x7_1 : Int) := of_decide_eq_true (by first | (with_reducible assumption) | assumption)
        have q12 : x7_1 < (a0.size : Int) := of_decide_eq_true (by first | (with_reducible assumption) | assumption)
        have hx12 := bt_at a0 x7_1
        replace p12 := eq_true p12
        replace q12 := eq_true q12
        go_wp2_with (first | (go_at_call 42; (with_reducible refine (spec_isPoint.calls (bt a0 x7_1) false _ A13.out).mono ?_); rintro e w' ⟨rfl, ⟨nd, rfl⟩⟩))
        go_roundg k1
        case measure => have := HK1.out; omega
        case rel => exact ⟨(x5_1), (x6_1), (wrap64 (x7_1 + 1)), (by first | rfl | (simp; done) | (simp [*]; done)), (by first | rfl | (simp; done) | (simp [*]; done)), H', ⟨by have := HK1.out; omega⟩, ⟨by (with_reducible repeat (first | apply Kd.R_alloc | apply Kd.R_drewN | apply Kd.R_drew)); exact HO_5.out⟩, ⟨by repeat (first | (with_reducible first | exact HB.out | apply below_alloc | apply pw_below_drewN | apply below_drew1) | exact HB.out)⟩⟩
      ·rw [if_neg c11] at H
       exact absurd H (by simp)
     ·rw [if_neg c10] at H
      exact absurd H (by simp)
   ·rw [if_neg c3] at H
    have c3b0 : decide (x7_1 ≤ (a0.size : Int)) = false := decide_eq_false c3
    clear c3
    obtain rfl := Option.some.inj H
    go_wp2
    go_ret
    exact ⟨_, by first | rfl | (simp [errW_none, errW_some] <;> rfl) | (simp [*, errW_none, errW_some] <;> rfl), by (with_reducible repeat (first | apply Kd.R_alloc | apply Kd.R_drewN | apply Kd.R_drew)); exact HO_5.out, by repeat (first | (with_reducible first | exact HB.out | apply below_alloc | apply pw_below_drewN | apply below_drew1) | exact HB.out)⟩

/-! ### spec_cut_cranMark: function 36 -/
def spec_cut_cranMark.l0 : Nat → ByteArray → List ByteArray → Int → Int → Option (List ByteArray)
 | 0, _, _, _, _ => none
 | k + 1, x0, x5, x6, x7 => if x7 ≤ (x0.size : Int) then (if x7 = (x0.size : Int) then (if 0 ≤ x6 then (if x6 ≤ x7 then (if x5.length < 8796093022208 then (spec_cut_cranMark.l0 k x0 (x5 ++ [x0.extract (x6 : Int).toNat (x7 : Int).toNat]) (wrap64 (x7 + 1)) (wrap64 (x7 + 1))) else (none)) else (none)) else (none)) else (if 0 ≤ x7 then (if x7 < (x0.size : Int) then ((spec_cranMark.f (bt x0 x7)).bind fun t113 => (if t113 = true then (if 0 ≤ x6 then (if x6 ≤ x7 then (if x5.length < 8796093022208 then (spec_cut_cranMark.l0 k x0 (x5 ++ [x0.extract (x6 : Int).toNat (x7 : Int).toNat]) (wrap64 (x7 + 1)) (wrap64 (x7 + 1))) else (none)) else (none)) else (none)) else (spec_cut_cranMark.l0 k x0 x5 x6 (wrap64 (x7 + 1))))) else (none)) else (none))) else (some x5)
def spec_cut_cranMark.f (k : Nat) (a0 : ByteArray) (a1 : Nat) : Option (List ByteArray) := spec_cut_cranMark.l0 k a0 ([] : List ByteArray) 0 0
theorem spec_cut_cranMark.mono_l : ∀ k, (∀ y0 y1 y2 y3, LeO (spec_cut_cranMark.l0 k y0 y1 y2 y3) (spec_cut_cranMark.l0 (k + 1) y0 y1 y2 y3))
 | 0 => fun _ _ _ _ r h => by simp [spec_cut_cranMark.l0] at h
 | k + 1 => by
  have ih0 := spec_cut_cranMark.mono_l k
  ·intro y0 y1 y2 y3
   unfold spec_cut_cranMark.l0
   repeat' first
   | (with_reducible exact ih0 _ _ _ _)
   | (with_reducible exact LeO.refl _)
   | (with_reducible exact LeO.none _)
   | (with_reducible refine LeO.ite ?_ ?_)
   | (with_reducible refine LeO.bind ?_ (fun _ => ?_))
   | exact ih0 _ _ _ _
   | exact LeO.none _
   | refine LeO.ite ?_ ?_
   | refine LeO.bind ?_ (fun _ => ?_)
theorem spec_cut_cranMark.mono : ∀ a0 a1 k, LeO (spec_cut_cranMark.f k a0 a1) (spec_cut_cranMark.f (k + 1) a0 a1) := by
 intro a0 a1 k
 have ih0 := spec_cut_cranMark.mono_l k
 unfold spec_cut_cranMark.f
 repeat' first
   | (with_reducible exact ih0 _ _ _ _)
   | (with_reducible exact LeO.refl _)
   | (with_reducible exact LeO.none _)
   | (with_reducible refine LeO.ite ?_ ?_)
   | (with_reducible refine LeO.bind ?_ (fun _ => ?_))
   | exact ih0 _ _ _ _
   | exact LeO.none _
   | refine LeO.ite ?_ ?_
   | refine LeO.bind ?_ (fun _ => ?_)
set_option maxHeartbeats 8000000 in
set_option maxRecDepth 100000 in
theorem spec_cut_cranMark.calls (k : Nat) (a0 : ByteArray) (a1 : Nat) (r : List ByteArray) (w : World) (h : spec_cut_cranMark.f k a0 a1 = some r) :
  Calls Tryd.prog 36 #[.string a0, .func (.func 37) #[] #[]] w fun e w' => ∃ v0_ : Value, e = .returned (v0_) ∧ Kd.R Kd.string 9 w' w.heap.size (fun _ => True) v0_ r ∧ Below w.heap.size w w' := by
 have HB := Aside0.mk (Below.refl w.heap.size w)
 have H : (spec_cut_cranMark.l0 k a0 ([] : List ByteArray) 0 0) = some r := h
 clear h
 have H' := Aside0.mk H
 clear H
 go_enter Tryd.func36, Tryd.ntmps36
 go_wp2
 go_loopg [5, 6, 7] k (fun kq v5 v6 v7 w' => ∃ (x5_1 : List ByteArray) (x6_1 : Int) (x7_1 : Int), v6 = .int .i64 x6_1 ∧ v7 = .int .i64 x7_1 ∧ Aside0 (spec_cut_cranMark.l0 kq a0 x5_1 x6_1 x7_1 = some r) ∧ Aside0 (kq ≤ k) ∧ Aside0 (Kd.R Kd.string 9 w' w.heap.size (fun _ => True) v5 x5_1) ∧ Aside0 (Below w.heap.size w w'))
 case atStart => exact ⟨(([] : List ByteArray)), (0), (0), (by first | rfl | (simp; done) | (simp [*]; done)), (by first | rfl | (simp; done) | (simp [*]; done)), H', ⟨Nat.le_refl _⟩, ⟨by first | exact Kd.R_nil _ _ _ _ _ | exact Kd.N_nil _ _ _ _ _ | exact Kd.V_nil _ _ _ _ _ | exact Kd.Q_nil _ _ _ _ _ | exact Kd.S_nil _ _ _ _ _⟩, ⟨by repeat (first | (with_reducible first | exact HB.out | apply below_alloc | apply pw_below_drewN | apply below_drew1) | exact HB.out)⟩⟩
 case round =>
  clear H'
  try clear p2
  obtain ⟨x5_1, x6_1, x7_1, rfl, rfl, HA, HK1, HO_5, HB⟩ := hrel
  cases gk with
  | zero => exact absurd HA.out (by simp [spec_cut_cranMark.l0])
  | succ k1 =>
   have H := HA.out
   clear HA
   simp only [spec_cut_cranMark.l0] at H
   by_cases c3 : x7_1 ≤ (a0.size : Int)
   ·rw [if_pos c3] at H
    have c3b0 : decide (x7_1 ≤ (a0.size : Int)) = true := decide_eq_true c3
    clear c3
    by_cases c4 : x7_1 = (a0.size : Int)
    ·rw [if_pos c4] at H
     have c4b0 : (x7_1 == (a0.size : Int)) = true := beq_iff_eq.mpr c4
     have c4b1 : (x7_1 != (a0.size : Int)) = false := bne_eq_false_iff_eq.mpr c4
     clear c4
     by_cases c5 : 0 ≤ x6_1
     ·rw [if_pos c5] at H
      have c5b0 := eq_true c5
      have c5b1 : decide (0 ≤ x6_1) = true := decide_eq_true c5
      clear c5
      by_cases c6 : x6_1 ≤ x7_1
      ·rw [if_pos c6] at H
       have c6b0 := eq_true c6
       have c6b1 : decide (x6_1 ≤ x7_1) = true := decide_eq_true c6
       clear c6
       have c7b0 := eq_true (of_decide_eq_true (by first | (with_reducible assumption) | assumption) : x7_1 ≤ (a0.size : Int))
       by_cases c8 : x5_1.length < 8796093022208
       ·rw [if_pos c8] at H
        have LMc8 := Aside0.mk c8
        clear c8
        obtain ⟨y110, hy110⟩ : ∃ y_ : List ByteArray, y_ = (x5_1 ++ [a0.extract (x6_1 : Int).toNat (x7_1 : Int).toNat]) := ⟨_, rfl⟩
        replace H : (spec_cut_cranMark.l0 k1 a0 y110 (wrap64 (x7_1 + 1)) (wrap64 (x7_1 + 1))) = some r := by first | (rw [hy110]; with_reducible exact H) | (have H2_ := (Option.bind_some _ _).symm.trans H; rw [hy110]; with_reducible exact H2_) | (have H2_ := (Option.bind_some _ _).symm.trans H; with_reducible exact H2_) | with_reducible exact H | (rw [hy110]; exact H) | exact H
        have Ny110 := Aside0.mk hy110
        clear hy110
        have H' := Aside0.mk H
        clear H
        go_wp2_with (first | ((with_reducible refine gate_builtin (b := .append) (xs := #[.tmp 25, .tmp 30]) rfl ?_); at_builtin; refine Kd.R_append Kd.string (w0 := w) w.heap.size rfl (.tmp 25) (.tmp 30) 28 9 (.string ⟨#[]⟩) 16 rfl Tryd.underlying28 info9 rfl (by decide) (by omega) u5 x5_1 (a0.extract (x6_1 : Int).toNat (x7_1 : Int).toNat) [.string (a0.extract (x6_1 : Int).toNat (x7_1 : Int).toNat)] (fun _ => True) (fun _ => False) rfl rfl ?aP (fun _ hk => hk.elim) ?aF ?aO ?aB ?aS ?aL ?_; (case aP => exact rfl); (case aB => exact (by repeat (first | (with_reducible first | exact HB.out | apply below_alloc | apply pw_below_drewN | apply below_drew1) | exact HB.out))); (case aF => exact (fun _ _ => trivial)); (case aO => exact (by (with_reducible repeat (first | apply Kd.R_alloc | apply Kd.R_drewN | apply Kd.R_drew)); exact HO_5.out)); (case aS => exact (below_size (by repeat (first | (with_reducible first | exact HB.out | apply below_alloc | apply pw_below_drewN | apply below_drew1) | exact HB.out)))); (case aL => have := LMc8.out; omega); intro v111 w9 ho hb hg hat; rw [← Ny110.out] at ho; have n0_ := Aside0.mk (hb); have n1_ := Aside0.mk (ho); clear HB; clear HO_5; have HB := n0_; have HO112 := n1_; clear n0_ n1_; clear ho hb hg hat))
        go_roundg k1
        case measure => have := HK1.out; omega
        case rel => exact ⟨(y110), (wrap64 (x7_1 + 1)), (wrap64 (x7_1 + 1)), (by first | rfl | (simp; done) | (simp [*]; done)), (by first | rfl | (simp; done) | (simp [*]; done)), H', ⟨by have := HK1.out; omega⟩, ⟨by (with_reducible repeat (first | apply Kd.R_alloc | apply Kd.R_drewN | apply Kd.R_drew)); exact HO112.out⟩, ⟨by repeat (first | (with_reducible first | exact HB.out | apply below_alloc | apply pw_below_drewN | apply below_drew1) | exact HB.out)⟩⟩
       ·rw [if_neg c8] at H
        exact absurd H (by simp)
      ·rw [if_neg c6] at H
       exact absurd H (by simp)
     ·rw [if_neg c5] at H
      exact absurd H (by simp)
    ·rw [if_neg c4] at H
     have c4b0 : (x7_1 == (a0.size : Int)) = false := beq_eq_false_iff_ne.mpr c4
     have c4b1 : (x7_1 != (a0.size : Int)) = true := bne_iff_ne.mpr c4
     by_cases c10 : 0 ≤ x7_1
     ·rw [if_pos c10] at H
      have c10b0 : decide (0 ≤ x7_1) = true := decide_eq_true c10
      clear c10
      by_cases c11 : x7_1 < (a0.size : Int)
      ·rw [if_pos c11] at H
       have c11b0 : decide (x7_1 < (a0.size : Int)) = true := decide_eq_true c11
       clear c11
       replace H := Option.bind_eq_some_iff.mp H
       obtain ⟨t113, A130, H⟩ := H
       replace H : (if t113 = true then (if 0 ≤ x6_1 then (if x6_1 ≤ x7_1 then (if x5_1.length < 8796093022208 then (spec_cut_cranMark.l0 k1 a0 (x5_1 ++ [a0.extract (x6_1 : Int).toNat (x7_1 : Int).toNat]) (wrap64 (x7_1 + 1)) (wrap64 (x7_1 + 1))) else (none)) else (none)) else (none)) else (spec_cut_cranMark.l0 k1 a0 x5_1 x6_1 (wrap64 (x7_1 + 1)))) = some r := H
       have A13 := Aside0.mk A130
       clear A130
       by_cases c14 : t113 = true
       ·subst c14
        have H1 : (if 0 ≤ x6_1 then (if x6_1 ≤ x7_1 then (if x5_1.length < 8796093022208 then (spec_cut_cranMark.l0 k1 a0 (x5_1 ++ [a0.extract (x6_1 : Int).toNat (x7_1 : Int).toNat]) (wrap64 (x7_1 + 1)) (wrap64 (x7_1 + 1))) else (none)) else (none)) else (none)) = some r := by rw [if_pos rfl] at H; exact H
        clear H
        have H := H1
        clear H1
        by_cases c15 : 0 ≤ x6_1
        ·rw [if_pos c15] at H
         have c15b0 := eq_true c15
         have c15b1 : decide (0 ≤ x6_1) = true := decide_eq_true c15
         clear c15
         by_cases c16 : x6_1 ≤ x7_1
         ·rw [if_pos c16] at H
          have c16b0 := eq_true c16
          have c16b1 : decide (x6_1 ≤ x7_1) = true := decide_eq_true c16
          clear c16
          have c17b0 := eq_true (of_decide_eq_true (by first | (with_reducible assumption) | assumption) : x7_1 ≤ (a0.size : Int))
          by_cases c18 : x5_1.length < 8796093022208
          ·rw [if_pos c18] at H
           have LMc18 := Aside0.mk c18
           clear c18
           obtain ⟨y114, hy114⟩ : ∃ y_ : List ByteArray, y_ = (x5_1 ++ [a0.extract (x6_1 : Int).toNat (x7_1 : Int).toNat]) := ⟨_, rfl⟩
           replace H : (spec_cut_cranMark.l0 k1 a0 y114 (wrap64 (x7_1 + 1)) (wrap64 (x7_1 + 1))) = some r := by first | (rw [hy114]; with_reducible exact H) | (have H2_ := (Option.bind_some _ _).symm.trans H; rw [hy114]; with_reducible exact H2_) | (have H2_ := (Option.bind_some _ _).symm.trans H; with_reducible exact H2_) | with_reducible exact H | (rw [hy114]; exact H) | exact H
           have Ny114 := Aside0.mk hy114
           clear hy114
           have H' := Aside0.mk H
           clear H
           have p12 : 0 ≤ (x7_1 : Int) := of_decide_eq_true (by first | (with_reducible assumption) | assumption)
           have q12 : x7_1 < (a0.size : Int) := of_decide_eq_true (by first | (with_reducible assumption) | assumption)
           have hx12 := bt_at a0 x7_1
           replace p12 := eq_true p12
           replace q12 := eq_true q12
           go_wp2_with (first | (go_at_call 37; (with_reducible refine (spec_cranMark.calls (bt a0 x7_1) true _ A13.out).mono ?_); rintro e w' ⟨rfl, ⟨nd, rfl⟩⟩) | ((with_reducible refine gate_builtin (b := .append) (xs := #[.tmp 25, .tmp 30]) rfl ?_); at_builtin; refine Kd.R_append Kd.string (w0 := w) w.heap.size rfl (.tmp 25) (.tmp 30) 28 9 (.string ⟨#[]⟩) 16 rfl Tryd.underlying28 info9 rfl (by decide) (by omega) u5 x5_1 (a0.extract (x6_1 : Int).toNat (x7_1 : Int).toNat) [.string (a0.extract (x6_1 : Int).toNat (x7_1 : Int).toNat)] (fun _ => True) (fun _ => False) rfl rfl ?aP (fun _ hk => hk.elim) ?aF ?aO ?aB ?aS ?aL ?_; (case aP => exact rfl); (case aB => exact (by repeat (first | (with_reducible first | exact HB.out | apply below_alloc | apply pw_below_drewN | apply below_drew1) | exact HB.out))); (case aF => exact (fun _ _ => trivial)); (case aO => exact (by (with_reducible repeat (first | apply Kd.R_alloc | apply Kd.R_drewN | apply Kd.R_drew)); exact HO_5.out)); (case aS => exact (below_size (by repeat (first | (with_reducible first | exact HB.out | apply below_alloc | apply pw_below_drewN | apply below_drew1) | exact HB.out)))); (case aL => have := LMc18.out; omega); intro v115 w19 ho hb hg hat; rw [← Ny114.out] at ho; have n0_ := Aside0.mk (hb); have n1_ := Aside0.mk (ho); clear HB; clear HO_5; have HB := n0_; have HO116 := n1_; clear n0_ n1_; clear ho hb hg hat))
           go_roundg k1
           case measure => have := HK1.out; omega
           case rel => exact ⟨(y114), (wrap64 (x7_1 + 1)), (wrap64 (x7_1 + 1)), (by first | rfl | (simp; done) | (simp [*]; done)), (by first | rfl | (simp; done) | (simp [*]; done)), H', ⟨by have := HK1.out; omega⟩, ⟨by (with_reducible repeat (first | apply Kd.R_alloc | apply Kd.R_drewN | apply Kd.R_drew)); exact HO116.out⟩, ⟨by repeat (first | (with_reducible first | exact HB.out | apply below_alloc | apply pw_below_drewN | apply below_drew1) | exact HB.out)⟩⟩
          ·rw [if_neg c18] at H
           exact absurd H (by simp)
         ·rw [if_neg c16] at H
          exact absurd H (by simp)
        ·rw [if_neg c15] at H
         exact absurd H (by simp)
       ·replace c14 := Bool.eq_false_iff.mpr c14
        subst c14
        have H1 : (spec_cut_cranMark.l0 k1 a0 x5_1 x6_1 (wrap64 (x7_1 + 1))) = some r := by rw [if_neg (show ¬ (false = true) by decide)] at H; exact H
        clear H
        have H := H1
        clear H1
        have H' := Aside0.mk H
        clear H
        have p12 : 0 ≤ (x7_1 : Int) := of_decide_eq_true (by first | (with_reducible assumption) | assumption)
        have q12 : x7_1 < (a0.size : Int) := of_decide_eq_true (by first | (with_reducible assumption) | assumption)
        have hx12 := bt_at a0 x7_1
        replace p12 := eq_true p12
        replace q12 := eq_true q12
        go_wp2_with (first | (go_at_call 37; (with_reducible refine (spec_cranMark.calls (bt a0 x7_1) false _ A13.out).mono ?_); rintro e w' ⟨rfl, ⟨nd, rfl⟩⟩))
        go_roundg k1
        case measure => have := HK1.out; omega
        case rel => exact ⟨(x5_1), (x6_1), (wrap64 (x7_1 + 1)), (by first | rfl | (simp; done) | (simp [*]; done)), (by first | rfl | (simp; done) | (simp [*]; done)), H', ⟨by have := HK1.out; omega⟩, ⟨by (with_reducible repeat (first | apply Kd.R_alloc | apply Kd.R_drewN | apply Kd.R_drew)); exact HO_5.out⟩, ⟨by repeat (first | (with_reducible first | exact HB.out | apply below_alloc | apply pw_below_drewN | apply below_drew1) | exact HB.out)⟩⟩
      ·rw [if_neg c11] at H
       exact absurd H (by simp)
     ·rw [if_neg c10] at H
      exact absurd H (by simp)
   ·rw [if_neg c3] at H
    have c3b0 : decide (x7_1 ≤ (a0.size : Int)) = false := decide_eq_false c3
    clear c3
    obtain rfl := Option.some.inj H
    go_wp2
    go_ret
    exact ⟨_, by first | rfl | (simp [errW_none, errW_some] <;> rfl) | (simp [*, errW_none, errW_some] <;> rfl), by (with_reducible repeat (first | apply Kd.R_alloc | apply Kd.R_drewN | apply Kd.R_drew)); exact HO_5.out, by repeat (first | (with_reducible first | exact HB.out | apply below_alloc | apply pw_below_drewN | apply below_drew1) | exact HB.out)⟩

/-! ### spec_Ascii: function 52 -/
def spec_Ascii.l0 : Nat → ByteArray → Int → Option (Bool)
 | 0, _, _ => none
 | k + 1, x0, x3 => if x3 < (x0.size : Int) then (if 0 ≤ x3 then (if (bt x0 x3) > 127 then (some false) else (spec_Ascii.l0 k x0 (wrap64 (x3 + 1)))) else (none)) else (some true)
def spec_Ascii.f (k : Nat) (a0 : ByteArray) : Option (Bool) := spec_Ascii.l0 k a0 0
theorem spec_Ascii.mono_l : ∀ k, (∀ y0 y1, LeO (spec_Ascii.l0 k y0 y1) (spec_Ascii.l0 (k + 1) y0 y1))
 | 0 => fun _ _ r h => by simp [spec_Ascii.l0] at h
 | k + 1 => by
  have ih0 := spec_Ascii.mono_l k
  ·intro y0 y1
   unfold spec_Ascii.l0
   repeat' first
   | (with_reducible exact ih0 _ _)
   | (with_reducible exact LeO.refl _)
   | (with_reducible exact LeO.none _)
   | (with_reducible refine LeO.ite ?_ ?_)
   | (with_reducible refine LeO.bind ?_ (fun _ => ?_))
   | exact ih0 _ _
   | exact LeO.none _
   | refine LeO.ite ?_ ?_
   | refine LeO.bind ?_ (fun _ => ?_)
theorem spec_Ascii.mono : ∀ a0 k, LeO (spec_Ascii.f k a0) (spec_Ascii.f (k + 1) a0) := by
 intro a0 k
 have ih0 := spec_Ascii.mono_l k
 unfold spec_Ascii.f
 repeat' first
   | (with_reducible exact ih0 _ _)
   | (with_reducible exact LeO.refl _)
   | (with_reducible exact LeO.none _)
   | (with_reducible refine LeO.ite ?_ ?_)
   | (with_reducible refine LeO.bind ?_ (fun _ => ?_))
   | exact ih0 _ _
   | exact LeO.none _
   | refine LeO.ite ?_ ?_
   | refine LeO.bind ?_ (fun _ => ?_)
set_option maxHeartbeats 8000000 in
set_option maxRecDepth 100000 in
theorem spec_Ascii.calls (k : Nat) (a0 : ByteArray) (r : Bool) (w : World) (h : spec_Ascii.f k a0 = some r) :
  Calls Tryd.prog 52 #[.string a0] w fun e w' => e = .returned (.bool r) ∧ Drawn0 w w' := by
 have H : (spec_Ascii.l0 k a0 0) = some r := h
 clear h
 have H' := Aside0.mk H
 clear H
 go_enter Tryd.func52, Tryd.ntmps52
 go_wp2
 go_loopg [3] k (fun kq v3 w' => ∃ (x3_1 : Int), v3 = .int .i64 x3_1 ∧ Aside0 (spec_Ascii.l0 kq a0 x3_1 = some r) ∧ Aside0 (kq ≤ k) ∧ Drawn0 w w')
 case atStart => exact ⟨(0), (by first | rfl | (simp; done) | (simp [*]; done)), H', ⟨Nat.le_refl _⟩, by repeat (first | exact Drawn0.refl _ | apply Drawn0.step)⟩
 case round =>
  clear H'
  obtain ⟨x3_1, rfl, HA, HK1, ⟨m1, rfl⟩⟩ := hrel
  cases gk with
  | zero => exact absurd HA.out (by simp [spec_Ascii.l0])
  | succ k1 =>
   have H := HA.out
   clear HA
   simp only [spec_Ascii.l0] at H
   by_cases c2 : x3_1 < (a0.size : Int)
   ·rw [if_pos c2] at H
    have c2b0 : decide (x3_1 < (a0.size : Int)) = true := decide_eq_true c2
    clear c2
    by_cases c3 : 0 ≤ x3_1
    ·rw [if_pos c3] at H
     have c3b0 : decide (0 ≤ x3_1) = true := decide_eq_true c3
     clear c3
     by_cases c5 : (bt a0 x3_1) > 127
     ·rw [if_pos c5] at H
      have c5b0 : decide (127 < (bt a0 x3_1)) = true := decide_eq_true c5
      clear c5
      obtain rfl := Option.some.inj H
      have p4 : 0 ≤ (x3_1 : Int) := of_decide_eq_true (by first | (with_reducible assumption) | assumption)
      have q4 : x3_1 < (a0.size : Int) := of_decide_eq_true (by first | (with_reducible assumption) | assumption)
      have hx4 := bt_at a0 x3_1
      replace p4 := eq_true p4
      replace q4 := eq_true q4
      go_wp2
      go_ret
      exact ⟨by first | rfl | (simp; done) | (simp [*]; done), by repeat (first | exact Drawn0.refl _ | apply Drawn0.step)⟩
     ·rw [if_neg c5] at H
      have c5b0 : decide (127 < (bt a0 x3_1)) = false := decide_eq_false c5
      clear c5
      have H' := Aside0.mk H
      clear H
      have p4 : 0 ≤ (x3_1 : Int) := of_decide_eq_true (by first | (with_reducible assumption) | assumption)
      have q4 : x3_1 < (a0.size : Int) := of_decide_eq_true (by first | (with_reducible assumption) | assumption)
      have hx4 := bt_at a0 x3_1
      replace p4 := eq_true p4
      replace q4 := eq_true q4
      go_wp2
      go_roundg k1
      case measure => have := HK1.out; omega
      case rel => exact ⟨(wrap64 (x3_1 + 1)), (by first | rfl | (simp; done) | (simp [*]; done)), H', ⟨by have := HK1.out; omega⟩, by repeat (first | exact Drawn0.refl _ | apply Drawn0.step)⟩
    ·rw [if_neg c3] at H
     exact absurd H (by simp)
   ·rw [if_neg c2] at H
    have c2b0 : decide (x3_1 < (a0.size : Int)) = false := decide_eq_false c2
    clear c2
    obtain rfl := Option.some.inj H
    go_wp2
    go_ret
    exact ⟨by first | rfl | (simp; done) | (simp [*]; done), by repeat (first | exact Drawn0.refl _ | apply Drawn0.step)⟩

/-! ### spec_isDigit: function 43 -/
def spec_isDigit.f (a0 : Int) : Option (Bool) := if a0 ≥ 48 then (some (decide (a0 ≤ 57))) else (some false)
set_option maxHeartbeats 8000000 in
set_option maxRecDepth 100000 in
theorem spec_isDigit.calls (a0 : Int) (r : Bool) (w : World) (h : spec_isDigit.f a0 = some r) :
  Calls Tryd.prog 43 #[.int .u8 a0] w fun e w' => e = .returned (.bool r) ∧ Drawn0 w w' := by
 have H : (if a0 ≥ 48 then (some (decide (a0 ≤ 57))) else (some false)) = some r := h
 clear h
 by_cases c2 : a0 ≥ 48
 ·rw [if_pos c2] at H
  have c2b0 : decide (48 ≤ a0) = true := decide_eq_true c2
  clear c2
  obtain rfl := Option.some.inj H
  go_enter Tryd.func43, Tryd.ntmps43
  go_wp2
  go_ret
  exact ⟨by first | rfl | (simp; done) | (simp [*]; done), by repeat (first | exact Drawn0.refl _ | apply Drawn0.step)⟩
 ·rw [if_neg c2] at H
  have c2b0 : decide (48 ≤ a0) = false := decide_eq_false c2
  clear c2
  obtain rfl := Option.some.inj H
  go_enter Tryd.func43, Tryd.ntmps43
  go_wp2
  go_ret
  exact ⟨by first | rfl | (simp; done) | (simp [*]; done), by repeat (first | exact Drawn0.refl _ | apply Drawn0.step)⟩

/-! ### spec_allDigits: function 45 -/
def spec_allDigits.l0 : Nat → ByteArray → Int → Option (Bool)
 | 0, _, _ => none
 | k + 1, x0, x3 => if x3 < (x0.size : Int) then (if 0 ≤ x3 then ((spec_isDigit.f (bt x0 x3)).bind fun t117 => (if t117 = true then (spec_allDigits.l0 k x0 (wrap64 (x3 + 1))) else (some false))) else (none)) else (some (decide ((x0.size : Int) > 0)))
def spec_allDigits.f (k : Nat) (a0 : ByteArray) : Option (Bool) := spec_allDigits.l0 k a0 0
theorem spec_allDigits.mono_l : ∀ k, (∀ y0 y1, LeO (spec_allDigits.l0 k y0 y1) (spec_allDigits.l0 (k + 1) y0 y1))
 | 0 => fun _ _ r h => by simp [spec_allDigits.l0] at h
 | k + 1 => by
  have ih0 := spec_allDigits.mono_l k
  ·intro y0 y1
   unfold spec_allDigits.l0
   repeat' first
   | (with_reducible exact ih0 _ _)
   | (with_reducible exact LeO.refl _)
   | (with_reducible exact LeO.none _)
   | (with_reducible refine LeO.ite ?_ ?_)
   | (with_reducible refine LeO.bind ?_ (fun _ => ?_))
   | exact ih0 _ _
   | exact LeO.none _
   | refine LeO.ite ?_ ?_
   | refine LeO.bind ?_ (fun _ => ?_)
theorem spec_allDigits.mono : ∀ a0 k, LeO (spec_allDigits.f k a0) (spec_allDigits.f (k + 1) a0) := by
 intro a0 k
 have ih0 := spec_allDigits.mono_l k
 unfold spec_allDigits.f
 repeat' first
   | (with_reducible exact ih0 _ _)
   | (with_reducible exact LeO.refl _)
   | (with_reducible exact LeO.none _)
   | (with_reducible refine LeO.ite ?_ ?_)
   | (with_reducible refine LeO.bind ?_ (fun _ => ?_))
   | exact ih0 _ _
   | exact LeO.none _
   | refine LeO.ite ?_ ?_
   | refine LeO.bind ?_ (fun _ => ?_)
set_option maxHeartbeats 8000000 in
set_option maxRecDepth 100000 in
theorem spec_allDigits.calls (k : Nat) (a0 : ByteArray) (r : Bool) (w : World) (h : spec_allDigits.f k a0 = some r) :
  Calls Tryd.prog 45 #[.string a0] w fun e w' => e = .returned (.bool r) ∧ Drawn0 w w' := by
 have H : (spec_allDigits.l0 k a0 0) = some r := h
 clear h
 have H' := Aside0.mk H
 clear H
 go_enter Tryd.func45, Tryd.ntmps45
 go_wp2
 go_loopg [3] k (fun kq v3 w' => ∃ (x3_1 : Int), v3 = .int .i64 x3_1 ∧ Aside0 (spec_allDigits.l0 kq a0 x3_1 = some r) ∧ Aside0 (kq ≤ k) ∧ Drawn0 w w')
 case atStart => exact ⟨(0), (by first | rfl | (simp; done) | (simp [*]; done)), H', ⟨Nat.le_refl _⟩, by repeat (first | exact Drawn0.refl _ | apply Drawn0.step)⟩
 case round =>
  clear H'
  obtain ⟨x3_1, rfl, HA, HK1, ⟨m1, rfl⟩⟩ := hrel
  cases gk with
  | zero => exact absurd HA.out (by simp [spec_allDigits.l0])
  | succ k1 =>
   have H := HA.out
   clear HA
   simp only [spec_allDigits.l0] at H
   by_cases c2 : x3_1 < (a0.size : Int)
   ·rw [if_pos c2] at H
    have c2b0 : decide (x3_1 < (a0.size : Int)) = true := decide_eq_true c2
    clear c2
    by_cases c3 : 0 ≤ x3_1
    ·rw [if_pos c3] at H
     have c3b0 : decide (0 ≤ x3_1) = true := decide_eq_true c3
     clear c3
     replace H := Option.bind_eq_some_iff.mp H
     obtain ⟨t117, A50, H⟩ := H
     replace H : (if t117 = true then (spec_allDigits.l0 k1 a0 (wrap64 (x3_1 + 1))) else (some false)) = some r := H
     have A5 := Aside0.mk A50
     clear A50
     by_cases c6 : t117 = true
     ·subst c6
      have H1 : (spec_allDigits.l0 k1 a0 (wrap64 (x3_1 + 1))) = some r := by rw [if_pos rfl] at H; exact H
      clear H
      have H := H1
      clear H1
      have H' := Aside0.mk H
      clear H
      have p4 : 0 ≤ (x3_1 : Int) := of_decide_eq_true (by first | (with_reducible assumption) | assumption)
      have q4 : x3_1 < (a0.size : Int) := of_decide_eq_true (by first | (with_reducible assumption) | assumption)
      have hx4 := bt_at a0 x3_1
      replace p4 := eq_true p4
      replace q4 := eq_true q4
      go_wp2_with (first | ((with_reducible refine gate_callee (f := 43) rfl ?_); refine goesL_ (some 13) rfl rfl Tryd.func43 (by kernel_rfl) rfl #[.int .u8 (bt a0 x3_1)] rfl (by (try simp only [List.map_toArray, List.map_cons, List.map_nil]); first | done | rfl | (simp only [List.length_drop, List.length_take]; rfl)) ?_; (with_reducible refine (spec_isDigit.calls (bt a0 x3_1) true _ A5.out).mono ?_); rintro e w' ⟨rfl, ⟨nd, rfl⟩⟩; refine ⟨_, rfl, ?_⟩))
      go_roundg k1
      case measure => have := HK1.out; omega
      case rel => exact ⟨(wrap64 (x3_1 + 1)), (by first | rfl | (simp; done) | (simp [*]; done)), H', ⟨by have := HK1.out; omega⟩, by repeat (first | exact Drawn0.refl _ | apply Drawn0.step)⟩
     ·replace c6 := Bool.eq_false_iff.mpr c6
      subst c6
      have H1 : (some false) = some r := by rw [if_neg (show ¬ (false = true) by decide)] at H; exact H
      clear H
      have H := H1
      clear H1
      obtain rfl := Option.some.inj H
      have p4 : 0 ≤ (x3_1 : Int) := of_decide_eq_true (by first | (with_reducible assumption) | assumption)
      have q4 : x3_1 < (a0.size : Int) := of_decide_eq_true (by first | (with_reducible assumption) | assumption)
      have hx4 := bt_at a0 x3_1
      replace p4 := eq_true p4
      replace q4 := eq_true q4
      go_wp2_with (first | ((with_reducible refine gate_callee (f := 43) rfl ?_); refine goesL_ (some 13) rfl rfl Tryd.func43 (by kernel_rfl) rfl #[.int .u8 (bt a0 x3_1)] rfl (by (try simp only [List.map_toArray, List.map_cons, List.map_nil]); first | done | rfl | (simp only [List.length_drop, List.length_take]; rfl)) ?_; (with_reducible refine (spec_isDigit.calls (bt a0 x3_1) false _ A5.out).mono ?_); rintro e w' ⟨rfl, ⟨nd, rfl⟩⟩; refine ⟨_, rfl, ?_⟩))
      go_ret
      exact ⟨by first | rfl | (simp; done) | (simp [*]; done), by repeat (first | exact Drawn0.refl _ | apply Drawn0.step)⟩
    ·rw [if_neg c3] at H
     exact absurd H (by simp)
   ·rw [if_neg c2] at H
    have c2b0 : decide (x3_1 < (a0.size : Int)) = false := decide_eq_false c2
    clear c2
    obtain rfl := Option.some.inj H
    go_wp2
    go_ret
    exact ⟨by first | rfl | (simp; done) | (simp [*]; done), by repeat (first | exact Drawn0.refl _ | apply Drawn0.step)⟩

/-! ### spec_IdentifiersKnown: function 71 -/
def spec_IdentifiersKnown.l0 : Nat → List ByteArray → Int → Option (Bool)
 | 0, _, _ => none
 | k + 1, x0, x3 => if x3 < (x0.length : Int) then (if 0 ≤ x3 then (if ((rdOf ByteArray.empty x0 x3).size : Int) > 1 then (if 0 < ((rdOf ByteArray.empty x0 x3).size : Int) then (if (bt (rdOf ByteArray.empty x0 x3) 0) = 45 then (if 1 ≤ ((rdOf ByteArray.empty x0 x3).size : Int) then ((spec_allDigits.f k ((rdOf ByteArray.empty x0 x3).extract 1 (rdOf ByteArray.empty x0 x3).size)).bind fun t119 => (if t119 = true then (some false) else (spec_IdentifiersKnown.l0 k x0 (wrap64 (x3 + 1))))) else (none)) else (if (bt (rdOf ByteArray.empty x0 x3) 0) = 43 then (if 1 ≤ ((rdOf ByteArray.empty x0 x3).size : Int) then ((spec_allDigits.f k ((rdOf ByteArray.empty x0 x3).extract 1 (rdOf ByteArray.empty x0 x3).size)).bind fun t120 => (if t120 = true then (some false) else (spec_IdentifiersKnown.l0 k x0 (wrap64 (x3 + 1))))) else (none)) else (spec_IdentifiersKnown.l0 k x0 (wrap64 (x3 + 1))))) else (none)) else (spec_IdentifiersKnown.l0 k x0 (wrap64 (x3 + 1)))) else (none)) else (some true)
def spec_IdentifiersKnown.f (k : Nat) (l0 : List ByteArray) : Option (Bool) := spec_IdentifiersKnown.l0 k l0 0
theorem spec_IdentifiersKnown.mono_l : ∀ k, (∀ y0 y1, LeO (spec_IdentifiersKnown.l0 k y0 y1) (spec_IdentifiersKnown.l0 (k + 1) y0 y1))
 | 0 => fun _ _ r h => by simp [spec_IdentifiersKnown.l0] at h
 | k + 1 => by
  have ih0 := spec_IdentifiersKnown.mono_l k
  ·intro y0 y1
   unfold spec_IdentifiersKnown.l0
   repeat' first
   | (with_reducible exact ih0 _ _)
   | (with_reducible exact spec_allDigits.mono _ _)
   | (with_reducible exact LeO.refl _)
   | (with_reducible exact LeO.none _)
   | (with_reducible refine LeO.ite ?_ ?_)
   | (with_reducible refine LeO.bind ?_ (fun _ => ?_))
   | exact ih0 _ _
   | exact spec_allDigits.mono _ _
   | exact LeO.none _
   | refine LeO.ite ?_ ?_
   | refine LeO.bind ?_ (fun _ => ?_)
theorem spec_IdentifiersKnown.mono : ∀ a0 k, LeO (spec_IdentifiersKnown.f k a0) (spec_IdentifiersKnown.f (k + 1) a0) := by
 intro a0 k
 have ih0 := spec_IdentifiersKnown.mono_l k
 unfold spec_IdentifiersKnown.f
 repeat' first
   | (with_reducible exact ih0 _ _)
   | (with_reducible exact spec_allDigits.mono _ _)
   | (with_reducible exact LeO.refl _)
   | (with_reducible exact LeO.none _)
   | (with_reducible refine LeO.ite ?_ ?_)
   | (with_reducible refine LeO.bind ?_ (fun _ => ?_))
   | exact ih0 _ _
   | exact spec_allDigits.mono _ _
   | exact LeO.none _
   | refine LeO.ite ?_ ?_
   | refine LeO.bind ?_ (fun _ => ?_)
set_option maxHeartbeats 8000000 in
set_option maxRecDepth 100000 in
theorem spec_IdentifiersKnown.calls (k : Nat) (A0 : Option Addr) (c0 : Nat) (l0 : List ByteArray) (r : Bool) (w : World) (hr0 : Kd.C Kd.string w A0 l0.length l0) (hc0 : l0.length ≤ c0) (h : spec_IdentifiersKnown.f k l0 = some r) :
  Calls Tryd.prog 71 #[.slice A0 l0.length c0] w fun e w' => e = .returned (.bool r) ∧ Drawn0 w w' := by
 have HR0 := Aside0.mk hr0
 have HC0 := Aside0.mk hc0
 clear hr0 hc0
 have H : (spec_IdentifiersKnown.l0 k l0 0) = some r := h
 clear h
 have H' := Aside0.mk H
 clear H
 go_enter Tryd.func71, Tryd.ntmps71
 go_wp2
 go_loopg [3] k (fun kq v3 w' => ∃ (x3_1 : Int), v3 = .int .i64 x3_1 ∧ Aside0 (spec_IdentifiersKnown.l0 kq l0 x3_1 = some r) ∧ Aside0 (kq ≤ k) ∧ Drawn0 w w')
 case atStart => exact ⟨(0), (by first | rfl | (simp; done) | (simp [*]; done)), H', ⟨Nat.le_refl _⟩, by repeat (first | exact Drawn0.refl _ | apply Drawn0.step)⟩
 case round =>
  clear H'
  obtain ⟨x3_1, rfl, HA, HK1, ⟨m1, rfl⟩⟩ := hrel
  cases gk with
  | zero => exact absurd HA.out (by simp [spec_IdentifiersKnown.l0])
  | succ k1 =>
   have H := HA.out
   clear HA
   simp only [spec_IdentifiersKnown.l0] at H
   by_cases c2 : x3_1 < (l0.length : Int)
   ·rw [if_pos c2] at H
    have c2b0 : decide (x3_1 < (l0.length : Int)) = true := decide_eq_true c2
    clear c2
    by_cases c3 : 0 ≤ x3_1
    ·rw [if_pos c3] at H
     have c3b0 : decide (0 ≤ x3_1) = true := decide_eq_true c3
     clear c3
     by_cases c4 : ((rdOf ByteArray.empty l0 x3_1).size : Int) > 1
     ·rw [if_pos c4] at H
      have c4b0 : decide (1 < ((rdOf ByteArray.empty l0 x3_1).size : Int)) = true := decide_eq_true c4
      have c4b1 : decide (1 < (rdOf ByteArray.empty l0 x3_1).size) = true := decide_eq_true (by omega)
      clear c4
      by_cases c5 : 0 < ((rdOf ByteArray.empty l0 x3_1).size : Int)
      ·rw [if_pos c5] at H
       have c5b0 : decide (0 < ((rdOf ByteArray.empty l0 x3_1).size : Int)) = true := decide_eq_true c5
       have c5b1 : decide (0 < (rdOf ByteArray.empty l0 x3_1).size) = true := decide_eq_true (by omega)
       clear c5
       by_cases c7 : (bt (rdOf ByteArray.empty l0 x3_1) 0) = 45
       ·rw [if_pos c7] at H
        have c7b0 : ((bt (rdOf ByteArray.empty l0 x3_1) 0) == 45) = true := beq_iff_eq.mpr c7
        have c7b1 : ((bt (rdOf ByteArray.empty l0 x3_1) 0) != 45) = false := bne_eq_false_iff_eq.mpr c7
        clear c7
        by_cases c8 : 1 ≤ ((rdOf ByteArray.empty l0 x3_1).size : Int)
        ·rw [if_pos c8] at H
         have c8b0 := eq_true c8
         have c8b1 : decide (1 ≤ ((rdOf ByteArray.empty l0 x3_1).size : Int)) = true := decide_eq_true c8
         clear c8
         replace H := Option.bind_eq_some_iff.mp H
         obtain ⟨t119, A90, H⟩ := H
         replace H : (if t119 = true then (some false) else (spec_IdentifiersKnown.l0 k1 l0 (wrap64 (x3_1 + 1)))) = some r := H
         have A9 := Aside0.mk A90
         clear A90
         by_cases c10 : t119 = true
         ·subst c10
          have H1 : (some false) = some r := by rw [if_pos rfl] at H; exact H
          clear H
          have H := H1
          clear H1
          obtain rfl := Option.some.inj H
          have p118 : 0 ≤ (x3_1 : Int) := of_decide_eq_true (by first | (with_reducible assumption) | assumption)
          have q118 : x3_1 < (l0.length : Int) := of_decide_eq_true (by first | (with_reducible assumption) | assumption)
          obtain ⟨ad118, e118, hx118_0⟩ := Kd.at_string HR0.out x3_1 p118 q118
          cases e118
          replace p118 := eq_true p118
          replace q118 := eq_true q118
          have p6 : 0 ≤ (0 : Int) := (by omega)
          have q6 : 0 < (rdOf ByteArray.empty l0 x3_1).size := (by have : (0 : Int) < ((rdOf ByteArray.empty l0 x3_1).size : Int) := of_decide_eq_true (by first | (with_reducible assumption) | assumption); omega)
          have hx6 : ∀ h : 0 < (rdOf ByteArray.empty l0 x3_1).size, (((rdOf ByteArray.empty l0 x3_1)[0]'h).toNat : Int) = bt (rdOf ByteArray.empty l0 x3_1) 0 := bt_at (rdOf ByteArray.empty l0 x3_1) 0
          clear p6
          have qi6 : (0 < ((rdOf ByteArray.empty l0 x3_1).size : Int)) = True := eq_true (of_decide_eq_true (by first | (with_reducible assumption) | assumption))
          replace q6 := eq_true q6
          go_wp2_with (first | (go_at_call 45; (with_reducible refine (spec_allDigits.calls k1 ((rdOf ByteArray.empty l0 x3_1).extract 1 (rdOf ByteArray.empty l0 x3_1).size) true _ A9.out).mono ?_); rintro e w' ⟨rfl, ⟨nd, rfl⟩⟩))
          go_ret
          exact ⟨by first | rfl | (simp; done) | (simp [*]; done), by repeat (first | exact Drawn0.refl _ | apply Drawn0.step)⟩
         ·replace c10 := Bool.eq_false_iff.mpr c10
          subst c10
          have H1 : (spec_IdentifiersKnown.l0 k1 l0 (wrap64 (x3_1 + 1))) = some r := by rw [if_neg (show ¬ (false = true) by decide)] at H; exact H
          clear H
          have H := H1
          clear H1
          have H' := Aside0.mk H
          clear H
          have p118 : 0 ≤ (x3_1 : Int) := of_decide_eq_true (by first | (with_reducible assumption) | assumption)
          have q118 : x3_1 < (l0.length : Int) := of_decide_eq_true (by first | (with_reducible assumption) | assumption)
          obtain ⟨ad118, e118, hx118_0⟩ := Kd.at_string HR0.out x3_1 p118 q118
          cases e118
          replace p118 := eq_true p118
          replace q118 := eq_true q118
          have p6 : 0 ≤ (0 : Int) := (by omega)
          have q6 : 0 < (rdOf ByteArray.empty l0 x3_1).size := (by have : (0 : Int) < ((rdOf ByteArray.empty l0 x3_1).size : Int) := of_decide_eq_true (by first | (with_reducible assumption) | assumption); omega)
          have hx6 : ∀ h : 0 < (rdOf ByteArray.empty l0 x3_1).size, (((rdOf ByteArray.empty l0 x3_1)[0]'h).toNat : Int) = bt (rdOf ByteArray.empty l0 x3_1) 0 := bt_at (rdOf ByteArray.empty l0 x3_1) 0
          clear p6
          have qi6 : (0 < ((rdOf ByteArray.empty l0 x3_1).size : Int)) = True := eq_true (of_decide_eq_true (by first | (with_reducible assumption) | assumption))
          replace q6 := eq_true q6
          go_wp2_with (first | (go_at_call 45; (with_reducible refine (spec_allDigits.calls k1 ((rdOf ByteArray.empty l0 x3_1).extract 1 (rdOf ByteArray.empty l0 x3_1).size) false _ A9.out).mono ?_); rintro e w' ⟨rfl, ⟨nd, rfl⟩⟩))
          go_roundg k1
          case measure => have := HK1.out; omega
          case rel => exact ⟨(wrap64 (x3_1 + 1)), (by first | rfl | (simp; done) | (simp [*]; done)), H', ⟨by have := HK1.out; omega⟩, by repeat (first | exact Drawn0.refl _ | apply Drawn0.step)⟩
        ·rw [if_neg c8] at H
         exact absurd H (by simp)
       ·rw [if_neg c7] at H
        have c7b0 : ((bt (rdOf ByteArray.empty l0 x3_1) 0) == 45) = false := beq_eq_false_iff_ne.mpr c7
        have c7b1 : ((bt (rdOf ByteArray.empty l0 x3_1) 0) != 45) = true := bne_iff_ne.mpr c7
        by_cases c12 : (bt (rdOf ByteArray.empty l0 x3_1) 0) = 43
        ·rw [if_pos c12] at H
         have c12b0 : ((bt (rdOf ByteArray.empty l0 x3_1) 0) == 43) = true := beq_iff_eq.mpr c12
         have c12b1 : ((bt (rdOf ByteArray.empty l0 x3_1) 0) != 43) = false := bne_eq_false_iff_eq.mpr c12
         clear c12
         by_cases c13 : 1 ≤ ((rdOf ByteArray.empty l0 x3_1).size : Int)
         ·rw [if_pos c13] at H
          have c13b0 := eq_true c13
          have c13b1 : decide (1 ≤ ((rdOf ByteArray.empty l0 x3_1).size : Int)) = true := decide_eq_true c13
          clear c13
          replace H := Option.bind_eq_some_iff.mp H
          obtain ⟨t120, A140, H⟩ := H
          replace H : (if t120 = true then (some false) else (spec_IdentifiersKnown.l0 k1 l0 (wrap64 (x3_1 + 1)))) = some r := H
          have A14 := Aside0.mk A140
          clear A140
          by_cases c15 : t120 = true
          ·subst c15
           have H1 : (some false) = some r := by rw [if_pos rfl] at H; exact H
           clear H
           have H := H1
           clear H1
           obtain rfl := Option.some.inj H
           have p118 : 0 ≤ (x3_1 : Int) := of_decide_eq_true (by first | (with_reducible assumption) | assumption)
           have q118 : x3_1 < (l0.length : Int) := of_decide_eq_true (by first | (with_reducible assumption) | assumption)
           obtain ⟨ad118, e118, hx118_0⟩ := Kd.at_string HR0.out x3_1 p118 q118
           cases e118
           replace p118 := eq_true p118
           replace q118 := eq_true q118
           have p6 : 0 ≤ (0 : Int) := (by omega)
           have q6 : 0 < (rdOf ByteArray.empty l0 x3_1).size := (by have : (0 : Int) < ((rdOf ByteArray.empty l0 x3_1).size : Int) := of_decide_eq_true (by first | (with_reducible assumption) | assumption); omega)
           have hx6 : ∀ h : 0 < (rdOf ByteArray.empty l0 x3_1).size, (((rdOf ByteArray.empty l0 x3_1)[0]'h).toNat : Int) = bt (rdOf ByteArray.empty l0 x3_1) 0 := bt_at (rdOf ByteArray.empty l0 x3_1) 0
           clear p6
           have qi6 : (0 < ((rdOf ByteArray.empty l0 x3_1).size : Int)) = True := eq_true (of_decide_eq_true (by first | (with_reducible assumption) | assumption))
           replace q6 := eq_true q6
           have p11 : 0 ≤ (0 : Int) := (by omega)
           have q11 : 0 < (rdOf ByteArray.empty l0 x3_1).size := (by have : (0 : Int) < ((rdOf ByteArray.empty l0 x3_1).size : Int) := of_decide_eq_true (by first | (with_reducible assumption) | assumption); omega)
           have hx11 : ∀ h : 0 < (rdOf ByteArray.empty l0 x3_1).size, (((rdOf ByteArray.empty l0 x3_1)[0]'h).toNat : Int) = bt (rdOf ByteArray.empty l0 x3_1) 0 := bt_at (rdOf ByteArray.empty l0 x3_1) 0
           clear p11
           have qi11 : (0 < ((rdOf ByteArray.empty l0 x3_1).size : Int)) = True := eq_true (of_decide_eq_true (by first | (with_reducible assumption) | assumption))
           replace q11 := eq_true q11
           go_wp2_with (first | (go_at_call 45; (with_reducible refine (spec_allDigits.calls k1 ((rdOf ByteArray.empty l0 x3_1).extract 1 (rdOf ByteArray.empty l0 x3_1).size) true _ A14.out).mono ?_); rintro e w' ⟨rfl, ⟨nd, rfl⟩⟩))
           go_ret
           exact ⟨by first | rfl | (simp; done) | (simp [*]; done), by repeat (first | exact Drawn0.refl _ | apply Drawn0.step)⟩
          ·replace c15 := Bool.eq_false_iff.mpr c15
           subst c15
           have H1 : (spec_IdentifiersKnown.l0 k1 l0 (wrap64 (x3_1 + 1))) = some r := by rw [if_neg (show ¬ (false = true) by decide)] at H; exact H
           clear H
           have H := H1
           clear H1
           have H' := Aside0.mk H
           clear H
           have p118 : 0 ≤ (x3_1 : Int) := of_decide_eq_true (by first | (with_reducible assumption) | assumption)
           have q118 : x3_1 < (l0.length : Int) := of_decide_eq_true (by first | (with_reducible assumption) | assumption)
           obtain ⟨ad118, e118, hx118_0⟩ := Kd.at_string HR0.out x3_1 p118 q118
           cases e118
           replace p118 := eq_true p118
           replace q118 := eq_true q118
           have p6 : 0 ≤ (0 : Int) := (by omega)
           have q6 : 0 < (rdOf ByteArray.empty l0 x3_1).size := (by have : (0 : Int) < ((rdOf ByteArray.empty l0 x3_1).size : Int) := of_decide_eq_true (by first | (with_reducible assumption) | assumption); omega)
           have hx6 : ∀ h : 0 < (rdOf ByteArray.empty l0 x3_1).size, (((rdOf ByteArray.empty l0 x3_1)[0]'h).toNat : Int) = bt (rdOf ByteArray.empty l0 x3_1) 0 := bt_at (rdOf ByteArray.empty l0 x3_1) 0
           clear p6
           have qi6 : (0 < ((rdOf ByteArray.empty l0 x3_1).size : Int)) = True := eq_true (of_decide_eq_true (by first | (with_reducible assumption) | assumption))
           replace q6 := eq_true q6
           have p11 : 0 ≤ (0 : Int) := (by omega)
           have q11 : 0 < (rdOf ByteArray.empty l0 x3_1).size := (by have : (0 : Int) < ((rdOf ByteArray.empty l0 x3_1).size : Int) := of_decide_eq_true (by first | (with_reducible assumption) | assumption); omega)
           have hx11 : ∀ h : 0 < (rdOf ByteArray.empty l0 x3_1).size, (((rdOf ByteArray.empty l0 x3_1)[0]'h).toNat : Int) = bt (rdOf ByteArray.empty l0 x3_1) 0 := bt_at (rdOf ByteArray.empty l0 x3_1) 0
           clear p11
           have qi11 : (0 < ((rdOf ByteArray.empty l0 x3_1).size : Int)) = True := eq_true (of_decide_eq_true (by first | (with_reducible assumption) | assumption))
           replace q11 := eq_true q11
           go_wp2_with (first | (go_at_call 45; (with_reducible refine (spec_allDigits.calls k1 ((rdOf ByteArray.empty l0 x3_1).extract 1 (rdOf ByteArray.empty l0 x3_1).size) false _ A14.out).mono ?_); rintro e w' ⟨rfl, ⟨nd, rfl⟩⟩))
           go_roundg k1
           case measure => have := HK1.out; omega
           case rel => exact ⟨(wrap64 (x3_1 + 1)), (by first | rfl | (simp; done) | (simp [*]; done)), H', ⟨by have := HK1.out; omega⟩, by repeat (first | exact Drawn0.refl _ | apply Drawn0.step)⟩
         ·rw [if_neg c13] at H
          exact absurd H (by simp)
        ·rw [if_neg c12] at H
         have c12b0 : ((bt (rdOf ByteArray.empty l0 x3_1) 0) == 43) = false := beq_eq_false_iff_ne.mpr c12
         have c12b1 : ((bt (rdOf ByteArray.empty l0 x3_1) 0) != 43) = true := bne_iff_ne.mpr c12
         have H' := Aside0.mk H
         clear H
         have p118 : 0 ≤ (x3_1 : Int) := of_decide_eq_true (by first | (with_reducible assumption) | assumption)
         have q118 : x3_1 < (l0.length : Int) := of_decide_eq_true (by first | (with_reducible assumption) | assumption)
         obtain ⟨ad118, e118, hx118_0⟩ := Kd.at_string HR0.out x3_1 p118 q118
         cases e118
         replace p118 := eq_true p118
         replace q118 := eq_true q118
         have p6 : 0 ≤ (0 : Int) := (by omega)
         have q6 : 0 < (rdOf ByteArray.empty l0 x3_1).size := (by have : (0 : Int) < ((rdOf ByteArray.empty l0 x3_1).size : Int) := of_decide_eq_true (by first | (with_reducible assumption) | assumption); omega)
         have hx6 : ∀ h : 0 < (rdOf ByteArray.empty l0 x3_1).size, (((rdOf ByteArray.empty l0 x3_1)[0]'h).toNat : Int) = bt (rdOf ByteArray.empty l0 x3_1) 0 := bt_at (rdOf ByteArray.empty l0 x3_1) 0
         clear p6
         have qi6 : (0 < ((rdOf ByteArray.empty l0 x3_1).size : Int)) = True := eq_true (of_decide_eq_true (by first | (with_reducible assumption) | assumption))
         replace q6 := eq_true q6
         have p11 : 0 ≤ (0 : Int) := (by omega)
         have q11 : 0 < (rdOf ByteArray.empty l0 x3_1).size := (by have : (0 : Int) < ((rdOf ByteArray.empty l0 x3_1).size : Int) := of_decide_eq_true (by first | (with_reducible assumption) | assumption); omega)
         have hx11 : ∀ h : 0 < (rdOf ByteArray.empty l0 x3_1).size, (((rdOf ByteArray.empty l0 x3_1)[0]'h).toNat : Int) = bt (rdOf ByteArray.empty l0 x3_1) 0 := bt_at (rdOf ByteArray.empty l0 x3_1) 0
         clear p11
         have qi11 : (0 < ((rdOf ByteArray.empty l0 x3_1).size : Int)) = True := eq_true (of_decide_eq_true (by first | (with_reducible assumption) | assumption))
         replace q11 := eq_true q11
         go_wp2
         go_roundg k1
         case measure => have := HK1.out; omega
         case rel => exact ⟨(wrap64 (x3_1 + 1)), (by first | rfl | (simp; done) | (simp [*]; done)), H', ⟨by have := HK1.out; omega⟩, by repeat (first | exact Drawn0.refl _ | apply Drawn0.step)⟩
      ·rw [if_neg c5] at H
       exact absurd H (by simp)
     ·rw [if_neg c4] at H
      have c4b0 : decide (1 < ((rdOf ByteArray.empty l0 x3_1).size : Int)) = false := decide_eq_false c4
      have c4b1 : decide (1 < (rdOf ByteArray.empty l0 x3_1).size) = false := decide_eq_false (by omega)
      clear c4
      have H' := Aside0.mk H
      clear H
      have p118 : 0 ≤ (x3_1 : Int) := of_decide_eq_true (by first | (with_reducible assumption) | assumption)
      have q118 : x3_1 < (l0.length : Int) := of_decide_eq_true (by first | (with_reducible assumption) | assumption)
      obtain ⟨ad118, e118, hx118_0⟩ := Kd.at_string HR0.out x3_1 p118 q118
      cases e118
      replace p118 := eq_true p118
      replace q118 := eq_true q118
      go_wp2
      go_roundg k1
      case measure => have := HK1.out; omega
      case rel => exact ⟨(wrap64 (x3_1 + 1)), (by first | rfl | (simp; done) | (simp [*]; done)), H', ⟨by have := HK1.out; omega⟩, by repeat (first | exact Drawn0.refl _ | apply Drawn0.step)⟩
    ·rw [if_neg c3] at H
     exact absurd H (by simp)
   ·rw [if_neg c2] at H
    have c2b0 : decide (x3_1 < (l0.length : Int)) = false := decide_eq_false c2
    clear c2
    obtain rfl := Option.some.inj H
    go_wp2
    go_ret
    exact ⟨by first | rfl | (simp; done) | (simp [*]; done), by repeat (first | exact Drawn0.refl _ | apply Drawn0.step)⟩

/-! ### spec_RubySegmentsKnown: function 53 -/
def spec_RubySegmentsKnown.l0 : Nat → List ByteArray → Int → Option (Bool)
 | 0, _, _ => none
 | k + 1, x0, x3 => if x3 < (x0.length : Int) then (if 0 ≤ x3 then (if ((rdOf ByteArray.empty x0 x3).size : Int) > 1 then (if 0 < ((rdOf ByteArray.empty x0 x3).size : Int) then (if (bt (rdOf ByteArray.empty x0 x3) 0) = 48 then ((spec_allDigits.f k (rdOf ByteArray.empty x0 x3)).bind fun t122 => (if t122 = true then (some false) else (spec_RubySegmentsKnown.l0 k x0 (wrap64 (x3 + 1))))) else (spec_RubySegmentsKnown.l0 k x0 (wrap64 (x3 + 1)))) else (none)) else (spec_RubySegmentsKnown.l0 k x0 (wrap64 (x3 + 1)))) else (none)) else ((spec_IdentifiersKnown.f k x0).bind fun t123 => (some t123))
def spec_RubySegmentsKnown.f (k : Nat) (l0 : List ByteArray) : Option (Bool) := spec_RubySegmentsKnown.l0 k l0 0
theorem spec_RubySegmentsKnown.mono_l : ∀ k, (∀ y0 y1, LeO (spec_RubySegmentsKnown.l0 k y0 y1) (spec_RubySegmentsKnown.l0 (k + 1) y0 y1))
 | 0 => fun _ _ r h => by simp [spec_RubySegmentsKnown.l0] at h
 | k + 1 => by
  have ih0 := spec_RubySegmentsKnown.mono_l k
  ·intro y0 y1
   unfold spec_RubySegmentsKnown.l0
   repeat' first
   | (with_reducible exact ih0 _ _)
   | (with_reducible exact spec_IdentifiersKnown.mono _ _)
   | (with_reducible exact spec_allDigits.mono _ _)
   | (with_reducible exact LeO.refl _)
   | (with_reducible exact LeO.none _)
   | (with_reducible refine LeO.ite ?_ ?_)
   | (with_reducible refine LeO.bind ?_ (fun _ => ?_))
   | exact ih0 _ _
   | exact spec_IdentifiersKnown.mono _ _
   | exact spec_allDigits.mono _ _
   | exact LeO.none _
   | refine LeO.ite ?_ ?_
   | refine LeO.bind ?_ (fun _ => ?_)
theorem spec_RubySegmentsKnown.mono : ∀ a0 k, LeO (spec_RubySegmentsKnown.f k a0) (spec_RubySegmentsKnown.f (k + 1) a0) := by
 intro a0 k
 have ih0 := spec_RubySegmentsKnown.mono_l k
 unfold spec_RubySegmentsKnown.f
 repeat' first
   | (with_reducible exact ih0 _ _)
   | (with_reducible exact spec_IdentifiersKnown.mono _ _)
   | (with_reducible exact spec_allDigits.mono _ _)
   | (with_reducible exact LeO.refl _)
   | (with_reducible exact LeO.none _)
   | (with_reducible refine LeO.ite ?_ ?_)
   | (with_reducible refine LeO.bind ?_ (fun _ => ?_))
   | exact ih0 _ _
   | exact spec_IdentifiersKnown.mono _ _
   | exact spec_allDigits.mono _ _
   | exact LeO.none _
   | refine LeO.ite ?_ ?_
   | refine LeO.bind ?_ (fun _ => ?_)
set_option maxHeartbeats 8000000 in
set_option maxRecDepth 100000 in
theorem spec_RubySegmentsKnown.calls (k : Nat) (A0 : Option Addr) (c0 : Nat) (l0 : List ByteArray) (r : Bool) (w : World) (hr0 : Kd.C Kd.string w A0 l0.length l0) (hc0 : l0.length ≤ c0) (h : spec_RubySegmentsKnown.f k l0 = some r) :
  Calls Tryd.prog 53 #[.slice A0 l0.length c0] w fun e w' => e = .returned (.bool r) ∧ Drawn0 w w' := by
 have HR0 := Aside0.mk hr0
 have HC0 := Aside0.mk hc0
 clear hr0 hc0
 have H : (spec_RubySegmentsKnown.l0 k l0 0) = some r := h
 clear h
 have H' := Aside0.mk H
 clear H
 go_enter Tryd.func53, Tryd.ntmps53
 go_wp2
 go_loopg [3] k (fun kq v3 w' => ∃ (x3_1 : Int), v3 = .int .i64 x3_1 ∧ Aside0 (spec_RubySegmentsKnown.l0 kq l0 x3_1 = some r) ∧ Aside0 (kq ≤ k) ∧ Drawn0 w w')
 case atStart => exact ⟨(0), (by first | rfl | (simp; done) | (simp [*]; done)), H', ⟨Nat.le_refl _⟩, by repeat (first | exact Drawn0.refl _ | apply Drawn0.step)⟩
 case round =>
  clear H'
  obtain ⟨x3_1, rfl, HA, HK1, ⟨m1, rfl⟩⟩ := hrel
  cases gk with
  | zero => exact absurd HA.out (by simp [spec_RubySegmentsKnown.l0])
  | succ k1 =>
   have H := HA.out
   clear HA
   simp only [spec_RubySegmentsKnown.l0] at H
   by_cases c2 : x3_1 < (l0.length : Int)
   ·rw [if_pos c2] at H
    have c2b0 : decide (x3_1 < (l0.length : Int)) = true := decide_eq_true c2
    clear c2
    by_cases c3 : 0 ≤ x3_1
    ·rw [if_pos c3] at H
     have c3b0 : decide (0 ≤ x3_1) = true := decide_eq_true c3
     clear c3
     by_cases c4 : ((rdOf ByteArray.empty l0 x3_1).size : Int) > 1
     ·rw [if_pos c4] at H
      have c4b0 : decide (1 < ((rdOf ByteArray.empty l0 x3_1).size : Int)) = true := decide_eq_true c4
      have c4b1 : decide (1 < (rdOf ByteArray.empty l0 x3_1).size) = true := decide_eq_true (by omega)
      clear c4
      by_cases c5 : 0 < ((rdOf ByteArray.empty l0 x3_1).size : Int)
      ·rw [if_pos c5] at H
       have c5b0 : decide (0 < ((rdOf ByteArray.empty l0 x3_1).size : Int)) = true := decide_eq_true c5
       have c5b1 : decide (0 < (rdOf ByteArray.empty l0 x3_1).size) = true := decide_eq_true (by omega)
       clear c5
       by_cases c7 : (bt (rdOf ByteArray.empty l0 x3_1) 0) = 48
       ·rw [if_pos c7] at H
        have c7b0 : ((bt (rdOf ByteArray.empty l0 x3_1) 0) == 48) = true := beq_iff_eq.mpr c7
        have c7b1 : ((bt (rdOf ByteArray.empty l0 x3_1) 0) != 48) = false := bne_eq_false_iff_eq.mpr c7
        clear c7
        replace H := Option.bind_eq_some_iff.mp H
        obtain ⟨t122, A80, H⟩ := H
        replace H : (if t122 = true then (some false) else (spec_RubySegmentsKnown.l0 k1 l0 (wrap64 (x3_1 + 1)))) = some r := H
        have A8 := Aside0.mk A80
        clear A80
        by_cases c9 : t122 = true
        ·subst c9
         have H1 : (some false) = some r := by rw [if_pos rfl] at H; exact H
         clear H
         have H := H1
         clear H1
         obtain rfl := Option.some.inj H
         have p121 : 0 ≤ (x3_1 : Int) := of_decide_eq_true (by first | (with_reducible assumption) | assumption)
         have q121 : x3_1 < (l0.length : Int) := of_decide_eq_true (by first | (with_reducible assumption) | assumption)
         obtain ⟨ad121, e121, hx121_0⟩ := Kd.at_string HR0.out x3_1 p121 q121
         cases e121
         replace p121 := eq_true p121
         replace q121 := eq_true q121
         have p6 : 0 ≤ (0 : Int) := (by omega)
         have q6 : 0 < (rdOf ByteArray.empty l0 x3_1).size := (by have : (0 : Int) < ((rdOf ByteArray.empty l0 x3_1).size : Int) := of_decide_eq_true (by first | (with_reducible assumption) | assumption); omega)
         have hx6 : ∀ h : 0 < (rdOf ByteArray.empty l0 x3_1).size, (((rdOf ByteArray.empty l0 x3_1)[0]'h).toNat : Int) = bt (rdOf ByteArray.empty l0 x3_1) 0 := bt_at (rdOf ByteArray.empty l0 x3_1) 0
         clear p6
         have qi6 : (0 < ((rdOf ByteArray.empty l0 x3_1).size : Int)) = True := eq_true (of_decide_eq_true (by first | (with_reducible assumption) | assumption))
         replace q6 := eq_true q6
         go_wp2_with (first | (go_at_call 45; (with_reducible refine (spec_allDigits.calls k1 (rdOf ByteArray.empty l0 x3_1) true _ A8.out).mono ?_); rintro e w' ⟨rfl, ⟨nd, rfl⟩⟩))
         go_ret
         exact ⟨by first | rfl | (simp; done) | (simp [*]; done), by repeat (first | exact Drawn0.refl _ | apply Drawn0.step)⟩
        ·replace c9 := Bool.eq_false_iff.mpr c9
         subst c9
         have H1 : (spec_RubySegmentsKnown.l0 k1 l0 (wrap64 (x3_1 + 1))) = some r := by rw [if_neg (show ¬ (false = true) by decide)] at H; exact H
         clear H
         have H := H1
         clear H1
         have H' := Aside0.mk H
         clear H
         have p121 : 0 ≤ (x3_1 : Int) := of_decide_eq_true (by first | (with_reducible assumption) | assumption)
         have q121 : x3_1 < (l0.length : Int) := of_decide_eq_true (by first | (with_reducible assumption) | assumption)
         obtain ⟨ad121, e121, hx121_0⟩ := Kd.at_string HR0.out x3_1 p121 q121
         cases e121
         replace p121 := eq_true p121
         replace q121 := eq_true q121
         have p6 : 0 ≤ (0 : Int) := (by omega)
         have q6 : 0 < (rdOf ByteArray.empty l0 x3_1).size := (by have : (0 : Int) < ((rdOf ByteArray.empty l0 x3_1).size : Int) := of_decide_eq_true (by first | (with_reducible assumption) | assumption); omega)
         have hx6 : ∀ h : 0 < (rdOf ByteArray.empty l0 x3_1).size, (((rdOf ByteArray.empty l0 x3_1)[0]'h).toNat : Int) = bt (rdOf ByteArray.empty l0 x3_1) 0 := bt_at (rdOf ByteArray.empty l0 x3_1) 0
         clear p6
         have qi6 : (0 < ((rdOf ByteArray.empty l0 x3_1).size : Int)) = True := eq_true (of_decide_eq_true (by first | (with_reducible assumption) | assumption))
         replace q6 := eq_true q6
         go_wp2_with (first | (go_at_call 45; (with_reducible refine (spec_allDigits.calls k1 (rdOf ByteArray.empty l0 x3_1) false _ A8.out).mono ?_); rintro e w' ⟨rfl, ⟨nd, rfl⟩⟩))
         go_roundg k1
         case measure => have := HK1.out; omega
         case rel => exact ⟨(wrap64 (x3_1 + 1)), (by first | rfl | (simp; done) | (simp [*]; done)), H', ⟨by have := HK1.out; omega⟩, by repeat (first | exact Drawn0.refl _ | apply Drawn0.step)⟩
       ·rw [if_neg c7] at H
        have c7b0 : ((bt (rdOf ByteArray.empty l0 x3_1) 0) == 48) = false := beq_eq_false_iff_ne.mpr c7
        have c7b1 : ((bt (rdOf ByteArray.empty l0 x3_1) 0) != 48) = true := bne_iff_ne.mpr c7
        have H' := Aside0.mk H
        clear H
        have p121 : 0 ≤ (x3_1 : Int) := of_decide_eq_true (by first | (with_reducible assumption) | assumption)
        have q121 : x3_1 < (l0.length : Int) := of_decide_eq_true (by first | (with_reducible assumption) | assumption)
        obtain ⟨ad121, e121, hx121_0⟩ := Kd.at_string HR0.out x3_1 p121 q121
        cases e121
        replace p121 := eq_true p121
        replace q121 := eq_true q121
        have p6 : 0 ≤ (0 : Int) := (by omega)
        have q6 : 0 < (rdOf ByteArray.empty l0 x3_1).size := (by have : (0 : Int) < ((rdOf ByteArray.empty l0 x3_1).size : Int) := of_decide_eq_true (by first | (with_reducible assumption) | assumption); omega)
        have hx6 : ∀ h : 0 < (rdOf ByteArray.empty l0 x3_1).size, (((rdOf ByteArray.empty l0 x3_1)[0]'h).toNat : Int) = bt (rdOf ByteArray.empty l0 x3_1) 0 := bt_at (rdOf ByteArray.empty l0 x3_1) 0
        clear p6
        have qi6 : (0 < ((rdOf ByteArray.empty l0 x3_1).size : Int)) = True := eq_true (of_decide_eq_true (by first | (with_reducible assumption) | assumption))
        replace q6 := eq_true q6
        go_wp2
        go_roundg k1
        case measure => have := HK1.out; omega
        case rel => exact ⟨(wrap64 (x3_1 + 1)), (by first | rfl | (simp; done) | (simp [*]; done)), H', ⟨by have := HK1.out; omega⟩, by repeat (first | exact Drawn0.refl _ | apply Drawn0.step)⟩
      ·rw [if_neg c5] at H
       exact absurd H (by simp)
     ·rw [if_neg c4] at H
      have c4b0 : decide (1 < ((rdOf ByteArray.empty l0 x3_1).size : Int)) = false := decide_eq_false c4
      have c4b1 : decide (1 < (rdOf ByteArray.empty l0 x3_1).size) = false := decide_eq_false (by omega)
      clear c4
      have H' := Aside0.mk H
      clear H
      have p121 : 0 ≤ (x3_1 : Int) := of_decide_eq_true (by first | (with_reducible assumption) | assumption)
      have q121 : x3_1 < (l0.length : Int) := of_decide_eq_true (by first | (with_reducible assumption) | assumption)
      obtain ⟨ad121, e121, hx121_0⟩ := Kd.at_string HR0.out x3_1 p121 q121
      cases e121
      replace p121 := eq_true p121
      replace q121 := eq_true q121
      go_wp2
      go_roundg k1
      case measure => have := HK1.out; omega
      case rel => exact ⟨(wrap64 (x3_1 + 1)), (by first | rfl | (simp; done) | (simp [*]; done)), H', ⟨by have := HK1.out; omega⟩, by repeat (first | exact Drawn0.refl _ | apply Drawn0.step)⟩
    ·rw [if_neg c3] at H
     exact absurd H (by simp)
   ·rw [if_neg c2] at H
    have c2b0 : decide (x3_1 < (l0.length : Int)) = false := decide_eq_false c2
    clear c2
    replace H := Option.bind_eq_some_iff.mp H
    obtain ⟨t123, A100, H⟩ := H
    replace H : (some t123) = some r := H
    have A10 := Aside0.mk A100
    clear A100
    obtain rfl := Option.some.inj H
    go_wp2_with (first | ((with_reducible refine gate_callee (f := 71) rfl ?_); refine goesL_ (some 28) rfl rfl Tryd.func71 (by kernel_rfl) rfl #[.slice A0 l0.length c0] rfl (by (try simp only [List.map_toArray, List.map_cons, List.map_nil]); first | done | rfl | (simp only [List.length_drop, List.length_take]; rfl)) ?_; (with_reducible refine (spec_IdentifiersKnown.calls k1 _ _ l0 t123 _ ?side1 ?side2 A10.out).mono ?_); (case side1 => repeat (first | exact HR0.out | (with_reducible refine Kd.C_alloc ?_ _) | (with_reducible refine Kd.C_drewN ?_ _) | (with_reducible refine Kd.C_drew ?_))); (case side2 => exact HC0.out); rintro e w' ⟨rfl, ⟨nd, rfl⟩⟩; refine ⟨_, rfl, ?_⟩))
    go_ret
    exact ⟨by first | rfl | (simp; done) | (simp [*]; done), by repeat (first | exact Drawn0.refl _ | apply Drawn0.step)⟩

/-! ### spec_RubyCanonical: function 54 -/
def spec_RubyCanonical.l0 : Nat → ByteArray → List Int → Int → Option (ByteArray)
 | 0, _, _, _ => none
 | k + 1, x0, x3, x4 => if x4 < (x0.size : Int) then (if x4 > 0 then (if 0 ≤ x4 then (if (bt x0 x4) = 46 then (if x3.length < 140737488355328 then (spec_RubyCanonical.l0 k x0 (x3 ++ [bt x0 x4]) (wrap64 (x4 + 1))) else (none)) else (if 0 ≤ (wrap64 (x4 - 1)) then (if (wrap64 (x4 - 1)) < (x0.size : Int) then (if (bt x0 (wrap64 (x4 - 1))) = 46 then (if x3.length < 140737488355328 then (spec_RubyCanonical.l0 k x0 (x3 ++ [bt x0 x4]) (wrap64 (x4 + 1))) else (none)) else ((spec_isDigit.f (bt x0 x4)).bind fun t130 => ((spec_isDigit.f (bt x0 (wrap64 (x4 - 1)))).bind fun t131 => (if (t130 != t131) = true then (if x3.length < 140737488355328 then ((some (x3 ++ [46] : List Int)).bind fun y132 => (if y132.length < 140737488355328 then (spec_RubyCanonical.l0 k x0 (y132 ++ [bt x0 x4]) (wrap64 (x4 + 1))) else (none))) else (none)) else (if x3.length < 140737488355328 then (spec_RubyCanonical.l0 k x0 (x3 ++ [bt x0 x4]) (wrap64 (x4 + 1))) else (none)))))) else (none)) else (none))) else (none)) else (if 0 ≤ x4 then (if x3.length < 140737488355328 then (spec_RubyCanonical.l0 k x0 (x3 ++ [bt x0 x4]) (wrap64 (x4 + 1))) else (none)) else (none))) else (some (strOfNums x3))
def spec_RubyCanonical.f (k : Nat) (a0 : ByteArray) : Option (ByteArray) := spec_RubyCanonical.l0 k a0 ([] : List Int) 0
theorem spec_RubyCanonical.mono_l : ∀ k, (∀ y0 y1 y2, LeO (spec_RubyCanonical.l0 k y0 y1 y2) (spec_RubyCanonical.l0 (k + 1) y0 y1 y2))
 | 0 => fun _ _ _ r h => by simp [spec_RubyCanonical.l0] at h
 | k + 1 => by
  have ih0 := spec_RubyCanonical.mono_l k
  ·intro y0 y1 y2
   unfold spec_RubyCanonical.l0
   repeat' first
   | (with_reducible exact ih0 _ _ _)
   | (with_reducible exact LeO.refl _)
   | (with_reducible exact LeO.none _)
   | (with_reducible refine LeO.ite ?_ ?_)
   | (with_reducible refine LeO.bind ?_ (fun _ => ?_))
   | exact ih0 _ _ _
   | exact LeO.none _
   | refine LeO.ite ?_ ?_
   | refine LeO.bind ?_ (fun _ => ?_)
theorem spec_RubyCanonical.mono : ∀ a0 k, LeO (spec_RubyCanonical.f k a0) (spec_RubyCanonical.f (k + 1) a0) := by
 intro a0 k
 have ih0 := spec_RubyCanonical.mono_l k
 unfold spec_RubyCanonical.f
 repeat' first
   | (with_reducible exact ih0 _ _ _)
   | (with_reducible exact LeO.refl _)
   | (with_reducible exact LeO.none _)
   | (with_reducible refine LeO.ite ?_ ?_)
   | (with_reducible refine LeO.bind ?_ (fun _ => ?_))
   | exact ih0 _ _ _
   | exact LeO.none _
   | refine LeO.ite ?_ ?_
   | refine LeO.bind ?_ (fun _ => ?_)
set_option maxHeartbeats 8000000 in
set_option maxRecDepth 100000 in
theorem spec_RubyCanonical.calls (k : Nat) (a0 : ByteArray) (r : ByteArray) (w : World) (h : spec_RubyCanonical.f k a0 = some r) :
  Calls Tryd.prog 54 #[.string a0] w fun e w' => e = .returned (.string r) ∧ Below w.heap.size w w' := by
 have HB := Aside0.mk (Below.refl w.heap.size w)
 have H : (spec_RubyCanonical.l0 k a0 ([] : List Int) 0) = some r := h
 clear h
 have H' := Aside0.mk H
 clear H
 go_enter Tryd.func54, Tryd.ntmps54
 go_wp2
 repeat (go_quiet (fail); try go_wp2)
 go_loopg [3, 4] k (fun kq v3 v4 w' => ∃ (x3_1 : List Int) (x4_1 : Int), v4 = .int .i64 x4_1 ∧ Aside0 (spec_RubyCanonical.l0 kq a0 x3_1 x4_1 = some r) ∧ Aside0 (kq ≤ k) ∧ Aside0 (Kd.R (Kd.int .u8) 5 w' w.heap.size (fun _ => True) v3 x3_1) ∧ Aside0 (Below w.heap.size w w'))
 case atStart => exact ⟨(([] : List Int)), (0), (by first | rfl | (simp; done) | (simp [*]; done)), H', ⟨Nat.le_refl _⟩, ⟨by first | exact Kd.R_nil _ _ _ _ _ | exact Kd.N_nil _ _ _ _ _ | exact Kd.V_nil _ _ _ _ _ | exact Kd.Q_nil _ _ _ _ _ | exact Kd.S_nil _ _ _ _ _⟩, ⟨by repeat (first | (with_reducible first | exact HB.out | apply below_alloc | apply pw_below_drewN | apply below_drew1) | exact HB.out)⟩⟩
 case round =>
  clear H'
  obtain ⟨x3_1, x4_1, rfl, HA, HK1, HO_3, HB⟩ := hrel
  cases gk with
  | zero => exact absurd HA.out (by simp [spec_RubyCanonical.l0])
  | succ k1 =>
   have H := HA.out
   clear HA
   simp only [spec_RubyCanonical.l0] at H
   by_cases c2 : x4_1 < (a0.size : Int)
   ·rw [if_pos c2] at H
    have c2b0 : decide (x4_1 < (a0.size : Int)) = true := decide_eq_true c2
    clear c2
    by_cases c3 : x4_1 > 0
    ·rw [if_pos c3] at H
     have c3b0 : decide (0 < x4_1) = true := decide_eq_true c3
     clear c3
     by_cases c4 : 0 ≤ x4_1
     ·rw [if_pos c4] at H
      have c4b0 : decide (0 ≤ x4_1) = true := decide_eq_true c4
      clear c4
      by_cases c6 : (bt a0 x4_1) = 46
      ·rw [if_pos c6] at H
       have c6b0 : ((bt a0 x4_1) == 46) = true := beq_iff_eq.mpr c6
       have c6b1 : ((bt a0 x4_1) != 46) = false := bne_eq_false_iff_eq.mpr c6
       clear c6
       by_cases c8 : x3_1.length < 140737488355328
       ·rw [if_pos c8] at H
        have LMc8 := Aside0.mk c8
        clear c8
        obtain ⟨y124, hy124⟩ : ∃ y_ : List Int, y_ = (x3_1 ++ [bt a0 x4_1]) := ⟨_, rfl⟩
        replace H : (spec_RubyCanonical.l0 k1 a0 y124 (wrap64 (x4_1 + 1))) = some r := by first | (rw [hy124]; with_reducible exact H) | (have H2_ := (Option.bind_some _ _).symm.trans H; rw [hy124]; with_reducible exact H2_) | (have H2_ := (Option.bind_some _ _).symm.trans H; with_reducible exact H2_) | with_reducible exact H | (rw [hy124]; exact H) | exact H
        have Ny124 := Aside0.mk hy124
        clear hy124
        have H' := Aside0.mk H
        clear H
        have p5 : 0 ≤ (x4_1 : Int) := of_decide_eq_true (by first | (with_reducible assumption) | assumption)
        have q5 : x4_1 < (a0.size : Int) := of_decide_eq_true (by first | (with_reducible assumption) | assumption)
        have hx5 := bt_at a0 x4_1
        replace p5 := eq_true p5
        replace q5 := eq_true q5
        have p7 : 0 ≤ (x4_1 : Int) := of_decide_eq_true (by first | (with_reducible assumption) | assumption)
        have q7 : x4_1 < (a0.size : Int) := of_decide_eq_true (by first | (with_reducible assumption) | assumption)
        have hx7 := bt_at a0 x4_1
        replace p7 := eq_true p7
        replace q7 := eq_true q7
        go_wp2_with (first | ((with_reducible refine gate_builtin (b := .append) (xs := #[.tmp 41, .tmp 45]) rfl ?_); at_builtin; refine Kd.R_append (Kd.int .u8) (w0 := w) w.heap.size rfl (.tmp 41) (.tmp 45) 91 5 (.int .u8 0) 1 rfl Tryd.underlying91 info5 rfl (by decide) (by omega) u3 x3_1 (bt a0 x4_1) [.int .u8 (bt a0 x4_1)] (fun _ => True) (fun _ => False) rfl rfl ?aP (fun _ hk => hk.elim) ?aF ?aO ?aB ?aS ?aL ?_; (case aP => exact rfl); (case aB => exact (by repeat (first | (with_reducible first | exact HB.out | apply below_alloc | apply pw_below_drewN | apply below_drew1) | exact HB.out))); (case aF => exact (fun _ _ => trivial)); (case aO => exact (by (with_reducible repeat (first | apply Kd.R_alloc | apply Kd.R_drewN | apply Kd.R_drew)); exact HO_3.out)); (case aS => exact (below_size (by repeat (first | (with_reducible first | exact HB.out | apply below_alloc | apply pw_below_drewN | apply below_drew1) | exact HB.out)))); (case aL => have := LMc8.out; omega); intro v125 w9 ho hb hg hat; rw [← Ny124.out] at ho; have n0_ := Aside0.mk (hb); have n1_ := Aside0.mk (ho); clear HB; clear HO_3; have HB := n0_; have HO126 := n1_; clear n0_ n1_; clear ho hb hg hat))
        repeat (go_quiet (first | ((with_reducible refine gate_builtin (b := .append) (xs := #[.tmp 41, .tmp 45]) rfl ?_); at_builtin; refine Kd.R_append (Kd.int .u8) (w0 := w) w.heap.size rfl (.tmp 41) (.tmp 45) 91 5 (.int .u8 0) 1 rfl Tryd.underlying91 info5 rfl (by decide) (by omega) u3 x3_1 (bt a0 x4_1) [.int .u8 (bt a0 x4_1)] (fun _ => True) (fun _ => False) rfl rfl ?aP (fun _ hk => hk.elim) ?aF ?aO ?aB ?aS ?aL ?_; (case aP => exact rfl); (case aB => exact (by repeat (first | (with_reducible first | exact HB.out | apply below_alloc | apply pw_below_drewN | apply below_drew1) | exact HB.out))); (case aF => exact (fun _ _ => trivial)); (case aO => exact (by (with_reducible repeat (first | apply Kd.R_alloc | apply Kd.R_drewN | apply Kd.R_drew)); exact HO_3.out)); (case aS => exact (below_size (by repeat (first | (with_reducible first | exact HB.out | apply below_alloc | apply pw_below_drewN | apply below_drew1) | exact HB.out)))); (case aL => have := LMc8.out; omega); intro v125 w9 ho hb hg hat; rw [← Ny124.out] at ho; have n0_ := Aside0.mk (hb); have n1_ := Aside0.mk (ho); clear HB; clear HO_3; have HB := n0_; have HO126 := n1_; clear n0_ n1_; clear ho hb hg hat)); try go_wp2_with (first | ((with_reducible refine gate_builtin (b := .append) (xs := #[.tmp 41, .tmp 45]) rfl ?_); at_builtin; refine Kd.R_append (Kd.int .u8) (w0 := w) w.heap.size rfl (.tmp 41) (.tmp 45) 91 5 (.int .u8 0) 1 rfl Tryd.underlying91 info5 rfl (by decide) (by omega) u3 x3_1 (bt a0 x4_1) [.int .u8 (bt a0 x4_1)] (fun _ => True) (fun _ => False) rfl rfl ?aP (fun _ hk => hk.elim) ?aF ?aO ?aB ?aS ?aL ?_; (case aP => exact rfl); (case aB => exact (by repeat (first | (with_reducible first | exact HB.out | apply below_alloc | apply pw_below_drewN | apply below_drew1) | exact HB.out))); (case aF => exact (fun _ _ => trivial)); (case aO => exact (by (with_reducible repeat (first | apply Kd.R_alloc | apply Kd.R_drewN | apply Kd.R_drew)); exact HO_3.out)); (case aS => exact (below_size (by repeat (first | (with_reducible first | exact HB.out | apply below_alloc | apply pw_below_drewN | apply below_drew1) | exact HB.out)))); (case aL => have := LMc8.out; omega); intro v125 w9 ho hb hg hat; rw [← Ny124.out] at ho; have n0_ := Aside0.mk (hb); have n1_ := Aside0.mk (ho); clear HB; clear HO_3; have HB := n0_; have HO126 := n1_; clear n0_ n1_; clear ho hb hg hat)))
        go_roundg k1
        case measure => have := HK1.out; omega
        case rel => exact ⟨(y124), (wrap64 (x4_1 + 1)), (by first | rfl | (simp; done) | (simp [*]; done)), H', ⟨by have := HK1.out; omega⟩, ⟨by (with_reducible repeat (first | apply Kd.R_alloc | apply Kd.R_drewN | apply Kd.R_drew)); exact HO126.out⟩, ⟨by repeat (first | (with_reducible first | exact HB.out | apply below_alloc | apply pw_below_drewN | apply below_drew1) | exact HB.out)⟩⟩
       ·rw [if_neg c8] at H
        exact absurd H (by simp)
      ·rw [if_neg c6] at H
       have c6b0 : ((bt a0 x4_1) == 46) = false := beq_eq_false_iff_ne.mpr c6
       have c6b1 : ((bt a0 x4_1) != 46) = true := bne_iff_ne.mpr c6
       obtain ⟨ji10, hji10⟩ : ∃ j_ : Int, (wrap64 (x4_1 - 1)) = j_ := ⟨_, rfl⟩
       replace H : (if 0 ≤ (ji10) then (if (ji10) < (a0.size : Int) then (if (bt a0 (ji10)) = 46 then (if x3_1.length < 140737488355328 then (spec_RubyCanonical.l0 k1 a0 (x3_1 ++ [bt a0 x4_1]) (wrap64 (x4_1 + 1))) else (none)) else ((spec_isDigit.f (bt a0 x4_1)).bind fun t130 => ((spec_isDigit.f (bt a0 (ji10))).bind fun t131 => (if (t130 != t131) = true then (if x3_1.length < 140737488355328 then ((some (x3_1 ++ [46] : List Int)).bind fun y132 => (if y132.length < 140737488355328 then (spec_RubyCanonical.l0 k1 a0 (y132 ++ [bt a0 x4_1]) (wrap64 (x4_1 + 1))) else (none))) else (none)) else (if x3_1.length < 140737488355328 then (spec_RubyCanonical.l0 k1 a0 (x3_1 ++ [bt a0 x4_1]) (wrap64 (x4_1 + 1))) else (none)))))) else (none)) else (none)) = some r := by first | (rw [hji10] at H; exact H) | (simp only [hji10] at H ⊢; exact H)
       have hji10w : (IntKind.i64.wrap (x4_1 - 1)) = ji10 := (i64_w _).trans hji10
       by_cases c11 : 0 ≤ (ji10)
       ·rw [if_pos c11] at H
        have c11b0 : decide (0 ≤ (ji10)) = true := decide_eq_true c11
        clear c11
        by_cases c12 : (ji10) < (a0.size : Int)
        ·rw [if_pos c12] at H
         have c12b0 : decide ((ji10) < (a0.size : Int)) = true := decide_eq_true c12
         clear c12
         by_cases c14 : (bt a0 (ji10)) = 46
         ·rw [if_pos c14] at H
          have c14b0 : ((bt a0 (ji10)) == 46) = true := beq_iff_eq.mpr c14
          have c14b1 : ((bt a0 (ji10)) != 46) = false := bne_eq_false_iff_eq.mpr c14
          clear c14
          by_cases c16 : x3_1.length < 140737488355328
          ·rw [if_pos c16] at H
           have LMc16 := Aside0.mk c16
           clear c16
           obtain ⟨y127, hy127⟩ : ∃ y_ : List Int, y_ = (x3_1 ++ [bt a0 x4_1]) := ⟨_, rfl⟩
           replace H : (spec_RubyCanonical.l0 k1 a0 y127 (wrap64 (x4_1 + 1))) = some r := by first | (rw [hy127]; with_reducible exact H) | (have H2_ := (Option.bind_some _ _).symm.trans H; rw [hy127]; with_reducible exact H2_) | (have H2_ := (Option.bind_some _ _).symm.trans H; with_reducible exact H2_) | with_reducible exact H | (rw [hy127]; exact H) | exact H
           have Ny127 := Aside0.mk hy127
           clear hy127
           have H' := Aside0.mk H
           clear H
           have p5 : 0 ≤ (x4_1 : Int) := of_decide_eq_true (by first | (with_reducible assumption) | assumption)
           have q5 : x4_1 < (a0.size : Int) := of_decide_eq_true (by first | (with_reducible assumption) | assumption)
           have hx5 := bt_at a0 x4_1
           replace p5 := eq_true p5
           replace q5 := eq_true q5
           have p13 : 0 ≤ ((ji10) : Int) := of_decide_eq_true (by first | (with_reducible assumption) | assumption)
           have q13 : (ji10) < (a0.size : Int) := of_decide_eq_true (by first | (with_reducible assumption) | assumption)
           have hx13 := bt_at a0 (ji10)
           replace p13 := eq_true p13
           replace q13 := eq_true q13
           have p15 : 0 ≤ (x4_1 : Int) := of_decide_eq_true (by first | (with_reducible assumption) | assumption)
           have q15 : x4_1 < (a0.size : Int) := of_decide_eq_true (by first | (with_reducible assumption) | assumption)
           have hx15 := bt_at a0 x4_1
           replace p15 := eq_true p15
           replace q15 := eq_true q15
           go_wp2_with (first | ((with_reducible refine gate_builtin (b := .append) (xs := #[.tmp 41, .tmp 45]) rfl ?_); at_builtin; refine Kd.R_append (Kd.int .u8) (w0 := w) w.heap.size rfl (.tmp 41) (.tmp 45) 91 5 (.int .u8 0) 1 rfl Tryd.underlying91 info5 rfl (by decide) (by omega) u3 x3_1 (bt a0 x4_1) [.int .u8 (bt a0 x4_1)] (fun _ => True) (fun _ => False) rfl rfl ?aP (fun _ hk => hk.elim) ?aF ?aO ?aB ?aS ?aL ?_; (case aP => exact rfl); (case aB => exact (by repeat (first | (with_reducible first | exact HB.out | apply below_alloc | apply pw_below_drewN | apply below_drew1) | exact HB.out))); (case aF => exact (fun _ _ => trivial)); (case aO => exact (by (with_reducible repeat (first | apply Kd.R_alloc | apply Kd.R_drewN | apply Kd.R_drew)); exact HO_3.out)); (case aS => exact (below_size (by repeat (first | (with_reducible first | exact HB.out | apply below_alloc | apply pw_below_drewN | apply below_drew1) | exact HB.out)))); (case aL => have := LMc16.out; omega); intro v128 w17 ho hb hg hat; rw [← Ny127.out] at ho; have n0_ := Aside0.mk (hb); have n1_ := Aside0.mk (ho); clear HB; clear HO_3; have HB := n0_; have HO129 := n1_; clear n0_ n1_; clear ho hb hg hat))
           repeat (go_quiet (first | ((with_reducible refine gate_builtin (b := .append) (xs := #[.tmp 41, .tmp 45]) rfl ?_); at_builtin; refine Kd.R_append (Kd.int .u8) (w0 := w) w.heap.size rfl (.tmp 41) (.tmp 45) 91 5 (.int .u8 0) 1 rfl Tryd.underlying91 info5 rfl (by decide) (by omega) u3 x3_1 (bt a0 x4_1) [.int .u8 (bt a0 x4_1)] (fun _ => True) (fun _ => False) rfl rfl ?aP (fun _ hk => hk.elim) ?aF ?aO ?aB ?aS ?aL ?_; (case aP => exact rfl); (case aB => exact (by repeat (first | (with_reducible first | exact HB.out | apply below_alloc | apply pw_below_drewN | apply below_drew1) | exact HB.out))); (case aF => exact (fun _ _ => trivial)); (case aO => exact (by (with_reducible repeat (first | apply Kd.R_alloc | apply Kd.R_drewN | apply Kd.R_drew)); exact HO_3.out)); (case aS => exact (below_size (by repeat (first | (with_reducible first | exact HB.out | apply below_alloc | apply pw_below_drewN | apply below_drew1) | exact HB.out)))); (case aL => have := LMc16.out; omega); intro v128 w17 ho hb hg hat; rw [← Ny127.out] at ho; have n0_ := Aside0.mk (hb); have n1_ := Aside0.mk (ho); clear HB; clear HO_3; have HB := n0_; have HO129 := n1_; clear n0_ n1_; clear ho hb hg hat)); try go_wp2_with (first | ((with_reducible refine gate_builtin (b := .append) (xs := #[.tmp 41, .tmp 45]) rfl ?_); at_builtin; refine Kd.R_append (Kd.int .u8) (w0 := w) w.heap.size rfl (.tmp 41) (.tmp 45) 91 5 (.int .u8 0) 1 rfl Tryd.underlying91 info5 rfl (by decide) (by omega) u3 x3_1 (bt a0 x4_1) [.int .u8 (bt a0 x4_1)] (fun _ => True) (fun _ => False) rfl rfl ?aP (fun _ hk => hk.elim) ?aF ?aO ?aB ?aS ?aL ?_; (case aP => exact rfl); (case aB => exact (by repeat (first | (with_reducible first | exact HB.out | apply below_alloc | apply pw_below_drewN | apply below_drew1) | exact HB.out))); (case aF => exact (fun _ _ => trivial)); (case aO => exact (by (with_reducible repeat (first | apply Kd.R_alloc | apply Kd.R_drewN | apply Kd.R_drew)); exact HO_3.out)); (case aS => exact (below_size (by repeat (first | (with_reducible first | exact HB.out | apply below_alloc | apply pw_below_drewN | apply below_drew1) | exact HB.out)))); (case aL => have := LMc16.out; omega); intro v128 w17 ho hb hg hat; rw [← Ny127.out] at ho; have n0_ := Aside0.mk (hb); have n1_ := Aside0.mk (ho); clear HB; clear HO_3; have HB := n0_; have HO129 := n1_; clear n0_ n1_; clear ho hb hg hat)))
           go_roundg k1
           case measure => have := HK1.out; omega
           case rel => exact ⟨(y127), (wrap64 (x4_1 + 1)), (by first | rfl | (simp; done) | (simp [*]; done)), H', ⟨by have := HK1.out; omega⟩, ⟨by (with_reducible repeat (first | apply Kd.R_alloc | apply Kd.R_drewN | apply Kd.R_drew)); exact HO129.out⟩, ⟨by repeat (first | (with_reducible first | exact HB.out | apply below_alloc | apply pw_below_drewN | apply below_drew1) | exact HB.out)⟩⟩
          ·rw [if_neg c16] at H
           exact absurd H (by simp)
         ·rw [if_neg c14] at H
          have c14b0 : ((bt a0 (ji10)) == 46) = false := beq_eq_false_iff_ne.mpr c14
          have c14b1 : ((bt a0 (ji10)) != 46) = true := bne_iff_ne.mpr c14
          replace H := Option.bind_eq_some_iff.mp H
          obtain ⟨t130, A190, H⟩ := H
          replace H : ((spec_isDigit.f (bt a0 (ji10))).bind fun t131 => (if (t130 != t131) = true then (if x3_1.length < 140737488355328 then ((some (x3_1 ++ [46] : List Int)).bind fun y132 => (if y132.length < 140737488355328 then (spec_RubyCanonical.l0 k1 a0 (y132 ++ [bt a0 x4_1]) (wrap64 (x4_1 + 1))) else (none))) else (none)) else (if x3_1.length < 140737488355328 then (spec_RubyCanonical.l0 k1 a0 (x3_1 ++ [bt a0 x4_1]) (wrap64 (x4_1 + 1))) else (none)))) = some r := H
          have A19 := Aside0.mk A190
          clear A190
          replace H := Option.bind_eq_some_iff.mp H
          obtain ⟨t131, A210, H⟩ := H
          replace H : (if (t130 != t131) = true then (if x3_1.length < 140737488355328 then ((some (x3_1 ++ [46] : List Int)).bind fun y132 => (if y132.length < 140737488355328 then (spec_RubyCanonical.l0 k1 a0 (y132 ++ [bt a0 x4_1]) (wrap64 (x4_1 + 1))) else (none))) else (none)) else (if x3_1.length < 140737488355328 then (spec_RubyCanonical.l0 k1 a0 (x3_1 ++ [bt a0 x4_1]) (wrap64 (x4_1 + 1))) else (none))) = some r := H
          have A21 := Aside0.mk A210
          clear A210
          by_cases c22 : (t130 != t131) = true
          ·rw [if_pos c22] at H
           have c22b0 : (t130 != t131) = true := c22
           (try (have c22b1 : decide (t130 = t131) = false := by simpa using c22))
           (try (have c22b2 : (t130 == t131) = false := by simpa using c22))
           (try (have c22b3 : ¬ (t130 = t131) := by simpa using c22))
           clear c22
           by_cases c23 : x3_1.length < 140737488355328
           ·rw [if_pos c23] at H
            have LMc23 := Aside0.mk c23
            clear c23
            obtain ⟨y132, hy132⟩ : ∃ y_ : List Int, y_ = (x3_1 ++ [46]) := ⟨_, rfl⟩
            replace H : (if y132.length < 140737488355328 then (spec_RubyCanonical.l0 k1 a0 (y132 ++ [bt a0 x4_1]) (wrap64 (x4_1 + 1))) else (none)) = some r := by first | (rw [hy132]; with_reducible exact H) | (have H2_ := (Option.bind_some _ _).symm.trans H; rw [hy132]; with_reducible exact H2_) | (have H2_ := (Option.bind_some _ _).symm.trans H; with_reducible exact H2_) | with_reducible exact H | (rw [hy132]; exact H) | exact H
            have Ny132 := Aside0.mk hy132
            clear hy132
            by_cases c25 : y132.length < 140737488355328
            ·rw [if_pos c25] at H
             have LMc25 := Aside0.mk c25
             clear c25
             obtain ⟨y135, hy135⟩ : ∃ y_ : List Int, y_ = (y132 ++ [bt a0 x4_1]) := ⟨_, rfl⟩
             replace H : (spec_RubyCanonical.l0 k1 a0 y135 (wrap64 (x4_1 + 1))) = some r := by first | (rw [hy135]; with_reducible exact H) | (have H2_ := (Option.bind_some _ _).symm.trans H; rw [hy135]; with_reducible exact H2_) | (have H2_ := (Option.bind_some _ _).symm.trans H; with_reducible exact H2_) | with_reducible exact H | (rw [hy135]; exact H) | exact H
             have Ny135 := Aside0.mk hy135
             clear hy135
             have H' := Aside0.mk H
             clear H
             have p5 : 0 ≤ (x4_1 : Int) := of_decide_eq_true (by first | (with_reducible assumption) | assumption)
             have q5 : x4_1 < (a0.size : Int) := of_decide_eq_true (by first | (with_reducible assumption) | assumption)
             have hx5 := bt_at a0 x4_1
             replace p5 := eq_true p5
             replace q5 := eq_true q5
             have p13 : 0 ≤ ((ji10) : Int) := of_decide_eq_true (by first | (with_reducible assumption) | assumption)
             have q13 : (ji10) < (a0.size : Int) := of_decide_eq_true (by first | (with_reducible assumption) | assumption)
             have hx13 := bt_at a0 (ji10)
             replace p13 := eq_true p13
             replace q13 := eq_true q13
             have p18 : 0 ≤ (x4_1 : Int) := of_decide_eq_true (by first | (with_reducible assumption) | assumption)
             have q18 : x4_1 < (a0.size : Int) := of_decide_eq_true (by first | (with_reducible assumption) | assumption)
             have hx18 := bt_at a0 x4_1
             replace p18 := eq_true p18
             replace q18 := eq_true q18
             go_wp2_with (first | (go_at_call 43; (with_reducible refine (spec_isDigit.calls (bt a0 x4_1) t130 _ A19.out).mono ?_); rintro e w' ⟨rfl, ⟨nd, rfl⟩⟩; (try first | exact ⟨rfl, _, World.drewN_drewN _ _ _⟩ | exact ⟨rfl, _, Eq.trans (World.drewN_drewN _ _ _) (congrArg (World.drewN _) (Nat.add_assoc _ _ _))⟩); have p20 : 0 ≤ ((ji10) : Int) := of_decide_eq_true (by first | (with_reducible assumption) | assumption); have q20 : (ji10) < (a0.size : Int) := of_decide_eq_true (by first | (with_reducible assumption) | assumption); have hx20 := bt_at a0 (ji10); replace p20 := eq_true p20; replace q20 := eq_true q20) | (go_at_call 43; (with_reducible refine (spec_isDigit.calls (bt a0 (ji10)) t131 _ A21.out).mono ?_); rintro e w' ⟨rfl, ⟨nd, rfl⟩⟩; (try first | exact ⟨rfl, _, World.drewN_drewN _ _ _⟩ | exact ⟨rfl, _, Eq.trans (World.drewN_drewN _ _ _) (congrArg (World.drewN _) (Nat.add_assoc _ _ _))⟩)) | ((with_reducible refine gate_builtin (b := .append) (xs := #[.tmp 38, .tmp 39]) rfl ?_); at_builtin; refine Kd.R_append (Kd.int .u8) (w0 := w) w.heap.size rfl (.tmp 38) (.tmp 39) 91 5 (.int .u8 0) 1 rfl Tryd.underlying91 info5 rfl (by decide) (by omega) u3 x3_1 46 [.int .u8 46] (fun _ => True) (fun _ => False) rfl rfl ?aP (fun _ hk => hk.elim) ?aF ?aO ?aB ?aS ?aL ?_; (case aP => exact rfl); (case aB => exact (by repeat (first | (with_reducible first | exact HB.out | apply below_alloc | apply pw_below_drewN | apply below_drew1) | exact HB.out))); (case aF => exact (fun _ _ => trivial)); (case aO => exact (by (with_reducible repeat (first | apply Kd.R_alloc | apply Kd.R_drewN | apply Kd.R_drew)); exact HO_3.out)); (case aS => exact (below_size (by repeat (first | (with_reducible first | exact HB.out | apply below_alloc | apply pw_below_drewN | apply below_drew1) | exact HB.out)))); (case aL => have := LMc23.out; omega); intro v133 w26 ho hb hg hat; rw [← Ny132.out] at ho; have n0_ := Aside0.mk (hb); have n1_ := Aside0.mk (ho); clear HB; clear HO_3; have HB := n0_; have HO134 := n1_; clear n0_ n1_; clear ho hb hg hat; have p24 : 0 ≤ (x4_1 : Int) := of_decide_eq_true (by first | (with_reducible assumption) | assumption); have q24 : x4_1 < (a0.size : Int) := of_decide_eq_true (by first | (with_reducible assumption) | assumption); have hx24 := bt_at a0 x4_1; replace p24 := eq_true p24; replace q24 := eq_true q24) | ((with_reducible refine gate_builtin (b := .append) (xs := #[.tmp 41, .tmp 45]) rfl ?_); at_builtin; refine Kd.R_append (Kd.int .u8) (w0 := w) w.heap.size rfl (.tmp 41) (.tmp 45) 91 5 (.int .u8 0) 1 rfl Tryd.underlying91 info5 rfl (by decide) (by omega) v133 y132 (bt a0 x4_1) [.int .u8 (bt a0 x4_1)] (fun _ => True) (fun _ => False) rfl rfl ?aP (fun _ hk => hk.elim) ?aF ?aO ?aB ?aS ?aL ?_; (case aP => exact rfl); (case aB => exact (by repeat (first | (with_reducible first | exact HB.out | apply below_alloc | apply pw_below_drewN | apply below_drew1) | exact HB.out))); (case aF => exact (fun _ _ => trivial)); (case aO => exact (by (with_reducible repeat (first | apply Kd.R_alloc | apply Kd.R_drewN | apply Kd.R_drew)); exact HO134.out)); (case aS => exact (below_size (by repeat (first | (with_reducible first | exact HB.out | apply below_alloc | apply pw_below_drewN | apply below_drew1) | exact HB.out)))); (case aL => have := LMc25.out; omega); intro v136 w27 ho hb hg hat; rw [← Ny135.out] at ho; have n0_ := Aside0.mk (hb); have n1_ := Aside0.mk (ho); clear HB; clear HO134; have HB := n0_; have HO137 := n1_; clear n0_ n1_; clear ho hb hg hat))
             repeat (go_quiet (first | (go_at_call 43; (with_reducible refine (spec_isDigit.calls (bt a0 x4_1) t130 _ A19.out).mono ?_); rintro e w' ⟨rfl, ⟨nd, rfl⟩⟩; (try first | exact ⟨rfl, _, World.drewN_drewN _ _ _⟩ | exact ⟨rfl, _, Eq.trans (World.drewN_drewN _ _ _) (congrArg (World.drewN _) (Nat.add_assoc _ _ _))⟩); have p20 : 0 ≤ ((ji10) : Int) := of_decide_eq_true (by first | (with_reducible assumption) | assumption); have q20 : (ji10) < (a0.size : Int) := of_decide_eq_true (by first | (with_reducible assumption) | assumption); have hx20 := bt_at a0 (ji10); replace p20 := eq_true p20; replace q20 := eq_true q20) | (go_at_call 43; (with_reducible refine (spec_isDigit.calls (bt a0 (ji10)) t131 _ A21.out).mono ?_); rintro e w' ⟨rfl, ⟨nd, rfl⟩⟩; (try first | exact ⟨rfl, _, World.drewN_drewN _ _ _⟩ | exact ⟨rfl, _, Eq.trans (World.drewN_drewN _ _ _) (congrArg (World.drewN _) (Nat.add_assoc _ _ _))⟩)) | ((with_reducible refine gate_builtin (b := .append) (xs := #[.tmp 38, .tmp 39]) rfl ?_); at_builtin; refine Kd.R_append (Kd.int .u8) (w0 := w) w.heap.size rfl (.tmp 38) (.tmp 39) 91 5 (.int .u8 0) 1 rfl Tryd.underlying91 info5 rfl (by decide) (by omega) u3 x3_1 46 [.int .u8 46] (fun _ => True) (fun _ => False) rfl rfl ?aP (fun _ hk => hk.elim) ?aF ?aO ?aB ?aS ?aL ?_; (case aP => exact rfl); (case aB => exact (by repeat (first | (with_reducible first | exact HB.out | apply below_alloc | apply pw_below_drewN | apply below_drew1) | exact HB.out))); (case aF => exact (fun _ _ => trivial)); (case aO => exact (by (with_reducible repeat (first | apply Kd.R_alloc | apply Kd.R_drewN | apply Kd.R_drew)); exact HO_3.out)); (case aS => exact (below_size (by repeat (first | (with_reducible first | exact HB.out | apply below_alloc | apply pw_below_drewN | apply below_drew1) | exact HB.out)))); (case aL => have := LMc23.out; omega); intro v133 w26 ho hb hg hat; rw [← Ny132.out] at ho; have n0_ := Aside0.mk (hb); have n1_ := Aside0.mk (ho); clear HB; clear HO_3; have HB := n0_; have HO134 := n1_; clear n0_ n1_; clear ho hb hg hat; have p24 : 0 ≤ (x4_1 : Int) := of_decide_eq_true (by first | (with_reducible assumption) | assumption); have q24 : x4_1 < (a0.size : Int) := of_decide_eq_true (by first | (with_reducible assumption) | assumption); have hx24 := bt_at a0 x4_1; replace p24 := eq_true p24; replace q24 := eq_true q24) | ((with_reducible refine gate_builtin (b := .append) (xs := #[.tmp 41, .tmp 45]) rfl ?_); at_builtin; refine Kd.R_append (Kd.int .u8) (w0 := w) w.heap.size rfl (.tmp 41) (.tmp 45) 91 5 (.int .u8 0) 1 rfl Tryd.underlying91 info5 rfl (by decide) (by omega) v133 y132 (bt a0 x4_1) [.int .u8 (bt a0 x4_1)] (fun _ => True) (fun _ => False) rfl rfl ?aP (fun _ hk => hk.elim) ?aF ?aO ?aB ?aS ?aL ?_; (case aP => exact rfl); (case aB => exact (by repeat (first | (with_reducible first | exact HB.out | apply below_alloc | apply pw_below_drewN | apply below_drew1) | exact HB.out))); (case aF => exact (fun _ _ => trivial)); (case aO => exact (by (with_reducible repeat (first | apply Kd.R_alloc | apply Kd.R_drewN | apply Kd.R_drew)); exact HO134.out)); (case aS => exact (below_size (by repeat (first | (with_reducible first | exact HB.out | apply below_alloc | apply pw_below_drewN | apply below_drew1) | exact HB.out)))); (case aL => have := LMc25.out; omega); intro v136 w27 ho hb hg hat; rw [← Ny135.out] at ho; have n0_ := Aside0.mk (hb); have n1_ := Aside0.mk (ho); clear HB; clear HO134; have HB := n0_; have HO137 := n1_; clear n0_ n1_; clear ho hb hg hat)); try go_wp2_with (first | (go_at_call 43; (with_reducible refine (spec_isDigit.calls (bt a0 x4_1) t130 _ A19.out).mono ?_); rintro e w' ⟨rfl, ⟨nd, rfl⟩⟩; (try first | exact ⟨rfl, _, World.drewN_drewN _ _ _⟩ | exact ⟨rfl, _, Eq.trans (World.drewN_drewN _ _ _) (congrArg (World.drewN _) (Nat.add_assoc _ _ _))⟩); have p20 : 0 ≤ ((ji10) : Int) := of_decide_eq_true (by first | (with_reducible assumption) | assumption); have q20 : (ji10) < (a0.size : Int) := of_decide_eq_true (by first | (with_reducible assumption) | assumption); have hx20 := bt_at a0 (ji10); replace p20 := eq_true p20; replace q20 := eq_true q20) | (go_at_call 43; (with_reducible refine (spec_isDigit.calls (bt a0 (ji10)) t131 _ A21.out).mono ?_); rintro e w' ⟨rfl, ⟨nd, rfl⟩⟩; (try first | exact ⟨rfl, _, World.drewN_drewN _ _ _⟩ | exact ⟨rfl, _, Eq.trans (World.drewN_drewN _ _ _) (congrArg (World.drewN _) (Nat.add_assoc _ _ _))⟩)) | ((with_reducible refine gate_builtin (b := .append) (xs := #[.tmp 38, .tmp 39]) rfl ?_); at_builtin; refine Kd.R_append (Kd.int .u8) (w0 := w) w.heap.size rfl (.tmp 38) (.tmp 39) 91 5 (.int .u8 0) 1 rfl Tryd.underlying91 info5 rfl (by decide) (by omega) u3 x3_1 46 [.int .u8 46] (fun _ => True) (fun _ => False) rfl rfl ?aP (fun _ hk => hk.elim) ?aF ?aO ?aB ?aS ?aL ?_; (case aP => exact rfl); (case aB => exact (by repeat (first | (with_reducible first | exact HB.out | apply below_alloc | apply pw_below_drewN | apply below_drew1) | exact HB.out))); (case aF => exact (fun _ _ => trivial)); (case aO => exact (by (with_reducible repeat (first | apply Kd.R_alloc | apply Kd.R_drewN | apply Kd.R_drew)); exact HO_3.out)); (case aS => exact (below_size (by repeat (first | (with_reducible first | exact HB.out | apply below_alloc | apply pw_below_drewN | apply below_drew1) | exact HB.out)))); (case aL => have := LMc23.out; omega); intro v133 w26 ho hb hg hat; rw [← Ny132.out] at ho; have n0_ := Aside0.mk (hb); have n1_ := Aside0.mk (ho); clear HB; clear HO_3; have HB := n0_; have HO134 := n1_; clear n0_ n1_; clear ho hb hg hat; have p24 : 0 ≤ (x4_1 : Int) := of_decide_eq_true (by first | (with_reducible assumption) | assumption); have q24 : x4_1 < (a0.size : Int) := of_decide_eq_true (by first | (with_reducible assumption) | assumption); have hx24 := bt_at a0 x4_1; replace p24 := eq_true p24; replace q24 := eq_true q24) | ((with_reducible refine gate_builtin (b := .append) (xs := #[.tmp 41, .tmp 45]) rfl ?_); at_builtin; refine Kd.R_append (Kd.int .u8) (w0 := w) w.heap.size rfl (.tmp 41) (.tmp 45) 91 5 (.int .u8 0) 1 rfl Tryd.underlying91 info5 rfl (by decide) (by omega) v133 y132 (bt a0 x4_1) [.int .u8 (bt a0 x4_1)] (fun _ => True) (fun _ => False) rfl rfl ?aP (fun _ hk => hk.elim) ?aF ?aO ?aB ?aS ?aL ?_; (case aP => exact rfl); (case aB => exact (by repeat (first | (with_reducible first | exact HB.out | apply below_alloc | apply pw_below_drewN | apply below_drew1) | exact HB.out))); (case aF => exact (fun _ _ => trivial)); (case aO => exact (by (with_reducible repeat (first | apply Kd.R_alloc | apply Kd.R_drewN | apply Kd.R_drew)); exact HO134.out)); (case aS => exact (below_size (by repeat (first | (with_reducible first | exact HB.out | apply below_alloc | apply pw_below_drewN | apply below_drew1) | exact HB.out)))); (case aL => have := LMc25.out; omega); intro v136 w27 ho hb hg hat; rw [← Ny135.out] at ho; have n0_ := Aside0.mk (hb); have n1_ := Aside0.mk (ho); clear HB; clear HO134; have HB := n0_; have HO137 := n1_; clear n0_ n1_; clear ho hb hg hat)))
             go_roundg k1
             case measure => have := HK1.out; omega
             case rel => exact ⟨(y135), (wrap64 (x4_1 + 1)), (by first | rfl | (simp; done) | (simp [*]; done)), H', ⟨by have := HK1.out; omega⟩, ⟨by (with_reducible repeat (first | apply Kd.R_alloc | apply Kd.R_drewN | apply Kd.R_drew)); exact HO137.out⟩, ⟨by repeat (first | (with_reducible first | exact HB.out | apply below_alloc | apply pw_below_drewN | apply below_drew1) | exact HB.out)⟩⟩
            ·rw [if_neg c25] at H
             exact absurd H (by simp)
           ·rw [if_neg c23] at H
            exact absurd H (by simp)
          ·rw [if_neg c22] at H
           have c22b0 : (t130 != t131) = false := by simpa using c22
           (try (have c22b1 : decide (t130 = t131) = true := by simpa using c22))
           (try (have c22b2 : (t130 == t131) = true := by simpa using c22))
           clear c22
           by_cases c29 : x3_1.length < 140737488355328
           ·rw [if_pos c29] at H
            have LMc29 := Aside0.mk c29
            clear c29
            obtain ⟨y138, hy138⟩ : ∃ y_ : List Int, y_ = (x3_1 ++ [bt a0 x4_1]) := ⟨_, rfl⟩
            replace H : (spec_RubyCanonical.l0 k1 a0 y138 (wrap64 (x4_1 + 1))) = some r := by first | (rw [hy138]; with_reducible exact H) | (have H2_ := (Option.bind_some _ _).symm.trans H; rw [hy138]; with_reducible exact H2_) | (have H2_ := (Option.bind_some _ _).symm.trans H; with_reducible exact H2_) | with_reducible exact H | (rw [hy138]; exact H) | exact H
            have Ny138 := Aside0.mk hy138
            clear hy138
            have H' := Aside0.mk H
            clear H
            have p5 : 0 ≤ (x4_1 : Int) := of_decide_eq_true (by first | (with_reducible assumption) | assumption)
            have q5 : x4_1 < (a0.size : Int) := of_decide_eq_true (by first | (with_reducible assumption) | assumption)
            have hx5 := bt_at a0 x4_1
            replace p5 := eq_true p5
            replace q5 := eq_true q5
            have p13 : 0 ≤ ((ji10) : Int) := of_decide_eq_true (by first | (with_reducible assumption) | assumption)
            have q13 : (ji10) < (a0.size : Int) := of_decide_eq_true (by first | (with_reducible assumption) | assumption)
            have hx13 := bt_at a0 (ji10)
            replace p13 := eq_true p13
            replace q13 := eq_true q13
            have p18 : 0 ≤ (x4_1 : Int) := of_decide_eq_true (by first | (with_reducible assumption) | assumption)
            have q18 : x4_1 < (a0.size : Int) := of_decide_eq_true (by first | (with_reducible assumption) | assumption)
            have hx18 := bt_at a0 x4_1
            replace p18 := eq_true p18
            replace q18 := eq_true q18
            go_wp2_with (first | (go_at_call 43; (with_reducible refine (spec_isDigit.calls (bt a0 x4_1) t130 _ A19.out).mono ?_); rintro e w' ⟨rfl, ⟨nd, rfl⟩⟩; (try first | exact ⟨rfl, _, World.drewN_drewN _ _ _⟩ | exact ⟨rfl, _, Eq.trans (World.drewN_drewN _ _ _) (congrArg (World.drewN _) (Nat.add_assoc _ _ _))⟩); have p20 : 0 ≤ ((ji10) : Int) := of_decide_eq_true (by first | (with_reducible assumption) | assumption); have q20 : (ji10) < (a0.size : Int) := of_decide_eq_true (by first | (with_reducible assumption) | assumption); have hx20 := bt_at a0 (ji10); replace p20 := eq_true p20; replace q20 := eq_true q20) | (go_at_call 43; (with_reducible refine (spec_isDigit.calls (bt a0 (ji10)) t131 _ A21.out).mono ?_); rintro e w' ⟨rfl, ⟨nd, rfl⟩⟩; (try first | exact ⟨rfl, _, World.drewN_drewN _ _ _⟩ | exact ⟨rfl, _, Eq.trans (World.drewN_drewN _ _ _) (congrArg (World.drewN _) (Nat.add_assoc _ _ _))⟩); have p28 : 0 ≤ (x4_1 : Int) := of_decide_eq_true (by first | (with_reducible assumption) | assumption); have q28 : x4_1 < (a0.size : Int) := of_decide_eq_true (by first | (with_reducible assumption) | assumption); have hx28 := bt_at a0 x4_1; replace p28 := eq_true p28; replace q28 := eq_true q28) | ((with_reducible refine gate_builtin (b := .append) (xs := #[.tmp 41, .tmp 45]) rfl ?_); at_builtin; refine Kd.R_append (Kd.int .u8) (w0 := w) w.heap.size rfl (.tmp 41) (.tmp 45) 91 5 (.int .u8 0) 1 rfl Tryd.underlying91 info5 rfl (by decide) (by omega) u3 x3_1 (bt a0 x4_1) [.int .u8 (bt a0 x4_1)] (fun _ => True) (fun _ => False) rfl rfl ?aP (fun _ hk => hk.elim) ?aF ?aO ?aB ?aS ?aL ?_; (case aP => exact rfl); (case aB => exact (by repeat (first | (with_reducible first | exact HB.out | apply below_alloc | apply pw_below_drewN | apply below_drew1) | exact HB.out))); (case aF => exact (fun _ _ => trivial)); (case aO => exact (by (with_reducible repeat (first | apply Kd.R_alloc | apply Kd.R_drewN | apply Kd.R_drew)); exact HO_3.out)); (case aS => exact (below_size (by repeat (first | (with_reducible first | exact HB.out | apply below_alloc | apply pw_below_drewN | apply below_drew1) | exact HB.out)))); (case aL => have := LMc29.out; omega); intro v139 w30 ho hb hg hat; rw [← Ny138.out] at ho; have n0_ := Aside0.mk (hb); have n1_ := Aside0.mk (ho); clear HB; clear HO_3; have HB := n0_; have HO140 := n1_; clear n0_ n1_; clear ho hb hg hat))
            repeat (go_quiet (first | (go_at_call 43; (with_reducible refine (spec_isDigit.calls (bt a0 x4_1) t130 _ A19.out).mono ?_); rintro e w' ⟨rfl, ⟨nd, rfl⟩⟩; (try first | exact ⟨rfl, _, World.drewN_drewN _ _ _⟩ | exact ⟨rfl, _, Eq.trans (World.drewN_drewN _ _ _) (congrArg (World.drewN _) (Nat.add_assoc _ _ _))⟩); have p20 : 0 ≤ ((ji10) : Int) := of_decide_eq_true (by first | (with_reducible assumption) | assumption); have q20 : (ji10) < (a0.size : Int) := of_decide_eq_true (by first | (with_reducible assumption) | assumption); have hx20 := bt_at a0 (ji10); replace p20 := eq_true p20; replace q20 := eq_true q20) | (go_at_call 43; (with_reducible refine (spec_isDigit.calls (bt a0 (ji10)) t131 _ A21.out).mono ?_); rintro e w' ⟨rfl, ⟨nd, rfl⟩⟩; (try first | exact ⟨rfl, _, World.drewN_drewN _ _ _⟩ | exact ⟨rfl, _, Eq.trans (World.drewN_drewN _ _ _) (congrArg (World.drewN _) (Nat.add_assoc _ _ _))⟩); have p28 : 0 ≤ (x4_1 : Int) := of_decide_eq_true (by first | (with_reducible assumption) | assumption); have q28 : x4_1 < (a0.size : Int) := of_decide_eq_true (by first | (with_reducible assumption) | assumption); have hx28 := bt_at a0 x4_1; replace p28 := eq_true p28; replace q28 := eq_true q28) | ((with_reducible refine gate_builtin (b := .append) (xs := #[.tmp 41, .tmp 45]) rfl ?_); at_builtin; refine Kd.R_append (Kd.int .u8) (w0 := w) w.heap.size rfl (.tmp 41) (.tmp 45) 91 5 (.int .u8 0) 1 rfl Tryd.underlying91 info5 rfl (by decide) (by omega) u3 x3_1 (bt a0 x4_1) [.int .u8 (bt a0 x4_1)] (fun _ => True) (fun _ => False) rfl rfl ?aP (fun _ hk => hk.elim) ?aF ?aO ?aB ?aS ?aL ?_; (case aP => exact rfl); (case aB => exact (by repeat (first | (with_reducible first | exact HB.out | apply below_alloc | apply pw_below_drewN | apply below_drew1) | exact HB.out))); (case aF => exact (fun _ _ => trivial)); (case aO => exact (by (with_reducible repeat (first | apply Kd.R_alloc | apply Kd.R_drewN | apply Kd.R_drew)); exact HO_3.out)); (case aS => exact (below_size (by repeat (first | (with_reducible first | exact HB.out | apply below_alloc | apply pw_below_drewN | apply below_drew1) | exact HB.out)))); (case aL => have := LMc29.out; omega); intro v139 w30 ho hb hg hat; rw [← Ny138.out] at ho; have n0_ := Aside0.mk (hb); have n1_ := Aside0.mk (ho); clear HB; clear HO_3; have HB := n0_; have HO140 := n1_; clear n0_ n1_; clear ho hb hg hat)); try go_wp2_with (first | (go_at_call 43; (with_reducible refine (spec_isDigit.calls (bt a0 x4_1) t130 _ A19.out).mono ?_); rintro e w' ⟨rfl, ⟨nd, rfl⟩⟩; (try first | exact ⟨rfl, _, World.drewN_drewN _ _ _⟩ | exact ⟨rfl, _, Eq.trans (World.drewN_drewN _ _ _) (congrArg (World.drewN _) (Nat.add_assoc _ _ _))⟩); have p20 : 0 ≤ ((ji10) : Int) := of_decide_eq_true (by first | (with_reducible assumption) | assumption); have q20 : (ji10) < (a0.size : Int) := of_decide_eq_true (by first | (with_reducible assumption) | assumption); have hx20 := bt_at a0 (ji10); replace p20 := eq_true p20; replace q20 := eq_true q20) | (go_at_call 43; (with_reducible refine (spec_isDigit.calls (bt a0 (ji10)) t131 _ A21.out).mono ?_); rintro e w' ⟨rfl, ⟨nd, rfl⟩⟩; (try first | exact ⟨rfl, _, World.drewN_drewN _ _ _⟩ | exact ⟨rfl, _, Eq.trans (World.drewN_drewN _ _ _) (congrArg (World.drewN _) (Nat.add_assoc _ _ _))⟩); have p28 : 0 ≤ (x4_1 : Int) := of_decide_eq_true (by first | (with_reducible assumption) | assumption); have q28 : x4_1 < (a0.size : Int) := of_decide_eq_true (by first | (with_reducible assumption) | assumption); have hx28 := bt_at a0 x4_1; replace p28 := eq_true p28; replace q28 := eq_true q28) | ((with_reducible refine gate_builtin (b := .append) (xs := #[.tmp 41, .tmp 45]) rfl ?_); at_builtin; refine Kd.R_append (Kd.int .u8) (w0 := w) w.heap.size rfl (.tmp 41) (.tmp 45) 91 5 (.int .u8 0) 1 rfl Tryd.underlying91 info5 rfl (by decide) (by omega) u3 x3_1 (bt a0 x4_1) [.int .u8 (bt a0 x4_1)] (fun _ => True) (fun _ => False) rfl rfl ?aP (fun _ hk => hk.elim) ?aF ?aO ?aB ?aS ?aL ?_; (case aP => exact rfl); (case aB => exact (by repeat (first | (with_reducible first | exact HB.out | apply below_alloc | apply pw_below_drewN | apply below_drew1) | exact HB.out))); (case aF => exact (fun _ _ => trivial)); (case aO => exact (by (with_reducible repeat (first | apply Kd.R_alloc | apply Kd.R_drewN | apply Kd.R_drew)); exact HO_3.out)); (case aS => exact (below_size (by repeat (first | (with_reducible first | exact HB.out | apply below_alloc | apply pw_below_drewN | apply below_drew1) | exact HB.out)))); (case aL => have := LMc29.out; omega); intro v139 w30 ho hb hg hat; rw [← Ny138.out] at ho; have n0_ := Aside0.mk (hb); have n1_ := Aside0.mk (ho); clear HB; clear HO_3; have HB := n0_; have HO140 := n1_; clear n0_ n1_; clear ho hb hg hat)))
            go_roundg k1
            case measure => have := HK1.out; omega
            case rel => exact ⟨(y138), (wrap64 (x4_1 + 1)), (by first | rfl | (simp; done) | (simp [*]; done)), H', ⟨by have := HK1.out; omega⟩, ⟨by (with_reducible repeat (first | apply Kd.R_alloc | apply Kd.R_drewN | apply Kd.R_drew)); exact HO140.out⟩, ⟨by repeat (first | (with_reducible first | exact HB.out | apply below_alloc | apply pw_below_drewN | apply below_drew1) | exact HB.out)⟩⟩
           ·rw [if_neg c29] at H
            exact absurd H (by simp)
        ·rw [if_neg c12] at H
         exact absurd H (by simp)
       ·rw [if_neg c11] at H
        exact absurd H (by simp)
     ·rw [if_neg c4] at H
      exact absurd H (by simp)
    ·rw [if_neg c3] at H
     have c3b0 : decide (0 < x4_1) = false := decide_eq_false c3
     clear c3
     by_cases c31 : 0 ≤ x4_1
     ·rw [if_pos c31] at H
      have c31b0 : decide (0 ≤ x4_1) = true := decide_eq_true c31
      clear c31
      by_cases c33 : x3_1.length < 140737488355328
      ·rw [if_pos c33] at H
       have LMc33 := Aside0.mk c33
       clear c33
       obtain ⟨y141, hy141⟩ : ∃ y_ : List Int, y_ = (x3_1 ++ [bt a0 x4_1]) := ⟨_, rfl⟩
       replace H : (spec_RubyCanonical.l0 k1 a0 y141 (wrap64 (x4_1 + 1))) = some r := by first | (rw [hy141]; with_reducible exact H) | (have H2_ := (Option.bind_some _ _).symm.trans H; rw [hy141]; with_reducible exact H2_) | (have H2_ := (Option.bind_some _ _).symm.trans H; with_reducible exact H2_) | with_reducible exact H | (rw [hy141]; exact H) | exact H
       have Ny141 := Aside0.mk hy141
       clear hy141
       have H' := Aside0.mk H
       clear H
       have p32 : 0 ≤ (x4_1 : Int) := of_decide_eq_true (by first | (with_reducible assumption) | assumption)
       have q32 : x4_1 < (a0.size : Int) := of_decide_eq_true (by first | (with_reducible assumption) | assumption)
       have hx32 := bt_at a0 x4_1
       replace p32 := eq_true p32
       replace q32 := eq_true q32
       go_wp2_with (first | ((with_reducible refine gate_builtin (b := .append) (xs := #[.tmp 41, .tmp 45]) rfl ?_); at_builtin; refine Kd.R_append (Kd.int .u8) (w0 := w) w.heap.size rfl (.tmp 41) (.tmp 45) 91 5 (.int .u8 0) 1 rfl Tryd.underlying91 info5 rfl (by decide) (by omega) u3 x3_1 (bt a0 x4_1) [.int .u8 (bt a0 x4_1)] (fun _ => True) (fun _ => False) rfl rfl ?aP (fun _ hk => hk.elim) ?aF ?aO ?aB ?aS ?aL ?_; (case aP => exact rfl); (case aB => exact (by repeat (first | (with_reducible first | exact HB.out | apply below_alloc | apply pw_below_drewN | apply below_drew1) | exact HB.out))); (case aF => exact (fun _ _ => trivial)); (case aO => exact (by (with_reducible repeat (first | apply Kd.R_alloc | apply Kd.R_drewN | apply Kd.R_drew)); exact HO_3.out)); (case aS => exact (below_size (by repeat (first | (with_reducible first | exact HB.out | apply below_alloc | apply pw_below_drewN | apply below_drew1) | exact HB.out)))); (case aL => have := LMc33.out; omega); intro v142 w34 ho hb hg hat; rw [← Ny141.out] at ho; have n0_ := Aside0.mk (hb); have n1_ := Aside0.mk (ho); clear HB; clear HO_3; have HB := n0_; have HO143 := n1_; clear n0_ n1_; clear ho hb hg hat))
       repeat (go_quiet (first | ((with_reducible refine gate_builtin (b := .append) (xs := #[.tmp 41, .tmp 45]) rfl ?_); at_builtin; refine Kd.R_append (Kd.int .u8) (w0 := w) w.heap.size rfl (.tmp 41) (.tmp 45) 91 5 (.int .u8 0) 1 rfl Tryd.underlying91 info5 rfl (by decide) (by omega) u3 x3_1 (bt a0 x4_1) [.int .u8 (bt a0 x4_1)] (fun _ => True) (fun _ => False) rfl rfl ?aP (fun _ hk => hk.elim) ?aF ?aO ?aB ?aS ?aL ?_; (case aP => exact rfl); (case aB => exact (by repeat (first | (with_reducible first | exact HB.out | apply below_alloc | apply pw_below_drewN | apply below_drew1) | exact HB.out))); (case aF => exact (fun _ _ => trivial)); (case aO => exact (by (with_reducible repeat (first | apply Kd.R_alloc | apply Kd.R_drewN | apply Kd.R_drew)); exact HO_3.out)); (case aS => exact (below_size (by repeat (first | (with_reducible first | exact HB.out | apply below_alloc | apply pw_below_drewN | apply below_drew1) | exact HB.out)))); (case aL => have := LMc33.out; omega); intro v142 w34 ho hb hg hat; rw [← Ny141.out] at ho; have n0_ := Aside0.mk (hb); have n1_ := Aside0.mk (ho); clear HB; clear HO_3; have HB := n0_; have HO143 := n1_; clear n0_ n1_; clear ho hb hg hat)); try go_wp2_with (first | ((with_reducible refine gate_builtin (b := .append) (xs := #[.tmp 41, .tmp 45]) rfl ?_); at_builtin; refine Kd.R_append (Kd.int .u8) (w0 := w) w.heap.size rfl (.tmp 41) (.tmp 45) 91 5 (.int .u8 0) 1 rfl Tryd.underlying91 info5 rfl (by decide) (by omega) u3 x3_1 (bt a0 x4_1) [.int .u8 (bt a0 x4_1)] (fun _ => True) (fun _ => False) rfl rfl ?aP (fun _ hk => hk.elim) ?aF ?aO ?aB ?aS ?aL ?_; (case aP => exact rfl); (case aB => exact (by repeat (first | (with_reducible first | exact HB.out | apply below_alloc | apply pw_below_drewN | apply below_drew1) | exact HB.out))); (case aF => exact (fun _ _ => trivial)); (case aO => exact (by (with_reducible repeat (first | apply Kd.R_alloc | apply Kd.R_drewN | apply Kd.R_drew)); exact HO_3.out)); (case aS => exact (below_size (by repeat (first | (with_reducible first | exact HB.out | apply below_alloc | apply pw_below_drewN | apply below_drew1) | exact HB.out)))); (case aL => have := LMc33.out; omega); intro v142 w34 ho hb hg hat; rw [← Ny141.out] at ho; have n0_ := Aside0.mk (hb); have n1_ := Aside0.mk (ho); clear HB; clear HO_3; have HB := n0_; have HO143 := n1_; clear n0_ n1_; clear ho hb hg hat)))
       go_roundg k1
       case measure => have := HK1.out; omega
       case rel => exact ⟨(y141), (wrap64 (x4_1 + 1)), (by first | rfl | (simp; done) | (simp [*]; done)), H', ⟨by have := HK1.out; omega⟩, ⟨by (with_reducible repeat (first | apply Kd.R_alloc | apply Kd.R_drewN | apply Kd.R_drew)); exact HO143.out⟩, ⟨by repeat (first | (with_reducible first | exact HB.out | apply below_alloc | apply pw_below_drewN | apply below_drew1) | exact HB.out)⟩⟩
      ·rw [if_neg c33] at H
       exact absurd H (by simp)
     ·rw [if_neg c31] at H
      exact absurd H (by simp)
   ·rw [if_neg c2] at H
    have c2b0 : decide (x4_1 < (a0.size : Int)) = false := decide_eq_false c2
    clear c2
    obtain rfl := Option.some.inj H
    have hcv35 := own_string (P := Tryd.prog) Tryd.underlying91 Tryd.underlying5 Tryd.underlying9 (Kd.own_of_R HO_3.out)
    go_wp2
    repeat (go_quiet (fail); try go_wp2)
    go_ret
    exact ⟨by first | rfl | (simp [errW_none, errW_some] <;> rfl) | (simp [*, errW_none, errW_some] <;> rfl), by repeat (first | (with_reducible first | exact HB.out | apply below_alloc | apply pw_below_drewN | apply below_drew1) | exact HB.out)⟩

/-! ### spec_RubyKnown: function 25 -/
def spec_RubyKnown.f (k : Nat) (a0 : ByteArray) : Option (Bool) := (spec_Ascii.f k a0).bind fun t144 => (if t144 = true then ((spec_RubyCanonical.f k a0).bind fun t145 => ((spec_cut_isPoint.f k t145 42).bind fun t146 => ((spec_RubySegmentsKnown.f k t146).bind fun t149 => (some t149)))) else (some false))
theorem spec_RubyKnown.mono : ∀ a0 k, LeO (spec_RubyKnown.f k a0) (spec_RubyKnown.f (k + 1) a0) := by
 intro a0 k
 unfold spec_RubyKnown.f
 repeat' first
   | (with_reducible exact spec_Ascii.mono _ _)
   | (with_reducible exact spec_RubyCanonical.mono _ _)
   | (with_reducible exact spec_RubySegmentsKnown.mono _ _)
   | (with_reducible exact spec_cut_isPoint.mono _ _ _)
   | (with_reducible exact LeO.refl _)
   | (with_reducible exact LeO.none _)
   | (with_reducible refine LeO.ite ?_ ?_)
   | (with_reducible refine LeO.bind ?_ (fun _ => ?_))
   | exact spec_Ascii.mono _ _
   | exact spec_RubyCanonical.mono _ _
   | exact spec_RubySegmentsKnown.mono _ _
   | exact spec_cut_isPoint.mono _ _ _
   | exact LeO.none _
   | refine LeO.ite ?_ ?_
   | refine LeO.bind ?_ (fun _ => ?_)
set_option maxHeartbeats 8000000 in
set_option maxRecDepth 100000 in
theorem spec_RubyKnown.calls (k : Nat) (a0 : ByteArray) (r : Bool) (w : World) (h : spec_RubyKnown.f k a0 = some r) :
  Calls Tryd.prog 25 #[.string a0] w fun e w' => e = .returned (.bool r) ∧ Below w.heap.size w w' := by
 have HB := Aside0.mk (Below.refl w.heap.size w)
 have H : ((spec_Ascii.f k a0).bind fun t144 => (if t144 = true then ((spec_RubyCanonical.f k a0).bind fun t145 => ((spec_cut_isPoint.f k t145 42).bind fun t146 => ((spec_RubySegmentsKnown.f k t146).bind fun t149 => (some t149)))) else (some false))) = some r := h
 clear h
 replace H := Option.bind_eq_some_iff.mp H
 obtain ⟨t144, A20, H⟩ := H
 replace H : (if t144 = true then ((spec_RubyCanonical.f k a0).bind fun t145 => ((spec_cut_isPoint.f k t145 42).bind fun t146 => ((spec_RubySegmentsKnown.f k t146).bind fun t149 => (some t149)))) else (some false)) = some r := H
 have A2 := Aside0.mk A20
 clear A20
 by_cases c3 : t144 = true
 ·subst c3
  have H1 : ((spec_RubyCanonical.f k a0).bind fun t145 => ((spec_cut_isPoint.f k t145 42).bind fun t146 => ((spec_RubySegmentsKnown.f k t146).bind fun t149 => (some t149)))) = some r := by rw [if_pos rfl] at H; exact H
  clear H
  have H := H1
  clear H1
  replace H := Option.bind_eq_some_iff.mp H
  obtain ⟨t145, A40, H⟩ := H
  replace H : ((spec_cut_isPoint.f k t145 42).bind fun t146 => ((spec_RubySegmentsKnown.f k t146).bind fun t149 => (some t149))) = some r := H
  have A4 := Aside0.mk A40
  clear A40
  replace H := Option.bind_eq_some_iff.mp H
  obtain ⟨t146, A50, H⟩ := H
  replace H : ((spec_RubySegmentsKnown.f k t146).bind fun t149 => (some t149)) = some r := H
  have A5 := Aside0.mk A50
  clear A50
  replace H := Option.bind_eq_some_iff.mp H
  obtain ⟨t149, A60, H⟩ := H
  replace H : (some t149) = some r := H
  have A6 := Aside0.mk A60
  clear A60
  obtain rfl := Option.some.inj H
  go_enter Tryd.func25, Tryd.ntmps25
  go_wp2_with (first | ((with_reducible refine gate_callee (f := 52) rfl ?_); refine goesL_ (some 4) rfl rfl Tryd.func52 (by kernel_rfl) rfl #[.string a0] rfl (by (try simp only [List.map_toArray, List.map_cons, List.map_nil]); first | done | rfl | (simp only [List.length_drop, List.length_take]; rfl)) ?_; (with_reducible refine (spec_Ascii.calls k a0 true _ A2.out).mono ?_); rintro e w' ⟨rfl, ⟨nd, rfl⟩⟩; refine ⟨_, rfl, ?_⟩) | (go_at_call 54; (with_reducible refine (spec_RubyCanonical.calls k a0 t145 _ A4.out).mono ?_); rintro e w7 ⟨rfl, hb⟩; have n0_ := Aside0.mk (below_step (by repeat (first | (with_reducible first | exact HB.out | apply below_alloc | apply pw_below_drewN | apply below_drew1) | exact HB.out)) hb); clear HB; have HB := n0_; clear n0_; (try clear hb); (try clear hb2); (try clear hk); (try clear hi)) | (go_at_call 36; (with_reducible refine (spec_cut_isPoint.calls k t145 42 t146 _ A5.out).mono ?_); rintro e w8 ⟨v147, rfl, ho0, hb⟩; have n0_ := Aside0.mk (Kd.R_lower ho0 (below_size (by repeat (first | (with_reducible first | exact HB.out | apply below_alloc | apply pw_below_drewN | apply below_drew1) | exact HB.out)))); have n1_ := Aside0.mk (below_step (by repeat (first | (with_reducible first | exact HB.out | apply below_alloc | apply pw_below_drewN | apply below_drew1) | exact HB.out)) hb); clear HB; have HO148 := n0_; have HB := n1_; clear n0_ n1_; (try clear hb); (try clear hb2); (try clear hk); (try clear hi); (try clear ho0); obtain ⟨Ao9, co9, eo9⟩ := Kd.R_slice HO148.out; subst eo9) | (go_at_call 53; (with_reducible refine (spec_RubySegmentsKnown.calls k _ _ t146 t149 _ ?side1 ?side2 A6.out).mono ?_); (case side1 => repeat (first | exact (Kd.R_reads' HO148.out).2.2 | (with_reducible refine Kd.C_alloc ?_ _) | (with_reducible refine Kd.C_drewN ?_ _) | (with_reducible refine Kd.C_drew ?_))); (case side2 => exact (Kd.R_reads' HO148.out).2.1); rintro e w' ⟨rfl, ⟨nd, rfl⟩⟩))
  go_ret
  exact ⟨by first | rfl | (simp [errW_none, errW_some] <;> rfl) | (simp [*, errW_none, errW_some] <;> rfl), by repeat (first | (with_reducible first | exact HB.out | apply below_alloc | apply pw_below_drewN | apply below_drew1) | exact HB.out)⟩
 ·replace c3 := Bool.eq_false_iff.mpr c3
  subst c3
  have H1 : (some false) = some r := by rw [if_neg (show ¬ (false = true) by decide)] at H; exact H
  clear H
  have H := H1
  clear H1
  obtain rfl := Option.some.inj H
  go_enter Tryd.func25, Tryd.ntmps25
  go_wp2_with (first | ((with_reducible refine gate_callee (f := 52) rfl ?_); refine goesL_ (some 4) rfl rfl Tryd.func52 (by kernel_rfl) rfl #[.string a0] rfl (by (try simp only [List.map_toArray, List.map_cons, List.map_nil]); first | done | rfl | (simp only [List.length_drop, List.length_take]; rfl)) ?_; (with_reducible refine (spec_Ascii.calls k a0 false _ A2.out).mono ?_); rintro e w' ⟨rfl, ⟨nd, rfl⟩⟩; refine ⟨_, rfl, ?_⟩))
  go_ret
  exact ⟨by first | rfl | (simp [errW_none, errW_some] <;> rfl) | (simp [*, errW_none, errW_some] <;> rfl), by repeat (first | (with_reducible first | exact HB.out | apply below_alloc | apply pw_below_drewN | apply below_drew1) | exact HB.out)⟩

/-! ### spec_isLetter: function 44 -/
def spec_isLetter.f (a0 : Int) : Option (Bool) := if a0 ≥ 97 then (if a0 ≤ 122 then (some true) else (if a0 ≥ 65 then (some (decide (a0 ≤ 90))) else (some false))) else (if a0 ≥ 65 then (some (decide (a0 ≤ 90))) else (some false))
set_option maxHeartbeats 8000000 in
set_option maxRecDepth 100000 in
theorem spec_isLetter.calls (a0 : Int) (r : Bool) (w : World) (h : spec_isLetter.f a0 = some r) :
  Calls Tryd.prog 44 #[.int .u8 a0] w fun e w' => e = .returned (.bool r) ∧ Drawn0 w w' := by
 have H : (if a0 ≥ 97 then (if a0 ≤ 122 then (some true) else (if a0 ≥ 65 then (some (decide (a0 ≤ 90))) else (some false))) else (if a0 ≥ 65 then (some (decide (a0 ≤ 90))) else (some false))) = some r := h
 clear h
 by_cases c2 : a0 ≥ 97
 ·rw [if_pos c2] at H
  have c2b0 : decide (97 ≤ a0) = true := decide_eq_true c2
  clear c2
  by_cases c3 : a0 ≤ 122
  ·rw [if_pos c3] at H
   have c3b0 : decide (a0 ≤ 122) = true := decide_eq_true c3
   clear c3
   obtain rfl := Option.some.inj H
   go_enter Tryd.func44, Tryd.ntmps44
   go_wp2
   go_ret
   exact ⟨by first | rfl | (simp; done) | (simp [*]; done), by repeat (first | exact Drawn0.refl _ | apply Drawn0.step)⟩
  ·rw [if_neg c3] at H
   have c3b0 : decide (a0 ≤ 122) = false := decide_eq_false c3
   clear c3
   by_cases c4 : a0 ≥ 65
   ·rw [if_pos c4] at H
    have c4b0 : decide (65 ≤ a0) = true := decide_eq_true c4
    clear c4
    obtain rfl := Option.some.inj H
    go_enter Tryd.func44, Tryd.ntmps44
    go_wp2
    go_ret
    exact ⟨by first | rfl | (simp; done) | (simp [*]; done), by repeat (first | exact Drawn0.refl _ | apply Drawn0.step)⟩
   ·rw [if_neg c4] at H
    have c4b0 : decide (65 ≤ a0) = false := decide_eq_false c4
    clear c4
    obtain rfl := Option.some.inj H
    go_enter Tryd.func44, Tryd.ntmps44
    go_wp2
    go_ret
    exact ⟨by first | rfl | (simp; done) | (simp [*]; done), by repeat (first | exact Drawn0.refl _ | apply Drawn0.step)⟩
 ·rw [if_neg c2] at H
  have c2b0 : decide (97 ≤ a0) = false := decide_eq_false c2
  clear c2
  by_cases c5 : a0 ≥ 65
  ·rw [if_pos c5] at H
   have c5b0 : decide (65 ≤ a0) = true := decide_eq_true c5
   clear c5
   obtain rfl := Option.some.inj H
   go_enter Tryd.func44, Tryd.ntmps44
   go_wp2
   go_ret
   exact ⟨by first | rfl | (simp; done) | (simp [*]; done), by repeat (first | exact Drawn0.refl _ | apply Drawn0.step)⟩
  ·rw [if_neg c5] at H
   have c5b0 : decide (65 ≤ a0) = false := decide_eq_false c5
   clear c5
   obtain rfl := Option.some.inj H
   go_enter Tryd.func44, Tryd.ntmps44
   go_wp2
   go_ret
   exact ⟨by first | rfl | (simp; done) | (simp [*]; done), by repeat (first | exact Drawn0.refl _ | apply Drawn0.step)⟩

end Go.Proofs.YtmhlmkefnmdbcaaDoor.Z
