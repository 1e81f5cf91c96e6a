-- Written by a program of this session (myprint.py).
import Derived.Test.YtifneobfjadnkaaDoorZ0
import Derived.Test.YtifneobfjadnkaaDoorGe
namespace Go.Proofs.YtifneobfjadnkaaDoor.Z
open Go.Proofs.YtifneobfjadnkaaDoor.Gw
open Go.RowKit Go.Proofs.YtifneobfjadnkaaDoorW.PrintWords Go.Proofs.YtifneobfjadnkaaDoorW.PrintLast Go.Proofs.YtifneobfjadnkaaDoorW.PrintMore
attribute [local go_sem high] Go.Proofs.YtifneobfjadnkaaDoor.Ge.gtr_str
attribute [local go_sem] max2_int min2_int max_two min_two max_three min_three max_four min_four   -- for this text's walks alone
set_option linter.unusedVariables false
set_option linter.unusedSimpArgs false

/-! ### laws_zzFits1: function 4 -/
def laws_zzFits1.l0 : Nat → List ByteArray → Int → Int → Option (Bool)
  | 0, _, _, _ => none
  | k + 1, x8, x9, x10 => if x10 < x9 then (if 0 ≤ x10 then (if x10 < (x8.length : Int) then (if ((rdOf ByteArray.empty x8 x10).size : Int) > 2147483647 then (some false) else (laws_zzFits1.l0 k x8 x9 (wrap64 (x10 + 1)))) else (none)) else (none)) else (some true)
def laws_zzFits1.f (k : Nat) (l0 : List ByteArray) : Option (Bool) := if (l0.length : Int) > 2147483647 then (some false) else (laws_zzFits1.l0 k l0 (l0.length : Int) 0)
theorem laws_zzFits1.mono_l : ∀ k, (∀ y0 y1 y2, LeO (laws_zzFits1.l0 k y0 y1 y2) (laws_zzFits1.l0 (k + 1) y0 y1 y2))
  | 0 => fun _ _ _ r h => by simp [laws_zzFits1.l0] at h
  | k + 1 => by
    have ih0 := laws_zzFits1.mono_l k
    · intro y0 y1 y2
      unfold laws_zzFits1.l0
      repeat' first
      | (with_reducible exact ih0 _ _ _)
      | (with_reducible exact LeO.refl _)
      | (with_reducible exact LeO.none _)
      | (with_reducible refine LeO.ite ?_ ?_)
      | (with_reducible refine LeO.bind ?_ (fun _ => ?_))
      | exact ih0 _ _ _
      | exact LeO.none _
      | refine LeO.ite ?_ ?_
      | refine LeO.bind ?_ (fun _ => ?_)
theorem laws_zzFits1.mono : ∀ a0 k, LeO (laws_zzFits1.f k a0) (laws_zzFits1.f (k + 1) a0) := by
  intro a0 k
  have ih0 := laws_zzFits1.mono_l k
  unfold laws_zzFits1.f
  repeat' first
      | (with_reducible exact ih0 _ _ _)
      | (with_reducible exact LeO.refl _)
      | (with_reducible exact LeO.none _)
      | (with_reducible refine LeO.ite ?_ ?_)
      | (with_reducible refine LeO.bind ?_ (fun _ => ?_))
      | exact ih0 _ _ _
      | exact LeO.none _
      | refine LeO.ite ?_ ?_
      | refine LeO.bind ?_ (fun _ => ?_)
set_option maxHeartbeats 8000000 in
set_option maxRecDepth 100000 in
theorem laws_zzFits1.calls (k : Nat) (A0 : Option Addr) (c0 : Nat) (l0 : List ByteArray) (r : Bool) (w : World) (hr0 : Kd.C Kd.string w A0 l0.length l0) (hc0 : l0.length ≤ c0) (h : laws_zzFits1.f k l0 = some r) :
    Calls Tryd.prog 4 #[.slice A0 l0.length c0] w fun e w' => e = .returned (.bool r) ∧ Drawn0 w w' := by
  have HR0 := Aside0.mk hr0
  have HC0 := Aside0.mk hc0
  clear hr0 hc0
  have H : (if (l0.length : Int) > 2147483647 then (some false) else (laws_zzFits1.l0 k l0 (l0.length : Int) 0)) = some r := h
  clear h
  by_cases c2 : (l0.length : Int) > 2147483647
  · rw [if_pos c2] at H
    have c2b0 : decide (2147483647 < (l0.length : Int)) = true := decide_eq_true c2
    have c2b1 : decide (2147483647 < l0.length) = true := decide_eq_true (by omega)
    clear c2
    obtain rfl := Option.some.inj H
    go_enter Tryd.func4, Tryd.ntmps4
    go_wp2
    go_ret
    exact ⟨by first | rfl | (simp; done) | (simp [*]; done), by repeat (first | exact Drawn0.refl _ | apply Drawn0.step)⟩
  · rw [if_neg c2] at H
    have c2b0 : decide (2147483647 < (l0.length : Int)) = false := decide_eq_false c2
    have c2b1 : decide (2147483647 < l0.length) = false := decide_eq_false (by omega)
    clear c2
    have H' := Aside0.mk H
    clear H
    go_enter Tryd.func4, Tryd.ntmps4
    go_wp2
    go_loopg [10] k (fun kq v10 w' => ∃ (x10_1 : Int), v10 = .int .i64 x10_1 ∧ Aside0 (laws_zzFits1.l0 kq l0 (l0.length : Int) x10_1 = some r) ∧ Aside0 (kq ≤ k) ∧ Drawn0 w w')
    case atStart => exact ⟨(0), (by first | rfl | (simp; done) | (simp [*]; done)), H', ⟨Nat.le_refl _⟩, by repeat (first | exact Drawn0.refl _ | apply Drawn0.step)⟩
    case round =>
      clear H'
      try clear c2
      try clear c2b0
      try clear c2b1
      try clear p2
      obtain ⟨x10_1, rfl, HA, HK1, ⟨m1, rfl⟩⟩ := hrel
      cases gk with
      | zero => exact absurd HA.out (by simp [laws_zzFits1.l0])
      | succ k1 =>
        have H := HA.out
        clear HA
        simp only [laws_zzFits1.l0] at H
        by_cases c3 : x10_1 < (l0.length : Int)
        · rw [if_pos c3] at H
          have c3b0 : decide (x10_1 < (l0.length : Int)) = true := decide_eq_true c3
          clear c3
          by_cases c4 : 0 ≤ x10_1
          · rw [if_pos c4] at H
            have c4b0 : decide (0 ≤ x10_1) = true := decide_eq_true c4
            clear c4
            by_cases c5 : x10_1 < (l0.length : Int)
            · rw [if_pos c5] at H
              have c5b0 : decide (x10_1 < (l0.length : Int)) = true := decide_eq_true c5
              clear c5
              by_cases c6 : ((rdOf ByteArray.empty l0 x10_1).size : Int) > 2147483647
              · rw [if_pos c6] at H
                have c6b0 : decide (2147483647 < ((rdOf ByteArray.empty l0 x10_1).size : Int)) = true := decide_eq_true c6
                have c6b1 : decide (2147483647 < (rdOf ByteArray.empty l0 x10_1).size) = true := decide_eq_true (by omega)
                clear c6
                obtain rfl := Option.some.inj H
                have p101 : 0 ≤ (x10_1 : Int) := of_decide_eq_true (by first | (with_reducible assumption) | assumption)
                have q101 : x10_1 < (l0.length : Int) := of_decide_eq_true (by first | (with_reducible assumption) | assumption)
                obtain ⟨ad101, e101, hx101_0⟩ := Kd.at_string HR0.out x10_1 p101 q101
                cases e101
                replace p101 := eq_true p101
                replace q101 := eq_true q101
                go_wp2
                go_ret
                exact ⟨by first | rfl | (simp; done) | (simp [*]; done), by repeat (first | exact Drawn0.refl _ | apply Drawn0.step)⟩
              · rw [if_neg c6] at H
                have c6b0 : decide (2147483647 < ((rdOf ByteArray.empty l0 x10_1).size : Int)) = false := decide_eq_false c6
                have c6b1 : decide (2147483647 < (rdOf ByteArray.empty l0 x10_1).size) = false := decide_eq_false (by omega)
                clear c6
                have H' := Aside0.mk H
                clear H
                have p101 : 0 ≤ (x10_1 : Int) := of_decide_eq_true (by first | (with_reducible assumption) | assumption)
                have q101 : x10_1 < (l0.length : Int) := of_decide_eq_true (by first | (with_reducible assumption) | assumption)
                obtain ⟨ad101, e101, hx101_0⟩ := Kd.at_string HR0.out x10_1 p101 q101
                cases e101
                replace p101 := eq_true p101
                replace q101 := eq_true q101
                go_wp2
                go_roundg k1
                case measure => have := HK1.out; omega
                case rel => exact ⟨(wrap64 (x10_1 + 1)), (by first | rfl | (simp; done) | (simp [*]; done)), H', ⟨by have := HK1.out; omega⟩, by repeat (first | exact Drawn0.refl _ | apply Drawn0.step)⟩
            · rw [if_neg c5] at H
              exact absurd H (by simp)
          · rw [if_neg c4] at H
            exact absurd H (by simp)
        · rw [if_neg c3] at H
          have c3b0 : decide (x10_1 < (l0.length : Int)) = false := decide_eq_false c3
          clear c3
          obtain rfl := Option.some.inj H
          go_wp2
          go_ret
          exact ⟨by first | rfl | (simp; done) | (simp [*]; done), by repeat (first | exact Drawn0.refl _ | apply Drawn0.step)⟩

/-! ### laws_short: function 9 -/
def laws_short.l0 : Nat → List ByteArray → List ByteArray → Int → Int → Option (Bool)
  | 0, _, _, _, _ => none
  | k + 1, x0, x5, x6, x7 => if x7 < x6 then (if 0 ≤ x7 then (if x7 < (x5.length : Int) then (if ((rdOf ByteArray.empty x5 x7).size : Int) > 1500 then (some false) else (laws_short.l0 k x0 x5 x6 (wrap64 (x7 + 1)))) else (none)) else (none)) else (some (decide ((x0.length : Int) ≤ 150)))
def laws_short.f (k : Nat) (l0 : List ByteArray) : Option (Bool) := laws_short.l0 k l0 l0 (l0.length : Int) 0
theorem laws_short.mono_l : ∀ k, (∀ y0 y1 y2 y3, LeO (laws_short.l0 k y0 y1 y2 y3) (laws_short.l0 (k + 1) y0 y1 y2 y3))
  | 0 => fun _ _ _ _ r h => by simp [laws_short.l0] at h
  | k + 1 => by
    have ih0 := laws_short.mono_l k
    · intro y0 y1 y2 y3
      unfold laws_short.l0
      repeat' first
      | (with_reducible exact ih0 _ _ _ _)
      | (with_reducible exact LeO.refl _)
      | (with_reducible exact LeO.none _)
      | (with_reducible refine LeO.ite ?_ ?_)
      | (with_reducible refine LeO.bind ?_ (fun _ => ?_))
      | exact ih0 _ _ _ _
      | exact LeO.none _
      | refine LeO.ite ?_ ?_
      | refine LeO.bind ?_ (fun _ => ?_)
theorem laws_short.mono : ∀ a0 k, LeO (laws_short.f k a0) (laws_short.f (k + 1) a0) := by
  intro a0 k
  have ih0 := laws_short.mono_l k
  unfold laws_short.f
  repeat' first
      | (with_reducible exact ih0 _ _ _ _)
      | (with_reducible exact LeO.refl _)
      | (with_reducible exact LeO.none _)
      | (with_reducible refine LeO.ite ?_ ?_)
      | (with_reducible refine LeO.bind ?_ (fun _ => ?_))
      | exact ih0 _ _ _ _
      | exact LeO.none _
      | refine LeO.ite ?_ ?_
      | refine LeO.bind ?_ (fun _ => ?_)
set_option maxHeartbeats 8000000 in
set_option maxRecDepth 100000 in
theorem laws_short.calls (k : Nat) (A0 : Option Addr) (c0 : Nat) (l0 : List ByteArray) (r : Bool) (w : World) (hr0 : Kd.C Kd.string w A0 l0.length l0) (hc0 : l0.length ≤ c0) (h : laws_short.f k l0 = some r) :
    Calls Tryd.prog 9 #[.slice A0 l0.length c0] w fun e w' => e = .returned (.bool r) ∧ Drawn0 w w' := by
  have HR0 := Aside0.mk hr0
  have HC0 := Aside0.mk hc0
  clear hr0 hc0
  have H : (laws_short.l0 k l0 l0 (l0.length : Int) 0) = some r := h
  clear h
  have H' := Aside0.mk H
  clear H
  go_enter Tryd.func9, Tryd.ntmps9
  go_wp2
  go_loopg [7] k (fun kq v7 w' => ∃ (x7_1 : Int), v7 = .int .i64 x7_1 ∧ Aside0 (laws_short.l0 kq l0 l0 (l0.length : Int) x7_1 = some r) ∧ Aside0 (kq ≤ k) ∧ Drawn0 w w')
  case atStart => exact ⟨(0), (by first | rfl | (simp; done) | (simp [*]; done)), H', ⟨Nat.le_refl _⟩, by repeat (first | exact Drawn0.refl _ | apply Drawn0.step)⟩
  case round =>
    clear H'
    obtain ⟨x7_1, rfl, HA, HK1, ⟨m1, rfl⟩⟩ := hrel
    cases gk with
    | zero => exact absurd HA.out (by simp [laws_short.l0])
    | succ k1 =>
      have H := HA.out
      clear HA
      simp only [laws_short.l0] at H
      by_cases c2 : x7_1 < (l0.length : Int)
      · rw [if_pos c2] at H
        have c2b0 : decide (x7_1 < (l0.length : Int)) = true := decide_eq_true c2
        clear c2
        by_cases c3 : 0 ≤ x7_1
        · rw [if_pos c3] at H
          have c3b0 : decide (0 ≤ x7_1) = true := decide_eq_true c3
          clear c3
          by_cases c4 : x7_1 < (l0.length : Int)
          · rw [if_pos c4] at H
            have c4b0 : decide (x7_1 < (l0.length : Int)) = true := decide_eq_true c4
            clear c4
            by_cases c5 : ((rdOf ByteArray.empty l0 x7_1).size : Int) > 1500
            · rw [if_pos c5] at H
              have c5b0 : decide (1500 < ((rdOf ByteArray.empty l0 x7_1).size : Int)) = true := decide_eq_true c5
              have c5b1 : decide (1500 < (rdOf ByteArray.empty l0 x7_1).size) = true := decide_eq_true (by omega)
              clear c5
              obtain rfl := Option.some.inj H
              have p102 : 0 ≤ (x7_1 : Int) := of_decide_eq_true (by first | (with_reducible assumption) | assumption)
              have q102 : x7_1 < (l0.length : Int) := of_decide_eq_true (by first | (with_reducible assumption) | assumption)
              obtain ⟨ad102, e102, hx102_0⟩ := Kd.at_string HR0.out x7_1 p102 q102
              cases e102
              replace p102 := eq_true p102
              replace q102 := eq_true q102
              go_wp2
              go_ret
              exact ⟨by first | rfl | (simp; done) | (simp [*]; done), by repeat (first | exact Drawn0.refl _ | apply Drawn0.step)⟩
            · rw [if_neg c5] at H
              have c5b0 : decide (1500 < ((rdOf ByteArray.empty l0 x7_1).size : Int)) = false := decide_eq_false c5
              have c5b1 : decide (1500 < (rdOf ByteArray.empty l0 x7_1).size) = false := decide_eq_false (by omega)
              clear c5
              have H' := Aside0.mk H
              clear H
              have p102 : 0 ≤ (x7_1 : Int) := of_decide_eq_true (by first | (with_reducible assumption) | assumption)
              have q102 : x7_1 < (l0.length : Int) := of_decide_eq_true (by first | (with_reducible assumption) | assumption)
              obtain ⟨ad102, e102, hx102_0⟩ := Kd.at_string HR0.out x7_1 p102 q102
              cases e102
              replace p102 := eq_true p102
              replace q102 := eq_true q102
              go_wp2
              go_roundg k1
              case measure => have := HK1.out; omega
              case rel => exact ⟨(wrap64 (x7_1 + 1)), (by first | rfl | (simp; done) | (simp [*]; done)), H', ⟨by have := HK1.out; omega⟩, by repeat (first | exact Drawn0.refl _ | apply Drawn0.step)⟩
          · rw [if_neg c4] at H
            exact absurd H (by simp)
        · rw [if_neg c3] at H
          exact absurd H (by simp)
      · rw [if_neg c2] at H
        have c2b0 : decide (x7_1 < (l0.length : Int)) = false := decide_eq_false c2
        clear c2
        obtain rfl := Option.some.inj H
        go_wp2
        go_ret
        exact ⟨by first | rfl | (simp; done) | (simp [*]; done), by repeat (first | exact Drawn0.refl _ | apply Drawn0.step)⟩

/-! ### spec_isDigit: function 18 -/
def spec_isDigit.f (a0 : Int) : Option (Bool) := if a0 ≥ 48 then (some (decide (a0 ≤ 57))) else (some false)
set_option maxHeartbeats 8000000 in
set_option maxRecDepth 100000 in
theorem spec_isDigit.calls (a0 : Int) (r : Bool) (w : World) (h : spec_isDigit.f a0 = some r) :
    Calls Tryd.prog 18 #[.int .u8 a0] w fun e w' => e = .returned (.bool r) ∧ Drawn0 w w' := by
  have H : (if a0 ≥ 48 then (some (decide (a0 ≤ 57))) else (some false)) = some r := h
  clear h
  by_cases c2 : a0 ≥ 48
  · rw [if_pos c2] at H
    have c2b0 : decide (48 ≤ a0) = true := decide_eq_true c2
    clear c2
    obtain rfl := Option.some.inj H
    go_enter Tryd.func18, Tryd.ntmps18
    go_wp2
    go_ret
    exact ⟨by first | rfl | (simp; done) | (simp [*]; done), by repeat (first | exact Drawn0.refl _ | apply Drawn0.step)⟩
  · rw [if_neg c2] at H
    have c2b0 : decide (48 ≤ a0) = false := decide_eq_false c2
    clear c2
    obtain rfl := Option.some.inj H
    go_enter Tryd.func18, Tryd.ntmps18
    go_wp2
    go_ret
    exact ⟨by first | rfl | (simp; done) | (simp [*]; done), by repeat (first | exact Drawn0.refl _ | apply Drawn0.step)⟩

/-! ### spec_allDigits: function 14 -/
def spec_allDigits.l0 : Nat → ByteArray → Int → Option (Bool)
  | 0, _, _ => none
  | k + 1, x0, x3 => if x3 < (x0.size : Int) then (if 0 ≤ x3 then ((spec_isDigit.f (bt x0 x3)).bind fun t103 => (if t103 = true then (spec_allDigits.l0 k x0 (wrap64 (x3 + 1))) else (some false))) else (none)) else (some (decide ((x0.size : Int) > 0)))
def spec_allDigits.f (k : Nat) (a0 : ByteArray) : Option (Bool) := spec_allDigits.l0 k a0 0
theorem spec_allDigits.mono_l : ∀ k, (∀ y0 y1, LeO (spec_allDigits.l0 k y0 y1) (spec_allDigits.l0 (k + 1) y0 y1))
  | 0 => fun _ _ r h => by simp [spec_allDigits.l0] at h
  | k + 1 => by
    have ih0 := spec_allDigits.mono_l k
    · intro y0 y1
      unfold spec_allDigits.l0
      repeat' first
      | (with_reducible exact ih0 _ _)
      | (with_reducible exact LeO.refl _)
      | (with_reducible exact LeO.none _)
      | (with_reducible refine LeO.ite ?_ ?_)
      | (with_reducible refine LeO.bind ?_ (fun _ => ?_))
      | exact ih0 _ _
      | exact LeO.none _
      | refine LeO.ite ?_ ?_
      | refine LeO.bind ?_ (fun _ => ?_)
theorem spec_allDigits.mono : ∀ a0 k, LeO (spec_allDigits.f k a0) (spec_allDigits.f (k + 1) a0) := by
  intro a0 k
  have ih0 := spec_allDigits.mono_l k
  unfold spec_allDigits.f
  repeat' first
      | (with_reducible exact ih0 _ _)
      | (with_reducible exact LeO.refl _)
      | (with_reducible exact LeO.none _)
      | (with_reducible refine LeO.ite ?_ ?_)
      | (with_reducible refine LeO.bind ?_ (fun _ => ?_))
      | exact ih0 _ _
      | exact LeO.none _
      | refine LeO.ite ?_ ?_
      | refine LeO.bind ?_ (fun _ => ?_)
set_option maxHeartbeats 8000000 in
set_option maxRecDepth 100000 in
theorem spec_allDigits.calls (k : Nat) (a0 : ByteArray) (r : Bool) (w : World) (h : spec_allDigits.f k a0 = some r) :
    Calls Tryd.prog 14 #[.string a0] w fun e w' => e = .returned (.bool r) ∧ Drawn0 w w' := by
  have H : (spec_allDigits.l0 k a0 0) = some r := h
  clear h
  have H' := Aside0.mk H
  clear H
  go_enter Tryd.func14, Tryd.ntmps14
  go_wp2
  go_loopg [3] k (fun kq v3 w' => ∃ (x3_1 : Int), v3 = .int .i64 x3_1 ∧ Aside0 (spec_allDigits.l0 kq a0 x3_1 = some r) ∧ Aside0 (kq ≤ k) ∧ Drawn0 w w')
  case atStart => exact ⟨(0), (by first | rfl | (simp; done) | (simp [*]; done)), H', ⟨Nat.le_refl _⟩, by repeat (first | exact Drawn0.refl _ | apply Drawn0.step)⟩
  case round =>
    clear H'
    try clear c1
    obtain ⟨x3_1, rfl, HA, HK1, ⟨m1, rfl⟩⟩ := hrel
    cases gk with
    | zero => exact absurd HA.out (by simp [spec_allDigits.l0])
    | succ k1 =>
      have H := HA.out
      clear HA
      simp only [spec_allDigits.l0] at H
      by_cases c2 : x3_1 < (a0.size : Int)
      · rw [if_pos c2] at H
        have c2b0 : decide (x3_1 < (a0.size : Int)) = true := decide_eq_true c2
        clear c2
        by_cases c3 : 0 ≤ x3_1
        · rw [if_pos c3] at H
          have c3b0 : decide (0 ≤ x3_1) = true := decide_eq_true c3
          clear c3
          replace H := Option.bind_eq_some_iff.mp H
          obtain ⟨t103, A50, H⟩ := H
          replace H : (if t103 = true then (spec_allDigits.l0 k1 a0 (wrap64 (x3_1 + 1))) else (some false)) = some r := H
          have A5 := Aside0.mk A50
          clear A50
          by_cases c6 : t103 = true
          · subst c6
            have H1 : (spec_allDigits.l0 k1 a0 (wrap64 (x3_1 + 1))) = some r := by rw [if_pos rfl] at H; exact H
            clear H
            have H := H1
            clear H1
            have H' := Aside0.mk H
            clear H
            have p4 : 0 ≤ (x3_1 : Int) := of_decide_eq_true (by first | (with_reducible assumption) | assumption)
            have q4 : x3_1 < (a0.size : Int) := of_decide_eq_true (by first | (with_reducible assumption) | assumption)
            have hx4 := bt_at a0 x3_1
            replace p4 := eq_true p4
            replace q4 := eq_true q4
            go_wp2_with (first | ((with_reducible refine gate_callee (f := 18) rfl ?_); refine goesL_ (some 13) rfl rfl Tryd.func18 (by kernel_rfl) rfl #[.int .u8 (bt a0 x3_1)] rfl (by (try simp only [List.map_toArray, List.map_cons, List.map_nil]); first | done | rfl | (simp only [List.length_drop, List.length_take]; rfl)) ?_; (with_reducible refine (spec_isDigit.calls (bt a0 x3_1) true _ A5.out).mono ?_); rintro e w' ⟨rfl, ⟨nd, rfl⟩⟩; refine ⟨_, rfl, ?_⟩))
            go_roundg k1
            case measure => have := HK1.out; omega
            case rel => exact ⟨(wrap64 (x3_1 + 1)), (by first | rfl | (simp; done) | (simp [*]; done)), H', ⟨by have := HK1.out; omega⟩, by repeat (first | exact Drawn0.refl _ | apply Drawn0.step)⟩
          · replace c6 := Bool.eq_false_iff.mpr c6
            subst c6
            have H1 : (some false) = some r := by rw [if_neg (show ¬ (false = true) by decide)] at H; exact H
            clear H
            have H := H1
            clear H1
            obtain rfl := Option.some.inj H
            have p4 : 0 ≤ (x3_1 : Int) := of_decide_eq_true (by first | (with_reducible assumption) | assumption)
            have q4 : x3_1 < (a0.size : Int) := of_decide_eq_true (by first | (with_reducible assumption) | assumption)
            have hx4 := bt_at a0 x3_1
            replace p4 := eq_true p4
            replace q4 := eq_true q4
            go_wp2_with (first | ((with_reducible refine gate_callee (f := 18) rfl ?_); refine goesL_ (some 13) rfl rfl Tryd.func18 (by kernel_rfl) rfl #[.int .u8 (bt a0 x3_1)] rfl (by (try simp only [List.map_toArray, List.map_cons, List.map_nil]); first | done | rfl | (simp only [List.length_drop, List.length_take]; rfl)) ?_; (with_reducible refine (spec_isDigit.calls (bt a0 x3_1) false _ A5.out).mono ?_); rintro e w' ⟨rfl, ⟨nd, rfl⟩⟩; refine ⟨_, rfl, ?_⟩))
            go_ret
            exact ⟨by first | rfl | (simp; done) | (simp [*]; done), by repeat (first | exact Drawn0.refl _ | apply Drawn0.step)⟩
        · rw [if_neg c3] at H
          exact absurd H (by simp)
      · rw [if_neg c2] at H
        have c2b0 : decide (x3_1 < (a0.size : Int)) = false := decide_eq_false c2
        clear c2
        obtain rfl := Option.some.inj H
        go_wp2
        go_ret
        exact ⟨by first | rfl | (simp; done) | (simp [*]; done), by repeat (first | exact Drawn0.refl _ | apply Drawn0.step)⟩

/-! ### spec_PackagistKnown: function 10 -/
def spec_PackagistKnown.l0 : Nat → List ByteArray → Int → Option (Bool)
  | 0, _, _ => none
  | k + 1, x0, x3 => if x3 < (x0.length : Int) then (if 0 ≤ x3 then ((spec_allDigits.f k (rdOf ByteArray.empty x0 x3)).bind fun t105 => (if t105 = true then (if ((rdOf ByteArray.empty x0 x3).size : Int) > 18 then (some false) else (if ((rdOf ByteArray.empty x0 x3).size : Int) > 1 then (if 0 < ((rdOf ByteArray.empty x0 x3).size : Int) then (if (bt (rdOf ByteArray.empty x0 x3) 0) = 45 then (if 1 ≤ ((rdOf ByteArray.empty x0 x3).size : Int) then ((spec_allDigits.f k ((rdOf ByteArray.empty x0 x3).extract 1 (rdOf ByteArray.empty x0 x3).size)).bind fun t106 => (if t106 = true then (some false) else (spec_PackagistKnown.l0 k x0 (wrap64 (x3 + 1))))) else (none)) else (if (bt (rdOf ByteArray.empty x0 x3) 0) = 43 then (if 1 ≤ ((rdOf ByteArray.empty x0 x3).size : Int) then ((spec_allDigits.f k ((rdOf ByteArray.empty x0 x3).extract 1 (rdOf ByteArray.empty x0 x3).size)).bind fun t107 => (if t107 = true then (some false) else (spec_PackagistKnown.l0 k x0 (wrap64 (x3 + 1))))) else (none)) else (spec_PackagistKnown.l0 k x0 (wrap64 (x3 + 1))))) else (none)) else (spec_PackagistKnown.l0 k x0 (wrap64 (x3 + 1))))) else (if ((rdOf ByteArray.empty x0 x3).size : Int) > 1 then (if 0 < ((rdOf ByteArray.empty x0 x3).size : Int) then (if (bt (rdOf ByteArray.empty x0 x3) 0) = 45 then (if 1 ≤ ((rdOf ByteArray.empty x0 x3).size : Int) then ((spec_allDigits.f k ((rdOf ByteArray.empty x0 x3).extract 1 (rdOf ByteArray.empty x0 x3).size)).bind fun t108 => (if t108 = true then (some false) else (spec_PackagistKnown.l0 k x0 (wrap64 (x3 + 1))))) else (none)) else (if (bt (rdOf ByteArray.empty x0 x3) 0) = 43 then (if 1 ≤ ((rdOf ByteArray.empty x0 x3).size : Int) then ((spec_allDigits.f k ((rdOf ByteArray.empty x0 x3).extract 1 (rdOf ByteArray.empty x0 x3).size)).bind fun t109 => (if t109 = true then (some false) else (spec_PackagistKnown.l0 k x0 (wrap64 (x3 + 1))))) else (none)) else (spec_PackagistKnown.l0 k x0 (wrap64 (x3 + 1))))) else (none)) else (spec_PackagistKnown.l0 k x0 (wrap64 (x3 + 1)))))) else (none)) else (some true)
def spec_PackagistKnown.f (k : Nat) (l0 : List ByteArray) : Option (Bool) := spec_PackagistKnown.l0 k l0 0
theorem spec_PackagistKnown.mono_l : ∀ k, (∀ y0 y1, LeO (spec_PackagistKnown.l0 k y0 y1) (spec_PackagistKnown.l0 (k + 1) y0 y1))
  | 0 => fun _ _ r h => by simp [spec_PackagistKnown.l0] at h
  | k + 1 => by
    have ih0 := spec_PackagistKnown.mono_l k
    · intro y0 y1
      unfold spec_PackagistKnown.l0
      repeat' first
      | (with_reducible exact ih0 _ _)
      | (with_reducible exact spec_allDigits.mono _ _)
      | (with_reducible exact LeO.refl _)
      | (with_reducible exact LeO.none _)
      | (with_reducible refine LeO.ite ?_ ?_)
      | (with_reducible refine LeO.bind ?_ (fun _ => ?_))
      | exact ih0 _ _
      | exact spec_allDigits.mono _ _
      | exact LeO.none _
      | refine LeO.ite ?_ ?_
      | refine LeO.bind ?_ (fun _ => ?_)
theorem spec_PackagistKnown.mono : ∀ a0 k, LeO (spec_PackagistKnown.f k a0) (spec_PackagistKnown.f (k + 1) a0) := by
  intro a0 k
  have ih0 := spec_PackagistKnown.mono_l k
  unfold spec_PackagistKnown.f
  repeat' first
      | (with_reducible exact ih0 _ _)
      | (with_reducible exact spec_allDigits.mono _ _)
      | (with_reducible exact LeO.refl _)
      | (with_reducible exact LeO.none _)
      | (with_reducible refine LeO.ite ?_ ?_)
      | (with_reducible refine LeO.bind ?_ (fun _ => ?_))
      | exact ih0 _ _
      | exact spec_allDigits.mono _ _
      | exact LeO.none _
      | refine LeO.ite ?_ ?_
      | refine LeO.bind ?_ (fun _ => ?_)
set_option maxHeartbeats 8000000 in
set_option maxRecDepth 100000 in
theorem spec_PackagistKnown.calls (k : Nat) (A0 : Option Addr) (c0 : Nat) (l0 : List ByteArray) (r : Bool) (w : World) (hr0 : Kd.C Kd.string w A0 l0.length l0) (hc0 : l0.length ≤ c0) (h : spec_PackagistKnown.f k l0 = some r) :
    Calls Tryd.prog 10 #[.slice A0 l0.length c0] w fun e w' => e = .returned (.bool r) ∧ Drawn0 w w' := by
  have HR0 := Aside0.mk hr0
  have HC0 := Aside0.mk hc0
  clear hr0 hc0
  have H : (spec_PackagistKnown.l0 k l0 0) = some r := h
  clear h
  have H' := Aside0.mk H
  clear H
  go_enter Tryd.func10, Tryd.ntmps10
  go_wp2
  go_loopg [3] k (fun kq v3 w' => ∃ (x3_1 : Int), v3 = .int .i64 x3_1 ∧ Aside0 (spec_PackagistKnown.l0 kq l0 x3_1 = some r) ∧ Aside0 (kq ≤ k) ∧ Drawn0 w w')
  case atStart => exact ⟨(0), (by first | rfl | (simp; done) | (simp [*]; done)), H', ⟨Nat.le_refl _⟩, by repeat (first | exact Drawn0.refl _ | apply Drawn0.step)⟩
  case round =>
    clear H'
    try clear c1
    obtain ⟨x3_1, rfl, HA, HK1, ⟨m1, rfl⟩⟩ := hrel
    cases gk with
    | zero => exact absurd HA.out (by simp [spec_PackagistKnown.l0])
    | succ k1 =>
      have H := HA.out
      clear HA
      simp only [spec_PackagistKnown.l0] at H
      by_cases c2 : x3_1 < (l0.length : Int)
      · rw [if_pos c2] at H
        have c2b0 : decide (x3_1 < (l0.length : Int)) = true := decide_eq_true c2
        clear c2
        by_cases c3 : 0 ≤ x3_1
        · rw [if_pos c3] at H
          have c3b0 : decide (0 ≤ x3_1) = true := decide_eq_true c3
          clear c3
          replace H := Option.bind_eq_some_iff.mp H
          obtain ⟨t105, A40, H⟩ := H
          replace H : (if t105 = true then (if ((rdOf ByteArray.empty l0 x3_1).size : Int) > 18 then (some false) else (if ((rdOf ByteArray.empty l0 x3_1).size : Int) > 1 then (if 0 < ((rdOf ByteArray.empty l0 x3_1).size : Int) then (if (bt (rdOf ByteArray.empty l0 x3_1) 0) = 45 then (if 1 ≤ ((rdOf ByteArray.empty l0 x3_1).size : Int) then ((spec_allDigits.f k1 ((rdOf ByteArray.empty l0 x3_1).extract 1 (rdOf ByteArray.empty l0 x3_1).size)).bind fun t106 => (if t106 = true then (some false) else (spec_PackagistKnown.l0 k1 l0 (wrap64 (x3_1 + 1))))) else (none)) else (if (bt (rdOf ByteArray.empty l0 x3_1) 0) = 43 then (if 1 ≤ ((rdOf ByteArray.empty l0 x3_1).size : Int) then ((spec_allDigits.f k1 ((rdOf ByteArray.empty l0 x3_1).extract 1 (rdOf ByteArray.empty l0 x3_1).size)).bind fun t107 => (if t107 = true then (some false) else (spec_PackagistKnown.l0 k1 l0 (wrap64 (x3_1 + 1))))) else (none)) else (spec_PackagistKnown.l0 k1 l0 (wrap64 (x3_1 + 1))))) else (none)) else (spec_PackagistKnown.l0 k1 l0 (wrap64 (x3_1 + 1))))) else (if ((rdOf ByteArray.empty l0 x3_1).size : Int) > 1 then (if 0 < ((rdOf ByteArray.empty l0 x3_1).size : Int) then (if (bt (rdOf ByteArray.empty l0 x3_1) 0) = 45 then (if 1 ≤ ((rdOf ByteArray.empty l0 x3_1).size : Int) then ((spec_allDigits.f k1 ((rdOf ByteArray.empty l0 x3_1).extract 1 (rdOf ByteArray.empty l0 x3_1).size)).bind fun t108 => (if t108 = true then (some false) else (spec_PackagistKnown.l0 k1 l0 (wrap64 (x3_1 + 1))))) else (none)) else (if (bt (rdOf ByteArray.empty l0 x3_1) 0) = 43 then (if 1 ≤ ((rdOf ByteArray.empty l0 x3_1).size : Int) then ((spec_allDigits.f k1 ((rdOf ByteArray.empty l0 x3_1).extract 1 (rdOf ByteArray.empty l0 x3_1).size)).bind fun t109 => (if t109 = true then (some false) else (spec_PackagistKnown.l0 k1 l0 (wrap64 (x3_1 + 1))))) else (none)) else (spec_PackagistKnown.l0 k1 l0 (wrap64 (x3_1 + 1))))) else (none)) else (spec_PackagistKnown.l0 k1 l0 (wrap64 (x3_1 + 1))))) = some r := H
          have A4 := Aside0.mk A40
          clear A40
          by_cases c5 : t105 = true
          · subst c5
            have H1 : (if ((rdOf ByteArray.empty l0 x3_1).size : Int) > 18 then (some false) else (if ((rdOf ByteArray.empty l0 x3_1).size : Int) > 1 then (if 0 < ((rdOf ByteArray.empty l0 x3_1).size : Int) then (if (bt (rdOf ByteArray.empty l0 x3_1) 0) = 45 then (if 1 ≤ ((rdOf ByteArray.empty l0 x3_1).size : Int) then ((spec_allDigits.f k1 ((rdOf ByteArray.empty l0 x3_1).extract 1 (rdOf ByteArray.empty l0 x3_1).size)).bind fun t106 => (if t106 = true then (some false) else (spec_PackagistKnown.l0 k1 l0 (wrap64 (x3_1 + 1))))) else (none)) else (if (bt (rdOf ByteArray.empty l0 x3_1) 0) = 43 then (if 1 ≤ ((rdOf ByteArray.empty l0 x3_1).size : Int) then ((spec_allDigits.f k1 ((rdOf ByteArray.empty l0 x3_1).extract 1 (rdOf ByteArray.empty l0 x3_1).size)).bind fun t107 => (if t107 = true then (some false) else (spec_PackagistKnown.l0 k1 l0 (wrap64 (x3_1 + 1))))) else (none)) else (spec_PackagistKnown.l0 k1 l0 (wrap64 (x3_1 + 1))))) else (none)) else (spec_PackagistKnown.l0 k1 l0 (wrap64 (x3_1 + 1))))) = some r := by rw [if_pos rfl] at H; exact H
            clear H
            have H := H1
            clear H1
            by_cases c6 : ((rdOf ByteArray.empty l0 x3_1).size : Int) > 18
            · rw [if_pos c6] at H
              have c6b0 : decide (18 < ((rdOf ByteArray.empty l0 x3_1).size : Int)) = true := decide_eq_true c6
              have c6b1 : decide (18 < (rdOf ByteArray.empty l0 x3_1).size) = true := decide_eq_true (by omega)
              clear c6
              obtain rfl := Option.some.inj H
              have p104 : 0 ≤ (x3_1 : Int) := of_decide_eq_true (by first | (with_reducible assumption) | assumption)
              have q104 : x3_1 < (l0.length : Int) := of_decide_eq_true (by first | (with_reducible assumption) | assumption)
              obtain ⟨ad104, e104, hx104_0⟩ := Kd.at_string HR0.out x3_1 p104 q104
              cases e104
              replace p104 := eq_true p104
              replace q104 := eq_true q104
              go_wp2_with (first | ((with_reducible refine gate_callee (f := 14) rfl ?_); refine goesL_ (some 16) rfl rfl Tryd.func14 (by kernel_rfl) rfl #[.string (rdOf ByteArray.empty l0 x3_1)] rfl (by (try simp only [List.map_toArray, List.map_cons, List.map_nil]); first | done | rfl | (simp only [List.length_drop, List.length_take]; rfl)) ?_; (with_reducible refine (spec_allDigits.calls k1 (rdOf ByteArray.empty l0 x3_1) true _ A4.out).mono ?_); rintro e w' ⟨rfl, ⟨nd, rfl⟩⟩; refine ⟨_, rfl, ?_⟩))
              go_ret
              exact ⟨by first | rfl | (simp; done) | (simp [*]; done), by repeat (first | exact Drawn0.refl _ | apply Drawn0.step)⟩
            · rw [if_neg c6] at H
              have c6b0 : decide (18 < ((rdOf ByteArray.empty l0 x3_1).size : Int)) = false := decide_eq_false c6
              have c6b1 : decide (18 < (rdOf ByteArray.empty l0 x3_1).size) = false := decide_eq_false (by omega)
              clear c6
              by_cases c7 : ((rdOf ByteArray.empty l0 x3_1).size : Int) > 1
              · rw [if_pos c7] at H
                have c7b0 : decide (1 < ((rdOf ByteArray.empty l0 x3_1).size : Int)) = true := decide_eq_true c7
                have c7b1 : decide (1 < (rdOf ByteArray.empty l0 x3_1).size) = true := decide_eq_true (by omega)
                clear c7
                by_cases c8 : 0 < ((rdOf ByteArray.empty l0 x3_1).size : Int)
                · rw [if_pos c8] at H
                  have c8b0 : decide (0 < ((rdOf ByteArray.empty l0 x3_1).size : Int)) = true := decide_eq_true c8
                  have c8b1 : decide (0 < (rdOf ByteArray.empty l0 x3_1).size) = true := decide_eq_true (by omega)
                  clear c8
                  by_cases c10 : (bt (rdOf ByteArray.empty l0 x3_1) 0) = 45
                  · rw [if_pos c10] at H
                    have c10b0 : ((bt (rdOf ByteArray.empty l0 x3_1) 0) == 45) = true := beq_iff_eq.mpr c10
                    have c10b1 : ((bt (rdOf ByteArray.empty l0 x3_1) 0) != 45) = false := bne_eq_false_iff_eq.mpr c10
                    clear c10
                    by_cases c11 : 1 ≤ ((rdOf ByteArray.empty l0 x3_1).size : Int)
                    · rw [if_pos c11] at H
                      have c11b0 := eq_true c11
                      have c11b1 : decide (1 ≤ ((rdOf ByteArray.empty l0 x3_1).size : Int)) = true := decide_eq_true c11
                      clear c11
                      replace H := Option.bind_eq_some_iff.mp H
                      obtain ⟨t106, A120, H⟩ := H
                      replace H : (if t106 = true then (some false) else (spec_PackagistKnown.l0 k1 l0 (wrap64 (x3_1 + 1)))) = some r := H
                      have A12 := Aside0.mk A120
                      clear A120
                      by_cases c13 : t106 = true
                      · subst c13
                        have H1 : (some false) = some r := by rw [if_pos rfl] at H; exact H
                        clear H
                        have H := H1
                        clear H1
                        obtain rfl := Option.some.inj H
                        have p104 : 0 ≤ (x3_1 : Int) := of_decide_eq_true (by first | (with_reducible assumption) | assumption)
                        have q104 : x3_1 < (l0.length : Int) := of_decide_eq_true (by first | (with_reducible assumption) | assumption)
                        obtain ⟨ad104, e104, hx104_0⟩ := Kd.at_string HR0.out x3_1 p104 q104
                        cases e104
                        replace p104 := eq_true p104
                        replace q104 := eq_true q104
                        go_wp2_with (first | ((with_reducible refine gate_callee (f := 14) rfl ?_); refine goesL_ (some 16) rfl rfl Tryd.func14 (by kernel_rfl) rfl #[.string (rdOf ByteArray.empty l0 x3_1)] rfl (by (try simp only [List.map_toArray, List.map_cons, List.map_nil]); first | done | rfl | (simp only [List.length_drop, List.length_take]; rfl)) ?_; (with_reducible refine (spec_allDigits.calls k1 (rdOf ByteArray.empty l0 x3_1) true _ A4.out).mono ?_); rintro e w' ⟨rfl, ⟨nd, rfl⟩⟩; refine ⟨_, rfl, ?_⟩; have p9 : 0 ≤ (0 : Int) := (by omega); have q9 : 0 < (rdOf ByteArray.empty l0 x3_1).size := (by have : (0 : Int) < ((rdOf ByteArray.empty l0 x3_1).size : Int) := of_decide_eq_true (by first | (with_reducible assumption) | assumption); omega); have hx9 : ∀ h : 0 < (rdOf ByteArray.empty l0 x3_1).size, (((rdOf ByteArray.empty l0 x3_1)[0]'h).toNat : Int) = bt (rdOf ByteArray.empty l0 x3_1) 0 := bt_at (rdOf ByteArray.empty l0 x3_1) 0; clear p9; have qi9 : (0 < ((rdOf ByteArray.empty l0 x3_1).size : Int)) = True := eq_true (of_decide_eq_true (by first | (with_reducible assumption) | assumption)); replace q9 := eq_true q9) | (go_at_call 14; (with_reducible refine (spec_allDigits.calls k1 ((rdOf ByteArray.empty l0 x3_1).extract 1 (rdOf ByteArray.empty l0 x3_1).size) true _ A12.out).mono ?_); rintro e w' ⟨rfl, ⟨nd, rfl⟩⟩))
                        go_ret
                        exact ⟨by first | rfl | (simp; done) | (simp [*]; done), by repeat (first | exact Drawn0.refl _ | apply Drawn0.step)⟩
                      · replace c13 := Bool.eq_false_iff.mpr c13
                        subst c13
                        have H1 : (spec_PackagistKnown.l0 k1 l0 (wrap64 (x3_1 + 1))) = some r := by rw [if_neg (show ¬ (false = true) by decide)] at H; exact H
                        clear H
                        have H := H1
                        clear H1
                        have H' := Aside0.mk H
                        clear H
                        have p104 : 0 ≤ (x3_1 : Int) := of_decide_eq_true (by first | (with_reducible assumption) | assumption)
                        have q104 : x3_1 < (l0.length : Int) := of_decide_eq_true (by first | (with_reducible assumption) | assumption)
                        obtain ⟨ad104, e104, hx104_0⟩ := Kd.at_string HR0.out x3_1 p104 q104
                        cases e104
                        replace p104 := eq_true p104
                        replace q104 := eq_true q104
                        go_wp2_with (first | ((with_reducible refine gate_callee (f := 14) rfl ?_); refine goesL_ (some 16) rfl rfl Tryd.func14 (by kernel_rfl) rfl #[.string (rdOf ByteArray.empty l0 x3_1)] rfl (by (try simp only [List.map_toArray, List.map_cons, List.map_nil]); first | done | rfl | (simp only [List.length_drop, List.length_take]; rfl)) ?_; (with_reducible refine (spec_allDigits.calls k1 (rdOf ByteArray.empty l0 x3_1) true _ A4.out).mono ?_); rintro e w' ⟨rfl, ⟨nd, rfl⟩⟩; refine ⟨_, rfl, ?_⟩; have p9 : 0 ≤ (0 : Int) := (by omega); have q9 : 0 < (rdOf ByteArray.empty l0 x3_1).size := (by have : (0 : Int) < ((rdOf ByteArray.empty l0 x3_1).size : Int) := of_decide_eq_true (by first | (with_reducible assumption) | assumption); omega); have hx9 : ∀ h : 0 < (rdOf ByteArray.empty l0 x3_1).size, (((rdOf ByteArray.empty l0 x3_1)[0]'h).toNat : Int) = bt (rdOf ByteArray.empty l0 x3_1) 0 := bt_at (rdOf ByteArray.empty l0 x3_1) 0; clear p9; have qi9 : (0 < ((rdOf ByteArray.empty l0 x3_1).size : Int)) = True := eq_true (of_decide_eq_true (by first | (with_reducible assumption) | assumption)); replace q9 := eq_true q9) | (go_at_call 14; (with_reducible refine (spec_allDigits.calls k1 ((rdOf ByteArray.empty l0 x3_1).extract 1 (rdOf ByteArray.empty l0 x3_1).size) false _ A12.out).mono ?_); rintro e w' ⟨rfl, ⟨nd, rfl⟩⟩))
                        go_roundg k1
                        case measure => have := HK1.out; omega
                        case rel => exact ⟨(wrap64 (x3_1 + 1)), (by first | rfl | (simp; done) | (simp [*]; done)), H', ⟨by have := HK1.out; omega⟩, by repeat (first | exact Drawn0.refl _ | apply Drawn0.step)⟩
                    · rw [if_neg c11] at H
                      exact absurd H (by simp)
                  · rw [if_neg c10] at H
                    have c10b0 : ((bt (rdOf ByteArray.empty l0 x3_1) 0) == 45) = false := beq_eq_false_iff_ne.mpr c10
                    have c10b1 : ((bt (rdOf ByteArray.empty l0 x3_1) 0) != 45) = true := bne_iff_ne.mpr c10
                    by_cases c15 : (bt (rdOf ByteArray.empty l0 x3_1) 0) = 43
                    · rw [if_pos c15] at H
                      have c15b0 : ((bt (rdOf ByteArray.empty l0 x3_1) 0) == 43) = true := beq_iff_eq.mpr c15
                      have c15b1 : ((bt (rdOf ByteArray.empty l0 x3_1) 0) != 43) = false := bne_eq_false_iff_eq.mpr c15
                      clear c15
                      by_cases c16 : 1 ≤ ((rdOf ByteArray.empty l0 x3_1).size : Int)
                      · rw [if_pos c16] at H
                        have c16b0 := eq_true c16
                        have c16b1 : decide (1 ≤ ((rdOf ByteArray.empty l0 x3_1).size : Int)) = true := decide_eq_true c16
                        clear c16
                        replace H := Option.bind_eq_some_iff.mp H
                        obtain ⟨t107, A170, H⟩ := H
                        replace H : (if t107 = true then (some false) else (spec_PackagistKnown.l0 k1 l0 (wrap64 (x3_1 + 1)))) = some r := H
                        have A17 := Aside0.mk A170
                        clear A170
                        by_cases c18 : t107 = true
                        · subst c18
                          have H1 : (some false) = some r := by rw [if_pos rfl] at H; exact H
                          clear H
                          have H := H1
                          clear H1
                          obtain rfl := Option.some.inj H
                          have p104 : 0 ≤ (x3_1 : Int) := of_decide_eq_true (by first | (with_reducible assumption) | assumption)
                          have q104 : x3_1 < (l0.length : Int) := of_decide_eq_true (by first | (with_reducible assumption) | assumption)
                          obtain ⟨ad104, e104, hx104_0⟩ := Kd.at_string HR0.out x3_1 p104 q104
                          cases e104
                          replace p104 := eq_true p104
                          replace q104 := eq_true q104
                          go_wp2_with (first | ((with_reducible refine gate_callee (f := 14) rfl ?_); refine goesL_ (some 16) rfl rfl Tryd.func14 (by kernel_rfl) rfl #[.string (rdOf ByteArray.empty l0 x3_1)] rfl (by (try simp only [List.map_toArray, List.map_cons, List.map_nil]); first | done | rfl | (simp only [List.length_drop, List.length_take]; rfl)) ?_; (with_reducible refine (spec_allDigits.calls k1 (rdOf ByteArray.empty l0 x3_1) true _ A4.out).mono ?_); rintro e w' ⟨rfl, ⟨nd, rfl⟩⟩; refine ⟨_, rfl, ?_⟩; have p9 : 0 ≤ (0 : Int) := (by omega); have q9 : 0 < (rdOf ByteArray.empty l0 x3_1).size := (by have : (0 : Int) < ((rdOf ByteArray.empty l0 x3_1).size : Int) := of_decide_eq_true (by first | (with_reducible assumption) | assumption); omega); have hx9 : ∀ h : 0 < (rdOf ByteArray.empty l0 x3_1).size, (((rdOf ByteArray.empty l0 x3_1)[0]'h).toNat : Int) = bt (rdOf ByteArray.empty l0 x3_1) 0 := bt_at (rdOf ByteArray.empty l0 x3_1) 0; clear p9; have qi9 : (0 < ((rdOf ByteArray.empty l0 x3_1).size : Int)) = True := eq_true (of_decide_eq_true (by first | (with_reducible assumption) | assumption)); replace q9 := eq_true q9; have p14 : 0 ≤ (0 : Int) := (by omega); have q14 : 0 < (rdOf ByteArray.empty l0 x3_1).size := (by have : (0 : Int) < ((rdOf ByteArray.empty l0 x3_1).size : Int) := of_decide_eq_true (by first | (with_reducible assumption) | assumption); omega); have hx14 : ∀ h : 0 < (rdOf ByteArray.empty l0 x3_1).size, (((rdOf ByteArray.empty l0 x3_1)[0]'h).toNat : Int) = bt (rdOf ByteArray.empty l0 x3_1) 0 := bt_at (rdOf ByteArray.empty l0 x3_1) 0; clear p14; have qi14 : (0 < ((rdOf ByteArray.empty l0 x3_1).size : Int)) = True := eq_true (of_decide_eq_true (by first | (with_reducible assumption) | assumption)); replace q14 := eq_true q14) | (go_at_call 14; (with_reducible refine (spec_allDigits.calls k1 ((rdOf ByteArray.empty l0 x3_1).extract 1 (rdOf ByteArray.empty l0 x3_1).size) true _ A17.out).mono ?_); rintro e w' ⟨rfl, ⟨nd, rfl⟩⟩))
                          go_ret
                          exact ⟨by first | rfl | (simp; done) | (simp [*]; done), by repeat (first | exact Drawn0.refl _ | apply Drawn0.step)⟩
                        · replace c18 := Bool.eq_false_iff.mpr c18
                          subst c18
                          have H1 : (spec_PackagistKnown.l0 k1 l0 (wrap64 (x3_1 + 1))) = some r := by rw [if_neg (show ¬ (false = true) by decide)] at H; exact H
                          clear H
                          have H := H1
                          clear H1
                          have H' := Aside0.mk H
                          clear H
                          have p104 : 0 ≤ (x3_1 : Int) := of_decide_eq_true (by first | (with_reducible assumption) | assumption)
                          have q104 : x3_1 < (l0.length : Int) := of_decide_eq_true (by first | (with_reducible assumption) | assumption)
                          obtain ⟨ad104, e104, hx104_0⟩ := Kd.at_string HR0.out x3_1 p104 q104
                          cases e104
                          replace p104 := eq_true p104
                          replace q104 := eq_true q104
                          go_wp2_with (first | ((with_reducible refine gate_callee (f := 14) rfl ?_); refine goesL_ (some 16) rfl rfl Tryd.func14 (by kernel_rfl) rfl #[.string (rdOf ByteArray.empty l0 x3_1)] rfl (by (try simp only [List.map_toArray, List.map_cons, List.map_nil]); first | done | rfl | (simp only [List.length_drop, List.length_take]; rfl)) ?_; (with_reducible refine (spec_allDigits.calls k1 (rdOf ByteArray.empty l0 x3_1) true _ A4.out).mono ?_); rintro e w' ⟨rfl, ⟨nd, rfl⟩⟩; refine ⟨_, rfl, ?_⟩; have p9 : 0 ≤ (0 : Int) := (by omega); have q9 : 0 < (rdOf ByteArray.empty l0 x3_1).size := (by have : (0 : Int) < ((rdOf ByteArray.empty l0 x3_1).size : Int) := of_decide_eq_true (by first | (with_reducible assumption) | assumption); omega); have hx9 : ∀ h : 0 < (rdOf ByteArray.empty l0 x3_1).size, (((rdOf ByteArray.empty l0 x3_1)[0]'h).toNat : Int) = bt (rdOf ByteArray.empty l0 x3_1) 0 := bt_at (rdOf ByteArray.empty l0 x3_1) 0; clear p9; have qi9 : (0 < ((rdOf ByteArray.empty l0 x3_1).size : Int)) = True := eq_true (of_decide_eq_true (by first | (with_reducible assumption) | assumption)); replace q9 := eq_true q9; have p14 : 0 ≤ (0 : Int) := (by omega); have q14 : 0 < (rdOf ByteArray.empty l0 x3_1).size := (by have : (0 : Int) < ((rdOf ByteArray.empty l0 x3_1).size : Int) := of_decide_eq_true (by first | (with_reducible assumption) | assumption); omega); have hx14 : ∀ h : 0 < (rdOf ByteArray.empty l0 x3_1).size, (((rdOf ByteArray.empty l0 x3_1)[0]'h).toNat : Int) = bt (rdOf ByteArray.empty l0 x3_1) 0 := bt_at (rdOf ByteArray.empty l0 x3_1) 0; clear p14; have qi14 : (0 < ((rdOf ByteArray.empty l0 x3_1).size : Int)) = True := eq_true (of_decide_eq_true (by first | (with_reducible assumption) | assumption)); replace q14 := eq_true q14) | (go_at_call 14; (with_reducible refine (spec_allDigits.calls k1 ((rdOf ByteArray.empty l0 x3_1).extract 1 (rdOf ByteArray.empty l0 x3_1).size) false _ A17.out).mono ?_); rintro e w' ⟨rfl, ⟨nd, rfl⟩⟩))
                          go_roundg k1
                          case measure => have := HK1.out; omega
                          case rel => exact ⟨(wrap64 (x3_1 + 1)), (by first | rfl | (simp; done) | (simp [*]; done)), H', ⟨by have := HK1.out; omega⟩, by repeat (first | exact Drawn0.refl _ | apply Drawn0.step)⟩
                      · rw [if_neg c16] at H
                        exact absurd H (by simp)
                    · rw [if_neg c15] at H
                      have c15b0 : ((bt (rdOf ByteArray.empty l0 x3_1) 0) == 43) = false := beq_eq_false_iff_ne.mpr c15
                      have c15b1 : ((bt (rdOf ByteArray.empty l0 x3_1) 0) != 43) = true := bne_iff_ne.mpr c15
                      have H' := Aside0.mk H
                      clear H
                      have p104 : 0 ≤ (x3_1 : Int) := of_decide_eq_true (by first | (with_reducible assumption) | assumption)
                      have q104 : x3_1 < (l0.length : Int) := of_decide_eq_true (by first | (with_reducible assumption) | assumption)
                      obtain ⟨ad104, e104, hx104_0⟩ := Kd.at_string HR0.out x3_1 p104 q104
                      cases e104
                      replace p104 := eq_true p104
                      replace q104 := eq_true q104
                      go_wp2_with (first | ((with_reducible refine gate_callee (f := 14) rfl ?_); refine goesL_ (some 16) rfl rfl Tryd.func14 (by kernel_rfl) rfl #[.string (rdOf ByteArray.empty l0 x3_1)] rfl (by (try simp only [List.map_toArray, List.map_cons, List.map_nil]); first | done | rfl | (simp only [List.length_drop, List.length_take]; rfl)) ?_; (with_reducible refine (spec_allDigits.calls k1 (rdOf ByteArray.empty l0 x3_1) true _ A4.out).mono ?_); rintro e w' ⟨rfl, ⟨nd, rfl⟩⟩; refine ⟨_, rfl, ?_⟩; have p9 : 0 ≤ (0 : Int) := (by omega); have q9 : 0 < (rdOf ByteArray.empty l0 x3_1).size := (by have : (0 : Int) < ((rdOf ByteArray.empty l0 x3_1).size : Int) := of_decide_eq_true (by first | (with_reducible assumption) | assumption); omega); have hx9 : ∀ h : 0 < (rdOf ByteArray.empty l0 x3_1).size, (((rdOf ByteArray.empty l0 x3_1)[0]'h).toNat : Int) = bt (rdOf ByteArray.empty l0 x3_1) 0 := bt_at (rdOf ByteArray.empty l0 x3_1) 0; clear p9; have qi9 : (0 < ((rdOf ByteArray.empty l0 x3_1).size : Int)) = True := eq_true (of_decide_eq_true (by first | (with_reducible assumption) | assumption)); replace q9 := eq_true q9; have p14 : 0 ≤ (0 : Int) := (by omega); have q14 : 0 < (rdOf ByteArray.empty l0 x3_1).size := (by have : (0 : Int) < ((rdOf ByteArray.empty l0 x3_1).size : Int) := of_decide_eq_true (by first | (with_reducible assumption) | assumption); omega); have hx14 : ∀ h : 0 < (rdOf ByteArray.empty l0 x3_1).size, (((rdOf ByteArray.empty l0 x3_1)[0]'h).toNat : Int) = bt (rdOf ByteArray.empty l0 x3_1) 0 := bt_at (rdOf ByteArray.empty l0 x3_1) 0; clear p14; have qi14 : (0 < ((rdOf ByteArray.empty l0 x3_1).size : Int)) = True := eq_true (of_decide_eq_true (by first | (with_reducible assumption) | assumption)); replace q14 := eq_true q14))
                      go_roundg k1
                      case measure => have := HK1.out; omega
                      case rel => exact ⟨(wrap64 (x3_1 + 1)), (by first | rfl | (simp; done) | (simp [*]; done)), H', ⟨by have := HK1.out; omega⟩, by repeat (first | exact Drawn0.refl _ | apply Drawn0.step)⟩
                · rw [if_neg c8] at H
                  exact absurd H (by simp)
              · rw [if_neg c7] at H
                have c7b0 : decide (1 < ((rdOf ByteArray.empty l0 x3_1).size : Int)) = false := decide_eq_false c7
                have c7b1 : decide (1 < (rdOf ByteArray.empty l0 x3_1).size) = false := decide_eq_false (by omega)
                clear c7
                have H' := Aside0.mk H
                clear H
                have p104 : 0 ≤ (x3_1 : Int) := of_decide_eq_true (by first | (with_reducible assumption) | assumption)
                have q104 : x3_1 < (l0.length : Int) := of_decide_eq_true (by first | (with_reducible assumption) | assumption)
                obtain ⟨ad104, e104, hx104_0⟩ := Kd.at_string HR0.out x3_1 p104 q104
                cases e104
                replace p104 := eq_true p104
                replace q104 := eq_true q104
                go_wp2_with (first | ((with_reducible refine gate_callee (f := 14) rfl ?_); refine goesL_ (some 16) rfl rfl Tryd.func14 (by kernel_rfl) rfl #[.string (rdOf ByteArray.empty l0 x3_1)] rfl (by (try simp only [List.map_toArray, List.map_cons, List.map_nil]); first | done | rfl | (simp only [List.length_drop, List.length_take]; rfl)) ?_; (with_reducible refine (spec_allDigits.calls k1 (rdOf ByteArray.empty l0 x3_1) true _ A4.out).mono ?_); rintro e w' ⟨rfl, ⟨nd, rfl⟩⟩; refine ⟨_, rfl, ?_⟩))
                go_roundg k1
                case measure => have := HK1.out; omega
                case rel => exact ⟨(wrap64 (x3_1 + 1)), (by first | rfl | (simp; done) | (simp [*]; done)), H', ⟨by have := HK1.out; omega⟩, by repeat (first | exact Drawn0.refl _ | apply Drawn0.step)⟩
          · replace c5 := Bool.eq_false_iff.mpr c5
            subst c5
            have H1 : (if ((rdOf ByteArray.empty l0 x3_1).size : Int) > 1 then (if 0 < ((rdOf ByteArray.empty l0 x3_1).size : Int) then (if (bt (rdOf ByteArray.empty l0 x3_1) 0) = 45 then (if 1 ≤ ((rdOf ByteArray.empty l0 x3_1).size : Int) then ((spec_allDigits.f k1 ((rdOf ByteArray.empty l0 x3_1).extract 1 (rdOf ByteArray.empty l0 x3_1).size)).bind fun t108 => (if t108 = true then (some false) else (spec_PackagistKnown.l0 k1 l0 (wrap64 (x3_1 + 1))))) else (none)) else (if (bt (rdOf ByteArray.empty l0 x3_1) 0) = 43 then (if 1 ≤ ((rdOf ByteArray.empty l0 x3_1).size : Int) then ((spec_allDigits.f k1 ((rdOf ByteArray.empty l0 x3_1).extract 1 (rdOf ByteArray.empty l0 x3_1).size)).bind fun t109 => (if t109 = true then (some false) else (spec_PackagistKnown.l0 k1 l0 (wrap64 (x3_1 + 1))))) else (none)) else (spec_PackagistKnown.l0 k1 l0 (wrap64 (x3_1 + 1))))) else (none)) else (spec_PackagistKnown.l0 k1 l0 (wrap64 (x3_1 + 1)))) = some r := by rw [if_neg (show ¬ (false = true) by decide)] at H; exact H
            clear H
            have H := H1
            clear H1
            by_cases c19 : ((rdOf ByteArray.empty l0 x3_1).size : Int) > 1
            · rw [if_pos c19] at H
              have c19b0 : decide (1 < ((rdOf ByteArray.empty l0 x3_1).size : Int)) = true := decide_eq_true c19
              have c19b1 : decide (1 < (rdOf ByteArray.empty l0 x3_1).size) = true := decide_eq_true (by omega)
              clear c19
              by_cases c20 : 0 < ((rdOf ByteArray.empty l0 x3_1).size : Int)
              · rw [if_pos c20] at H
                have c20b0 : decide (0 < ((rdOf ByteArray.empty l0 x3_1).size : Int)) = true := decide_eq_true c20
                have c20b1 : decide (0 < (rdOf ByteArray.empty l0 x3_1).size) = true := decide_eq_true (by omega)
                clear c20
                by_cases c22 : (bt (rdOf ByteArray.empty l0 x3_1) 0) = 45
                · rw [if_pos c22] at H
                  have c22b0 : ((bt (rdOf ByteArray.empty l0 x3_1) 0) == 45) = true := beq_iff_eq.mpr c22
                  have c22b1 : ((bt (rdOf ByteArray.empty l0 x3_1) 0) != 45) = false := bne_eq_false_iff_eq.mpr c22
                  clear c22
                  by_cases c23 : 1 ≤ ((rdOf ByteArray.empty l0 x3_1).size : Int)
                  · rw [if_pos c23] at H
                    have c23b0 := eq_true c23
                    have c23b1 : decide (1 ≤ ((rdOf ByteArray.empty l0 x3_1).size : Int)) = true := decide_eq_true c23
                    clear c23
                    replace H := Option.bind_eq_some_iff.mp H
                    obtain ⟨t108, A240, H⟩ := H
                    replace H : (if t108 = true then (some false) else (spec_PackagistKnown.l0 k1 l0 (wrap64 (x3_1 + 1)))) = some r := H
                    have A24 := Aside0.mk A240
                    clear A240
                    by_cases c25 : t108 = true
                    · subst c25
                      have H1 : (some false) = some r := by rw [if_pos rfl] at H; exact H
                      clear H
                      have H := H1
                      clear H1
                      obtain rfl := Option.some.inj H
                      have p104 : 0 ≤ (x3_1 : Int) := of_decide_eq_true (by first | (with_reducible assumption) | assumption)
                      have q104 : x3_1 < (l0.length : Int) := of_decide_eq_true (by first | (with_reducible assumption) | assumption)
                      obtain ⟨ad104, e104, hx104_0⟩ := Kd.at_string HR0.out x3_1 p104 q104
                      cases e104
                      replace p104 := eq_true p104
                      replace q104 := eq_true q104
                      go_wp2_with (first | ((with_reducible refine gate_callee (f := 14) rfl ?_); refine goesL_ (some 16) rfl rfl Tryd.func14 (by kernel_rfl) rfl #[.string (rdOf ByteArray.empty l0 x3_1)] rfl (by (try simp only [List.map_toArray, List.map_cons, List.map_nil]); first | done | rfl | (simp only [List.length_drop, List.length_take]; rfl)) ?_; (with_reducible refine (spec_allDigits.calls k1 (rdOf ByteArray.empty l0 x3_1) false _ A4.out).mono ?_); rintro e w' ⟨rfl, ⟨nd, rfl⟩⟩; refine ⟨_, rfl, ?_⟩; have p21 : 0 ≤ (0 : Int) := (by omega); have q21 : 0 < (rdOf ByteArray.empty l0 x3_1).size := (by have : (0 : Int) < ((rdOf ByteArray.empty l0 x3_1).size : Int) := of_decide_eq_true (by first | (with_reducible assumption) | assumption); omega); have hx21 : ∀ h : 0 < (rdOf ByteArray.empty l0 x3_1).size, (((rdOf ByteArray.empty l0 x3_1)[0]'h).toNat : Int) = bt (rdOf ByteArray.empty l0 x3_1) 0 := bt_at (rdOf ByteArray.empty l0 x3_1) 0; clear p21; have qi21 : (0 < ((rdOf ByteArray.empty l0 x3_1).size : Int)) = True := eq_true (of_decide_eq_true (by first | (with_reducible assumption) | assumption)); replace q21 := eq_true q21) | (go_at_call 14; (with_reducible refine (spec_allDigits.calls k1 ((rdOf ByteArray.empty l0 x3_1).extract 1 (rdOf ByteArray.empty l0 x3_1).size) true _ A24.out).mono ?_); rintro e w' ⟨rfl, ⟨nd, rfl⟩⟩))
                      go_ret
                      exact ⟨by first | rfl | (simp; done) | (simp [*]; done), by repeat (first | exact Drawn0.refl _ | apply Drawn0.step)⟩
                    · replace c25 := Bool.eq_false_iff.mpr c25
                      subst c25
                      have H1 : (spec_PackagistKnown.l0 k1 l0 (wrap64 (x3_1 + 1))) = some r := by rw [if_neg (show ¬ (false = true) by decide)] at H; exact H
                      clear H
                      have H := H1
                      clear H1
                      have H' := Aside0.mk H
                      clear H
                      have p104 : 0 ≤ (x3_1 : Int) := of_decide_eq_true (by first | (with_reducible assumption) | assumption)
                      have q104 : x3_1 < (l0.length : Int) := of_decide_eq_true (by first | (with_reducible assumption) | assumption)
                      obtain ⟨ad104, e104, hx104_0⟩ := Kd.at_string HR0.out x3_1 p104 q104
                      cases e104
                      replace p104 := eq_true p104
                      replace q104 := eq_true q104
                      go_wp2_with (first | ((with_reducible refine gate_callee (f := 14) rfl ?_); refine goesL_ (some 16) rfl rfl Tryd.func14 (by kernel_rfl) rfl #[.string (rdOf ByteArray.empty l0 x3_1)] rfl (by (try simp only [List.map_toArray, List.map_cons, List.map_nil]); first | done | rfl | (simp only [List.length_drop, List.length_take]; rfl)) ?_; (with_reducible refine (spec_allDigits.calls k1 (rdOf ByteArray.empty l0 x3_1) false _ A4.out).mono ?_); rintro e w' ⟨rfl, ⟨nd, rfl⟩⟩; refine ⟨_, rfl, ?_⟩; have p21 : 0 ≤ (0 : Int) := (by omega); have q21 : 0 < (rdOf ByteArray.empty l0 x3_1).size := (by have : (0 : Int) < ((rdOf ByteArray.empty l0 x3_1).size : Int) := of_decide_eq_true (by first | (with_reducible assumption) | assumption); omega); have hx21 : ∀ h : 0 < (rdOf ByteArray.empty l0 x3_1).size, (((rdOf ByteArray.empty l0 x3_1)[0]'h).toNat : Int) = bt (rdOf ByteArray.empty l0 x3_1) 0 := bt_at (rdOf ByteArray.empty l0 x3_1) 0; clear p21; have qi21 : (0 < ((rdOf ByteArray.empty l0 x3_1).size : Int)) = True := eq_true (of_decide_eq_true (by first | (with_reducible assumption) | assumption)); replace q21 := eq_true q21) | (go_at_call 14; (with_reducible refine (spec_allDigits.calls k1 ((rdOf ByteArray.empty l0 x3_1).extract 1 (rdOf ByteArray.empty l0 x3_1).size) false _ A24.out).mono ?_); rintro e w' ⟨rfl, ⟨nd, rfl⟩⟩))
                      go_roundg k1
                      case measure => have := HK1.out; omega
                      case rel => exact ⟨(wrap64 (x3_1 + 1)), (by first | rfl | (simp; done) | (simp [*]; done)), H', ⟨by have := HK1.out; omega⟩, by repeat (first | exact Drawn0.refl _ | apply Drawn0.step)⟩
                  · rw [if_neg c23] at H
                    exact absurd H (by simp)
                · rw [if_neg c22] at H
                  have c22b0 : ((bt (rdOf ByteArray.empty l0 x3_1) 0) == 45) = false := beq_eq_false_iff_ne.mpr c22
                  have c22b1 : ((bt (rdOf ByteArray.empty l0 x3_1) 0) != 45) = true := bne_iff_ne.mpr c22
                  by_cases c27 : (bt (rdOf ByteArray.empty l0 x3_1) 0) = 43
                  · rw [if_pos c27] at H
                    have c27b0 : ((bt (rdOf ByteArray.empty l0 x3_1) 0) == 43) = true := beq_iff_eq.mpr c27
                    have c27b1 : ((bt (rdOf ByteArray.empty l0 x3_1) 0) != 43) = false := bne_eq_false_iff_eq.mpr c27
                    clear c27
                    by_cases c28 : 1 ≤ ((rdOf ByteArray.empty l0 x3_1).size : Int)
                    · rw [if_pos c28] at H
                      have c28b0 := eq_true c28
                      have c28b1 : decide (1 ≤ ((rdOf ByteArray.empty l0 x3_1).size : Int)) = true := decide_eq_true c28
                      clear c28
                      replace H := Option.bind_eq_some_iff.mp H
                      obtain ⟨t109, A290, H⟩ := H
                      replace H : (if t109 = true then (some false) else (spec_PackagistKnown.l0 k1 l0 (wrap64 (x3_1 + 1)))) = some r := H
                      have A29 := Aside0.mk A290
                      clear A290
                      by_cases c30 : t109 = true
                      · subst c30
                        have H1 : (some false) = some r := by rw [if_pos rfl] at H; exact H
                        clear H
                        have H := H1
                        clear H1
                        obtain rfl := Option.some.inj H
                        have p104 : 0 ≤ (x3_1 : Int) := of_decide_eq_true (by first | (with_reducible assumption) | assumption)
                        have q104 : x3_1 < (l0.length : Int) := of_decide_eq_true (by first | (with_reducible assumption) | assumption)
                        obtain ⟨ad104, e104, hx104_0⟩ := Kd.at_string HR0.out x3_1 p104 q104
                        cases e104
                        replace p104 := eq_true p104
                        replace q104 := eq_true q104
                        go_wp2_with (first | ((with_reducible refine gate_callee (f := 14) rfl ?_); refine goesL_ (some 16) rfl rfl Tryd.func14 (by kernel_rfl) rfl #[.string (rdOf ByteArray.empty l0 x3_1)] rfl (by (try simp only [List.map_toArray, List.map_cons, List.map_nil]); first | done | rfl | (simp only [List.length_drop, List.length_take]; rfl)) ?_; (with_reducible refine (spec_allDigits.calls k1 (rdOf ByteArray.empty l0 x3_1) false _ A4.out).mono ?_); rintro e w' ⟨rfl, ⟨nd, rfl⟩⟩; refine ⟨_, rfl, ?_⟩; have p21 : 0 ≤ (0 : Int) := (by omega); have q21 : 0 < (rdOf ByteArray.empty l0 x3_1).size := (by have : (0 : Int) < ((rdOf ByteArray.empty l0 x3_1).size : Int) := of_decide_eq_true (by first | (with_reducible assumption) | assumption); omega); have hx21 : ∀ h : 0 < (rdOf ByteArray.empty l0 x3_1).size, (((rdOf ByteArray.empty l0 x3_1)[0]'h).toNat : Int) = bt (rdOf ByteArray.empty l0 x3_1) 0 := bt_at (rdOf ByteArray.empty l0 x3_1) 0; clear p21; have qi21 : (0 < ((rdOf ByteArray.empty l0 x3_1).size : Int)) = True := eq_true (of_decide_eq_true (by first | (with_reducible assumption) | assumption)); replace q21 := eq_true q21; have p26 : 0 ≤ (0 : Int) := (by omega); have q26 : 0 < (rdOf ByteArray.empty l0 x3_1).size := (by have : (0 : Int) < ((rdOf ByteArray.empty l0 x3_1).size : Int) := of_decide_eq_true (by first | (with_reducible assumption) | assumption); omega); have hx26 : ∀ h : 0 < (rdOf ByteArray.empty l0 x3_1).size, (((rdOf ByteArray.empty l0 x3_1)[0]'h).toNat : Int) = bt (rdOf ByteArray.empty l0 x3_1) 0 := bt_at (rdOf ByteArray.empty l0 x3_1) 0; clear p26; have qi26 : (0 < ((rdOf ByteArray.empty l0 x3_1).size : Int)) = True := eq_true (of_decide_eq_true (by first | (with_reducible assumption) | assumption)); replace q26 := eq_true q26) | (go_at_call 14; (with_reducible refine (spec_allDigits.calls k1 ((rdOf ByteArray.empty l0 x3_1).extract 1 (rdOf ByteArray.empty l0 x3_1).size) true _ A29.out).mono ?_); rintro e w' ⟨rfl, ⟨nd, rfl⟩⟩))
                        go_ret
                        exact ⟨by first | rfl | (simp; done) | (simp [*]; done), by repeat (first | exact Drawn0.refl _ | apply Drawn0.step)⟩
                      · replace c30 := Bool.eq_false_iff.mpr c30
                        subst c30
                        have H1 : (spec_PackagistKnown.l0 k1 l0 (wrap64 (x3_1 + 1))) = some r := by rw [if_neg (show ¬ (false = true) by decide)] at H; exact H
                        clear H
                        have H := H1
                        clear H1
                        have H' := Aside0.mk H
                        clear H
                        have p104 : 0 ≤ (x3_1 : Int) := of_decide_eq_true (by first | (with_reducible assumption) | assumption)
                        have q104 : x3_1 < (l0.length : Int) := of_decide_eq_true (by first | (with_reducible assumption) | assumption)
                        obtain ⟨ad104, e104, hx104_0⟩ := Kd.at_string HR0.out x3_1 p104 q104
                        cases e104
                        replace p104 := eq_true p104
                        replace q104 := eq_true q104
                        go_wp2_with (first | ((with_reducible refine gate_callee (f := 14) rfl ?_); refine goesL_ (some 16) rfl rfl Tryd.func14 (by kernel_rfl) rfl #[.string (rdOf ByteArray.empty l0 x3_1)] rfl (by (try simp only [List.map_toArray, List.map_cons, List.map_nil]); first | done | rfl | (simp only [List.length_drop, List.length_take]; rfl)) ?_; (with_reducible refine (spec_allDigits.calls k1 (rdOf ByteArray.empty l0 x3_1) false _ A4.out).mono ?_); rintro e w' ⟨rfl, ⟨nd, rfl⟩⟩; refine ⟨_, rfl, ?_⟩; have p21 : 0 ≤ (0 : Int) := (by omega); have q21 : 0 < (rdOf ByteArray.empty l0 x3_1).size := (by have : (0 : Int) < ((rdOf ByteArray.empty l0 x3_1).size : Int) := of_decide_eq_true (by first | (with_reducible assumption) | assumption); omega); have hx21 : ∀ h : 0 < (rdOf ByteArray.empty l0 x3_1).size, (((rdOf ByteArray.empty l0 x3_1)[0]'h).toNat : Int) = bt (rdOf ByteArray.empty l0 x3_1) 0 := bt_at (rdOf ByteArray.empty l0 x3_1) 0; clear p21; have qi21 : (0 < ((rdOf ByteArray.empty l0 x3_1).size : Int)) = True := eq_true (of_decide_eq_true (by first | (with_reducible assumption) | assumption)); replace q21 := eq_true q21; have p26 : 0 ≤ (0 : Int) := (by omega); have q26 : 0 < (rdOf ByteArray.empty l0 x3_1).size := (by have : (0 : Int) < ((rdOf ByteArray.empty l0 x3_1).size : Int) := of_decide_eq_true (by first | (with_reducible assumption) | assumption); omega); have hx26 : ∀ h : 0 < (rdOf ByteArray.empty l0 x3_1).size, (((rdOf ByteArray.empty l0 x3_1)[0]'h).toNat : Int) = bt (rdOf ByteArray.empty l0 x3_1) 0 := bt_at (rdOf ByteArray.empty l0 x3_1) 0; clear p26; have qi26 : (0 < ((rdOf ByteArray.empty l0 x3_1).size : Int)) = True := eq_true (of_decide_eq_true (by first | (with_reducible assumption) | assumption)); replace q26 := eq_true q26) | (go_at_call 14; (with_reducible refine (spec_allDigits.calls k1 ((rdOf ByteArray.empty l0 x3_1).extract 1 (rdOf ByteArray.empty l0 x3_1).size) false _ A29.out).mono ?_); rintro e w' ⟨rfl, ⟨nd, rfl⟩⟩))
                        go_roundg k1
                        case measure => have := HK1.out; omega
                        case rel => exact ⟨(wrap64 (x3_1 + 1)), (by first | rfl | (simp; done) | (simp [*]; done)), H', ⟨by have := HK1.out; omega⟩, by repeat (first | exact Drawn0.refl _ | apply Drawn0.step)⟩
                    · rw [if_neg c28] at H
                      exact absurd H (by simp)
                  · rw [if_neg c27] at H
                    have c27b0 : ((bt (rdOf ByteArray.empty l0 x3_1) 0) == 43) = false := beq_eq_false_iff_ne.mpr c27
                    have c27b1 : ((bt (rdOf ByteArray.empty l0 x3_1) 0) != 43) = true := bne_iff_ne.mpr c27
                    have H' := Aside0.mk H
                    clear H
                    have p104 : 0 ≤ (x3_1 : Int) := of_decide_eq_true (by first | (with_reducible assumption) | assumption)
                    have q104 : x3_1 < (l0.length : Int) := of_decide_eq_true (by first | (with_reducible assumption) | assumption)
                    obtain ⟨ad104, e104, hx104_0⟩ := Kd.at_string HR0.out x3_1 p104 q104
                    cases e104
                    replace p104 := eq_true p104
                    replace q104 := eq_true q104
                    go_wp2_with (first | ((with_reducible refine gate_callee (f := 14) rfl ?_); refine goesL_ (some 16) rfl rfl Tryd.func14 (by kernel_rfl) rfl #[.string (rdOf ByteArray.empty l0 x3_1)] rfl (by (try simp only [List.map_toArray, List.map_cons, List.map_nil]); first | done | rfl | (simp only [List.length_drop, List.length_take]; rfl)) ?_; (with_reducible refine (spec_allDigits.calls k1 (rdOf ByteArray.empty l0 x3_1) false _ A4.out).mono ?_); rintro e w' ⟨rfl, ⟨nd, rfl⟩⟩; refine ⟨_, rfl, ?_⟩; have p21 : 0 ≤ (0 : Int) := (by omega); have q21 : 0 < (rdOf ByteArray.empty l0 x3_1).size := (by have : (0 : Int) < ((rdOf ByteArray.empty l0 x3_1).size : Int) := of_decide_eq_true (by first | (with_reducible assumption) | assumption); omega); have hx21 : ∀ h : 0 < (rdOf ByteArray.empty l0 x3_1).size, (((rdOf ByteArray.empty l0 x3_1)[0]'h).toNat : Int) = bt (rdOf ByteArray.empty l0 x3_1) 0 := bt_at (rdOf ByteArray.empty l0 x3_1) 0; clear p21; have qi21 : (0 < ((rdOf ByteArray.empty l0 x3_1).size : Int)) = True := eq_true (of_decide_eq_true (by first | (with_reducible assumption) | assumption)); replace q21 := eq_true q21; have p26 : 0 ≤ (0 : Int) := (by omega); have q26 : 0 < (rdOf ByteArray.empty l0 x3_1).size := (by have : (0 : Int) < ((rdOf ByteArray.empty l0 x3_1).size : Int) := of_decide_eq_true (by first | (with_reducible assumption) | assumption); omega); have hx26 : ∀ h : 0 < (rdOf ByteArray.empty l0 x3_1).size, (((rdOf ByteArray.empty l0 x3_1)[0]'h).toNat : Int) = bt (rdOf ByteArray.empty l0 x3_1) 0 := bt_at (rdOf ByteArray.empty l0 x3_1) 0; clear p26; have qi26 : (0 < ((rdOf ByteArray.empty l0 x3_1).size : Int)) = True := eq_true (of_decide_eq_true (by first | (with_reducible assumption) | assumption)); replace q26 := eq_true q26))
                    go_roundg k1
                    case measure => have := HK1.out; omega
                    case rel => exact ⟨(wrap64 (x3_1 + 1)), (by first | rfl | (simp; done) | (simp [*]; done)), H', ⟨by have := HK1.out; omega⟩, by repeat (first | exact Drawn0.refl _ | apply Drawn0.step)⟩
              · rw [if_neg c20] at H
                exact absurd H (by simp)
            · rw [if_neg c19] at H
              have c19b0 : decide (1 < ((rdOf ByteArray.empty l0 x3_1).size : Int)) = false := decide_eq_false c19
              have c19b1 : decide (1 < (rdOf ByteArray.empty l0 x3_1).size) = false := decide_eq_false (by omega)
              clear c19
              have H' := Aside0.mk H
              clear H
              have p104 : 0 ≤ (x3_1 : Int) := of_decide_eq_true (by first | (with_reducible assumption) | assumption)
              have q104 : x3_1 < (l0.length : Int) := of_decide_eq_true (by first | (with_reducible assumption) | assumption)
              obtain ⟨ad104, e104, hx104_0⟩ := Kd.at_string HR0.out x3_1 p104 q104
              cases e104
              replace p104 := eq_true p104
              replace q104 := eq_true q104
              go_wp2_with (first | ((with_reducible refine gate_callee (f := 14) rfl ?_); refine goesL_ (some 16) rfl rfl Tryd.func14 (by kernel_rfl) rfl #[.string (rdOf ByteArray.empty l0 x3_1)] rfl (by (try simp only [List.map_toArray, List.map_cons, List.map_nil]); first | done | rfl | (simp only [List.length_drop, List.length_take]; rfl)) ?_; (with_reducible refine (spec_allDigits.calls k1 (rdOf ByteArray.empty l0 x3_1) false _ A4.out).mono ?_); rintro e w' ⟨rfl, ⟨nd, rfl⟩⟩; refine ⟨_, rfl, ?_⟩))
              go_roundg k1
              case measure => have := HK1.out; omega
              case rel => exact ⟨(wrap64 (x3_1 + 1)), (by first | rfl | (simp; done) | (simp [*]; done)), H', ⟨by have := HK1.out; omega⟩, by repeat (first | exact Drawn0.refl _ | apply Drawn0.step)⟩
        · rw [if_neg c3] at H
          exact absurd H (by simp)
      · rw [if_neg c2] at H
        have c2b0 : decide (x3_1 < (l0.length : Int)) = false := decide_eq_false c2
        clear c2
        obtain rfl := Option.some.inj H
        go_wp2
        go_ret
        exact ⟨by first | rfl | (simp; done) | (simp [*]; done), by repeat (first | exact Drawn0.refl _ | apply Drawn0.step)⟩

/-! ### laws_packagist: function 5 -/
def laws_packagist.l0 : Nat → List (List ByteArray) → Int → Int → Option (Bool)
  | 0, _, _, _ => none
  | k + 1, x5, x6, x7 => if x7 < x6 then (if 0 ≤ x7 then (if x7 < (x5.length : Int) then ((laws_short.f k (rd_L1 x5 x7)).bind fun t111 => (if t111 = true then ((spec_PackagistKnown.f k (rd_L1 x5 x7)).bind fun t112 => (if t112 = true then (laws_packagist.l0 k x5 x6 (wrap64 (x7 + 1))) else (some false))) else (some false))) else (none)) else (none)) else (some true)
def laws_packagist.f (k : Nat) (l0 : List (List ByteArray)) : Option (Bool) := laws_packagist.l0 k l0 (l0.length : Int) 0
theorem laws_packagist.mono_l : ∀ k, (∀ y0 y1 y2, LeO (laws_packagist.l0 k y0 y1 y2) (laws_packagist.l0 (k + 1) y0 y1 y2))
  | 0 => fun _ _ _ r h => by simp [laws_packagist.l0] at h
  | k + 1 => by
    have ih0 := laws_packagist.mono_l k
    · intro y0 y1 y2
      unfold laws_packagist.l0
      repeat' first
      | (with_reducible exact ih0 _ _ _)
      | (with_reducible exact laws_short.mono _ _)
      | (with_reducible exact spec_PackagistKnown.mono _ _)
      | (with_reducible exact LeO.refl _)
      | (with_reducible exact LeO.none _)
      | (with_reducible refine LeO.ite ?_ ?_)
      | (with_reducible refine LeO.bind ?_ (fun _ => ?_))
      | exact ih0 _ _ _
      | exact laws_short.mono _ _
      | exact spec_PackagistKnown.mono _ _
      | exact LeO.none _
      | refine LeO.ite ?_ ?_
      | refine LeO.bind ?_ (fun _ => ?_)
theorem laws_packagist.mono : ∀ a0 k, LeO (laws_packagist.f k a0) (laws_packagist.f (k + 1) a0) := by
  intro a0 k
  have ih0 := laws_packagist.mono_l k
  unfold laws_packagist.f
  repeat' first
      | (with_reducible exact ih0 _ _ _)
      | (with_reducible exact laws_short.mono _ _)
      | (with_reducible exact spec_PackagistKnown.mono _ _)
      | (with_reducible exact LeO.refl _)
      | (with_reducible exact LeO.none _)
      | (with_reducible refine LeO.ite ?_ ?_)
      | (with_reducible refine LeO.bind ?_ (fun _ => ?_))
      | exact ih0 _ _ _
      | exact laws_short.mono _ _
      | exact spec_PackagistKnown.mono _ _
      | exact LeO.none _
      | refine LeO.ite ?_ ?_
      | refine LeO.bind ?_ (fun _ => ?_)
set_option maxHeartbeats 8000000 in
set_option maxRecDepth 100000 in
theorem laws_packagist.calls (k : Nat) (A0 : Option Addr) (c0 : Nat) (l0 : List (List ByteArray)) (r : Bool) (w : World) (hr0 : Kd.C (Kd.slice 9 Kd.string) w A0 l0.length l0) (hc0 : l0.length ≤ c0) (h : laws_packagist.f k l0 = some r) :
    Calls Tryd.prog 5 #[.slice A0 l0.length c0] w fun e w' => e = .returned (.bool r) ∧ Drawn0 w w' := by
  have HR0 := Aside0.mk hr0
  have HC0 := Aside0.mk hc0
  clear hr0 hc0
  have H : (laws_packagist.l0 k l0 (l0.length : Int) 0) = some r := h
  clear h
  have H' := Aside0.mk H
  clear H
  go_enter Tryd.func5, Tryd.ntmps5
  go_wp2
  go_loopg [7] k (fun kq v7 w' => ∃ (x7_1 : Int), v7 = .int .i64 x7_1 ∧ Aside0 (laws_packagist.l0 kq l0 (l0.length : Int) x7_1 = some r) ∧ Aside0 (kq ≤ k) ∧ Drawn0 w w')
  case atStart => exact ⟨(0), (by first | rfl | (simp; done) | (simp [*]; done)), H', ⟨Nat.le_refl _⟩, by repeat (first | exact Drawn0.refl _ | apply Drawn0.step)⟩
  case round =>
    clear H'
    obtain ⟨x7_1, rfl, HA, HK1, ⟨m1, rfl⟩⟩ := hrel
    cases gk with
    | zero => exact absurd HA.out (by simp [laws_packagist.l0])
    | succ k1 =>
      have H := HA.out
      clear HA
      simp only [laws_packagist.l0] at H
      by_cases c2 : x7_1 < (l0.length : Int)
      · rw [if_pos c2] at H
        have c2b0 : decide (x7_1 < (l0.length : Int)) = true := decide_eq_true c2
        clear c2
        by_cases c3 : 0 ≤ x7_1
        · rw [if_pos c3] at H
          have c3b0 : decide (0 ≤ x7_1) = true := decide_eq_true c3
          clear c3
          by_cases c4 : x7_1 < (l0.length : Int)
          · rw [if_pos c4] at H
            have c4b0 : decide (x7_1 < (l0.length : Int)) = true := decide_eq_true c4
            clear c4
            replace H := Option.bind_eq_some_iff.mp H
            obtain ⟨t111, A50, H⟩ := H
            replace H : (if t111 = true then ((spec_PackagistKnown.f k1 (rd_L1 l0 x7_1)).bind fun t112 => (if t112 = true then (laws_packagist.l0 k1 l0 (l0.length : Int) (wrap64 (x7_1 + 1))) else (some false))) else (some false)) = some r := H
            have A5 := Aside0.mk A50
            clear A50
            by_cases c6 : t111 = true
            · subst c6
              have H1 : ((spec_PackagistKnown.f k1 (rd_L1 l0 x7_1)).bind fun t112 => (if t112 = true then (laws_packagist.l0 k1 l0 (l0.length : Int) (wrap64 (x7_1 + 1))) else (some false))) = some r := by rw [if_pos rfl] at H; exact H
              clear H
              have H := H1
              clear H1
              replace H := Option.bind_eq_some_iff.mp H
              obtain ⟨t112, A70, H⟩ := H
              replace H : (if t112 = true then (laws_packagist.l0 k1 l0 (l0.length : Int) (wrap64 (x7_1 + 1))) else (some false)) = some r := H
              have A7 := Aside0.mk A70
              clear A70
              by_cases c8 : t112 = true
              · subst c8
                have H1 : (laws_packagist.l0 k1 l0 (l0.length : Int) (wrap64 (x7_1 + 1))) = some r := by rw [if_pos rfl] at H; exact H
                clear H
                have H := H1
                clear H1
                have H' := Aside0.mk H
                clear H
                have p110 : 0 ≤ (x7_1 : Int) := of_decide_eq_true (by first | (with_reducible assumption) | assumption)
                have q110 : x7_1 < (l0.length : Int) := of_decide_eq_true (by first | (with_reducible assumption) | assumption)
                obtain ⟨ad110, A110_0, c110_0, e110, hx110_0, hl110_0, hi110_0⟩ := at_L1 HR0.out x7_1 p110 q110
                cases e110
                have HR110_0 := Aside0.mk hi110_0
                have HC110_0 := Aside0.mk hl110_0
                clear hi110_0 hl110_0
                replace p110 := eq_true p110
                replace q110 := eq_true q110
                go_wp2_with (first | ((with_reducible refine gate_callee (f := 9) rfl ?_); refine goesL_ (some 12) rfl rfl Tryd.func9 (by kernel_rfl) rfl #[.slice A110_0 (rd_L1 l0 x7_1).length c110_0] rfl (by (try simp only [List.map_toArray, List.map_cons, List.map_nil]); first | done | rfl | (simp only [List.length_drop, List.length_take]; rfl)) ?_; (with_reducible refine (laws_short.calls k1 _ _ (rd_L1 l0 x7_1) true _ ?side1 ?side2 A5.out).mono ?_); (case side1 => repeat (first | exact HR110_0.out | (with_reducible refine Kd.C_alloc ?_ _) | (with_reducible refine Kd.C_drewN ?_ _) | (with_reducible refine Kd.C_drew ?_))); (case side2 => exact HC110_0.out); rintro e w' ⟨rfl, ⟨nd, rfl⟩⟩; refine ⟨_, rfl, ?_⟩) | (go_at_call 10; (with_reducible refine (spec_PackagistKnown.calls k1 _ _ (rd_L1 l0 x7_1) true _ ?side1 ?side2 A7.out).mono ?_); (case side1 => repeat (first | exact HR110_0.out | (with_reducible refine Kd.C_alloc ?_ _) | (with_reducible refine Kd.C_drewN ?_ _) | (with_reducible refine Kd.C_drew ?_))); (case side2 => exact HC110_0.out); rintro e w' ⟨rfl, ⟨nd, rfl⟩⟩))
                go_roundg k1
                case measure => have := HK1.out; omega
                case rel => exact ⟨(wrap64 (x7_1 + 1)), (by first | rfl | (simp; done) | (simp [*]; done)), H', ⟨by have := HK1.out; omega⟩, by repeat (first | exact Drawn0.refl _ | apply Drawn0.step)⟩
              · replace c8 := Bool.eq_false_iff.mpr c8
                subst c8
                have H1 : (some false) = some r := by rw [if_neg (show ¬ (false = true) by decide)] at H; exact H
                clear H
                have H := H1
                clear H1
                obtain rfl := Option.some.inj H
                have p110 : 0 ≤ (x7_1 : Int) := of_decide_eq_true (by first | (with_reducible assumption) | assumption)
                have q110 : x7_1 < (l0.length : Int) := of_decide_eq_true (by first | (with_reducible assumption) | assumption)
                obtain ⟨ad110, A110_0, c110_0, e110, hx110_0, hl110_0, hi110_0⟩ := at_L1 HR0.out x7_1 p110 q110
                cases e110
                have HR110_0 := Aside0.mk hi110_0
                have HC110_0 := Aside0.mk hl110_0
                clear hi110_0 hl110_0
                replace p110 := eq_true p110
                replace q110 := eq_true q110
                go_wp2_with (first | ((with_reducible refine gate_callee (f := 9) rfl ?_); refine goesL_ (some 12) rfl rfl Tryd.func9 (by kernel_rfl) rfl #[.slice A110_0 (rd_L1 l0 x7_1).length c110_0] rfl (by (try simp only [List.map_toArray, List.map_cons, List.map_nil]); first | done | rfl | (simp only [List.length_drop, List.length_take]; rfl)) ?_; (with_reducible refine (laws_short.calls k1 _ _ (rd_L1 l0 x7_1) true _ ?side1 ?side2 A5.out).mono ?_); (case side1 => repeat (first | exact HR110_0.out | (with_reducible refine Kd.C_alloc ?_ _) | (with_reducible refine Kd.C_drewN ?_ _) | (with_reducible refine Kd.C_drew ?_))); (case side2 => exact HC110_0.out); rintro e w' ⟨rfl, ⟨nd, rfl⟩⟩; refine ⟨_, rfl, ?_⟩) | (go_at_call 10; (with_reducible refine (spec_PackagistKnown.calls k1 _ _ (rd_L1 l0 x7_1) false _ ?side1 ?side2 A7.out).mono ?_); (case side1 => repeat (first | exact HR110_0.out | (with_reducible refine Kd.C_alloc ?_ _) | (with_reducible refine Kd.C_drewN ?_ _) | (with_reducible refine Kd.C_drew ?_))); (case side2 => exact HC110_0.out); rintro e w' ⟨rfl, ⟨nd, rfl⟩⟩))
                go_ret
                exact ⟨by first | rfl | (simp; done) | (simp [*]; done), by repeat (first | exact Drawn0.refl _ | apply Drawn0.step)⟩
            · replace c6 := Bool.eq_false_iff.mpr c6
              subst c6
              have H1 : (some false) = some r := by rw [if_neg (show ¬ (false = true) by decide)] at H; exact H
              clear H
              have H := H1
              clear H1
              obtain rfl := Option.some.inj H
              have p110 : 0 ≤ (x7_1 : Int) := of_decide_eq_true (by first | (with_reducible assumption) | assumption)
              have q110 : x7_1 < (l0.length : Int) := of_decide_eq_true (by first | (with_reducible assumption) | assumption)
              obtain ⟨ad110, A110_0, c110_0, e110, hx110_0, hl110_0, hi110_0⟩ := at_L1 HR0.out x7_1 p110 q110
              cases e110
              have HR110_0 := Aside0.mk hi110_0
              have HC110_0 := Aside0.mk hl110_0
              clear hi110_0 hl110_0
              replace p110 := eq_true p110
              replace q110 := eq_true q110
              go_wp2_with (first | ((with_reducible refine gate_callee (f := 9) rfl ?_); refine goesL_ (some 12) rfl rfl Tryd.func9 (by kernel_rfl) rfl #[.slice A110_0 (rd_L1 l0 x7_1).length c110_0] rfl (by (try simp only [List.map_toArray, List.map_cons, List.map_nil]); first | done | rfl | (simp only [List.length_drop, List.length_take]; rfl)) ?_; (with_reducible refine (laws_short.calls k1 _ _ (rd_L1 l0 x7_1) false _ ?side1 ?side2 A5.out).mono ?_); (case side1 => repeat (first | exact HR110_0.out | (with_reducible refine Kd.C_alloc ?_ _) | (with_reducible refine Kd.C_drewN ?_ _) | (with_reducible refine Kd.C_drew ?_))); (case side2 => exact HC110_0.out); rintro e w' ⟨rfl, ⟨nd, rfl⟩⟩; refine ⟨_, rfl, ?_⟩))
              go_ret
              exact ⟨by first | rfl | (simp; done) | (simp [*]; done), by repeat (first | exact Drawn0.refl _ | apply Drawn0.step)⟩
          · rw [if_neg c4] at H
            exact absurd H (by simp)
        · rw [if_neg c3] at H
          exact absurd H (by simp)
      · rw [if_neg c2] at H
        have c2b0 : decide (x7_1 < (l0.length : Int)) = false := decide_eq_false c2
        clear c2
        obtain rfl := Option.some.inj H
        go_wp2
        go_ret
        exact ⟨by first | rfl | (simp; done) | (simp [*]; done), by repeat (first | exact Drawn0.refl _ | apply Drawn0.step)⟩

/-! ### bigall_nat_cmp: function 27 -/
mutual
def bigall_nat_cmp.j0 : Nat → List Int → List Int → Int → Int → Int → Bool → Option (Int)
  | 0, _, _, _, _, _, _ => none
  | k + 1, x0, x1, x4, x5, x6, x18 => if x18 = true then (if x5 < x6 then (some (-1)) else (if x5 > x6 then (some 1) else (some x4))) else (bigall_nat_cmp.l0 k x0 x1 x4 (wrap64 (x5 - 1)))
def bigall_nat_cmp.j2 : Nat → List Int → List Int → Int → Int → Option (Int)
  | 0, _, _, _, _ => none
  | k + 1, x0, x1, x4, x7 => if 0 ≤ x7 then (if x7 < (x0.length : Int) then (if x7 < (x1.length : Int) then (if (rd x0 x7) < (rd x1 x7) then (some (-1)) else (if (rd x0 x7) > (rd x1 x7) then (some 1) else (some x4))) else (none)) else (none)) else (none)
def bigall_nat_cmp.l0 : Nat → List Int → List Int → Int → Int → Option (Int)
  | 0, _, _, _, _ => none
  | k + 1, x0, x1, x4, x7 => if x7 > 0 then (if 0 ≤ x7 then (if x7 < (x0.length : Int) then (if x7 < (x1.length : Int) then (if (rd x0 x7) = (rd x1 x7) then (bigall_nat_cmp.l0 k x0 x1 x4 (wrap64 (x7 - 1))) else (bigall_nat_cmp.j2 k x0 x1 x4 x7)) else (none)) else (none)) else (none)) else (bigall_nat_cmp.j2 k x0 x1 x4 x7)
end
def bigall_nat_cmp.f (k : Nat) (l0 : List Int) (l1 : List Int) : Option (Int) := if (l0.length : Int) = (l1.length : Int) then (bigall_nat_cmp.j0 k l0 l1 0 (l0.length : Int) (l1.length : Int) ((l0.length : Int) == 0)) else (bigall_nat_cmp.j0 k l0 l1 0 (l0.length : Int) (l1.length : Int) true)
theorem bigall_nat_cmp.mono_l : ∀ k, (∀ y0 y1 y2 y3 y4 y5, LeO (bigall_nat_cmp.j0 k y0 y1 y2 y3 y4 y5) (bigall_nat_cmp.j0 (k + 1) y0 y1 y2 y3 y4 y5)) ∧ (∀ y0 y1 y2 y3, LeO (bigall_nat_cmp.j2 k y0 y1 y2 y3) (bigall_nat_cmp.j2 (k + 1) y0 y1 y2 y3)) ∧ (∀ y0 y1 y2 y3, LeO (bigall_nat_cmp.l0 k y0 y1 y2 y3) (bigall_nat_cmp.l0 (k + 1) y0 y1 y2 y3))
  | 0 => ⟨fun _ _ _ _ _ _ r h => by simp [bigall_nat_cmp.j0] at h, fun _ _ _ _ r h => by simp [bigall_nat_cmp.j2] at h, fun _ _ _ _ r h => by simp [bigall_nat_cmp.l0] at h⟩
  | k + 1 => by
    obtain ⟨ih0, ih1, ih2⟩ := bigall_nat_cmp.mono_l k
    refine ⟨?_, ?_, ?_⟩
    · intro y0 y1 y2 y3 y4 y5
      unfold bigall_nat_cmp.j0
      repeat' first
      | (with_reducible exact ih0 _ _ _ _ _ _)
      | (with_reducible exact ih1 _ _ _ _)
      | (with_reducible exact ih2 _ _ _ _)
      | (with_reducible exact LeO.refl _)
      | (with_reducible exact LeO.none _)
      | (with_reducible refine LeO.ite ?_ ?_)
      | (with_reducible refine LeO.bind ?_ (fun _ => ?_))
      | exact ih0 _ _ _ _ _ _
      | exact ih1 _ _ _ _
      | exact ih2 _ _ _ _
      | exact LeO.none _
      | refine LeO.ite ?_ ?_
      | refine LeO.bind ?_ (fun _ => ?_)
    · intro y0 y1 y2 y3
      unfold bigall_nat_cmp.j2
      repeat' first
      | (with_reducible exact ih0 _ _ _ _ _ _)
      | (with_reducible exact ih1 _ _ _ _)
      | (with_reducible exact ih2 _ _ _ _)
      | (with_reducible exact LeO.refl _)
      | (with_reducible exact LeO.none _)
      | (with_reducible refine LeO.ite ?_ ?_)
      | (with_reducible refine LeO.bind ?_ (fun _ => ?_))
      | exact ih0 _ _ _ _ _ _
      | exact ih1 _ _ _ _
      | exact ih2 _ _ _ _
      | exact LeO.none _
      | refine LeO.ite ?_ ?_
      | refine LeO.bind ?_ (fun _ => ?_)
    · intro y0 y1 y2 y3
      unfold bigall_nat_cmp.l0
      repeat' first
      | (with_reducible exact ih0 _ _ _ _ _ _)
      | (with_reducible exact ih1 _ _ _ _)
      | (with_reducible exact ih2 _ _ _ _)
      | (with_reducible exact LeO.refl _)
      | (with_reducible exact LeO.none _)
      | (with_reducible refine LeO.ite ?_ ?_)
      | (with_reducible refine LeO.bind ?_ (fun _ => ?_))
      | exact ih0 _ _ _ _ _ _
      | exact ih1 _ _ _ _
      | exact ih2 _ _ _ _
      | exact LeO.none _
      | refine LeO.ite ?_ ?_
      | refine LeO.bind ?_ (fun _ => ?_)
theorem bigall_nat_cmp.mono : ∀ a0 a1 k, LeO (bigall_nat_cmp.f k a0 a1) (bigall_nat_cmp.f (k + 1) a0 a1) := by
  intro a0 a1 k
  obtain ⟨ih0, ih1, ih2⟩ := bigall_nat_cmp.mono_l k
  unfold bigall_nat_cmp.f
  repeat' first
      | (with_reducible exact ih0 _ _ _ _ _ _)
      | (with_reducible exact ih1 _ _ _ _)
      | (with_reducible exact ih2 _ _ _ _)
      | (with_reducible exact LeO.refl _)
      | (with_reducible exact LeO.none _)
      | (with_reducible refine LeO.ite ?_ ?_)
      | (with_reducible refine LeO.bind ?_ (fun _ => ?_))
      | exact ih0 _ _ _ _ _ _
      | exact ih1 _ _ _ _
      | exact ih2 _ _ _ _
      | exact LeO.none _
      | refine LeO.ite ?_ ?_
      | refine LeO.bind ?_ (fun _ => ?_)
set_option maxHeartbeats 8000000 in
set_option maxRecDepth 100000 in
theorem bigall_nat_cmp.calls (k : Nat) (A0 : Option Addr) (c0 : Nat) (l0 : List Int) (A1 : Option Addr) (c1 : Nat) (l1 : List Int) (r : Int) (w : World) (hr0 : Kd.C (Kd.int .u64) w A0 l0.length l0) (hc0 : l0.length ≤ c0) (hr1 : Kd.C (Kd.int .u64) w A1 l1.length l1) (hc1 : l1.length ≤ c1) (h : bigall_nat_cmp.f k l0 l1 = some r) :
    Calls Tryd.prog 27 #[.slice A0 l0.length c0, .slice A1 l1.length c1] w fun e w' => e = .returned (.int .i64 r) ∧ Drawn0 w w' := by
  have HR0 := Aside0.mk hr0
  have HC0 := Aside0.mk hc0
  clear hr0 hc0
  have HR1 := Aside0.mk hr1
  have HC1 := Aside0.mk hc1
  clear hr1 hc1
  have H : (if (l0.length : Int) = (l1.length : Int) then (bigall_nat_cmp.j0 k l0 l1 0 (l0.length : Int) (l1.length : Int) ((l0.length : Int) == 0)) else (bigall_nat_cmp.j0 k l0 l1 0 (l0.length : Int) (l1.length : Int) true)) = some r := h
  clear h
  have HC3 := Aside0.mk H
  clear H
  go_enter Tryd.func27, Tryd.ntmps27
  go_upto_region 3 with (fail)
  repeat (go_quiet (fail); go_upto_region 3 with (fail))
  go_cut [18] (fun v18 wc => ∃ (kq : Nat) (x18_2 : Bool), v18 = .bool x18_2 ∧ Aside0 (bigall_nat_cmp.j0 kq l0 l1 0 (l0.length : Int) (l1.length : Int) x18_2 = some r) ∧ Aside0 (kq ≤ k) ∧ Drawn0 w wc)
  case first =>
    have H := HC3.out
    clear HC3
    by_cases c4 : (l0.length : Int) = (l1.length : Int)
    · rw [if_pos c4] at H
      have c4b0 : ((l0.length : Int) == (l1.length : Int)) = true := beq_iff_eq.mpr c4
      have c4b1 : ((l0.length : Int) != (l1.length : Int)) = false := bne_eq_false_iff_eq.mpr c4
      have c4b2 : (l0.length == l1.length) = true := by first | simpa using c4 | (simp at c4 ⊢; omega)
      clear c4
      (first | rw [c4b0] | (simp only [i64_w, i32_w]; rw [c4b0]) | skip)
      have H' := Aside0.mk H
      clear H
      go_wp2
      repeat (go_quiet (fail); try go_wp2)
      go_meet
      case rel => exact ⟨_, (((l0.length : Int) == 0)), (by first | rfl | (simp; done) | (simp [*]; done)), H', ⟨by first | omega | exact Nat.le_refl _⟩, by repeat (first | exact Drawn0.refl _ | apply Drawn0.step)⟩
    · rw [if_neg c4] at H
      have c4b0 : ((l0.length : Int) == (l1.length : Int)) = false := beq_eq_false_iff_ne.mpr c4
      have c4b1 : ((l0.length : Int) != (l1.length : Int)) = true := bne_iff_ne.mpr c4
      have c4b2 : (l0.length == l1.length) = false := by first | simpa using c4 | (simp at c4 ⊢; omega)
      (first | rw [c4b0] | (simp only [i64_w, i32_w]; rw [c4b0]) | skip)
      have H' := Aside0.mk H
      clear H
      go_wp2
      repeat (go_quiet (fail); try go_wp2)
      go_meet
      case rel => exact ⟨_, (true), (by first | rfl | (simp; done) | (simp [*]; done)), H', ⟨by first | omega | exact Nat.le_refl _⟩, by repeat (first | exact Drawn0.refl _ | apply Drawn0.step)⟩
  case rest =>
    clear HC3
    try clear c1
    try clear c2
    try clear p2
    try clear c4
    try clear c4b0
    try clear c4b1
    try clear c4b2
    obtain ⟨kq, x18_2, rfl, HA, HJ2, ⟨mc2, rfl⟩⟩ := hcut
    cases kq with
    | zero => exact absurd HA.out (by simp [bigall_nat_cmp.j0])
    | succ kj2 =>
      have H := HA.out
      clear HA
      simp only [bigall_nat_cmp.j0] at H
      by_cases c5 : x18_2 = true
      · subst c5
        have H1 : (if (l0.length : Int) < (l1.length : Int) then (some (-1)) else (if (l0.length : Int) > (l1.length : Int) then (some 1) else (some 0))) = some r := by rw [if_pos rfl] at H; exact H
        clear H
        have H := H1
        clear H1
        by_cases c6 : (l0.length : Int) < (l1.length : Int)
        · rw [if_pos c6] at H
          have c6b0 : decide ((l0.length : Int) < (l1.length : Int)) = true := decide_eq_true c6
          have c6b1 : decide (l0.length < l1.length) = true := decide_eq_true (Int.ofNat_lt.mp c6)
          clear c6
          obtain rfl := Option.some.inj H
          go_wp2
          repeat (go_quiet (fail); try go_wp2)
          go_ret
          exact ⟨by first | rfl | (simp; done) | (simp [*]; done), by repeat (first | exact Drawn0.refl _ | apply Drawn0.step)⟩
        · rw [if_neg c6] at H
          have c6b0 : decide ((l0.length : Int) < (l1.length : Int)) = false := decide_eq_false c6
          have c6b1 : decide (l0.length < l1.length) = false := decide_eq_false (fun h => c6 (Int.ofNat_lt.mpr h))
          clear c6
          by_cases c7 : (l0.length : Int) > (l1.length : Int)
          · rw [if_pos c7] at H
            have c7b0 : decide ((l1.length : Int) < (l0.length : Int)) = true := decide_eq_true c7
            have c7b1 : decide (l1.length < l0.length) = true := decide_eq_true (Int.ofNat_lt.mp c7)
            clear c7
            obtain rfl := Option.some.inj H
            go_wp2
            repeat (go_quiet (fail); try go_wp2)
            go_ret
            exact ⟨by first | rfl | (simp; done) | (simp [*]; done), by repeat (first | exact Drawn0.refl _ | apply Drawn0.step)⟩
          · rw [if_neg c7] at H
            have c7b0 : decide ((l1.length : Int) < (l0.length : Int)) = false := decide_eq_false c7
            have c7b1 : decide (l1.length < l0.length) = false := decide_eq_false (fun h => c7 (Int.ofNat_lt.mpr h))
            clear c7
            obtain rfl := Option.some.inj H
            go_wp2
            repeat (go_quiet (fail); try go_wp2)
            go_ret
            exact ⟨by first | rfl | (simp; done) | (simp [*]; done), by repeat (first | exact Drawn0.refl _ | apply Drawn0.step)⟩
      · replace c5 := Bool.eq_false_iff.mpr c5
        subst c5
        have H1 : (bigall_nat_cmp.l0 kj2 l0 l1 0 (wrap64 ((l0.length : Int) - 1))) = some r := by rw [if_neg (show ¬ (false = true) by decide)] at H; exact H
        clear H
        have H := H1
        clear H1
        have HC8 := Aside0.mk H
        clear H
        go_upto_block 1 with (fail)
        repeat (go_quiet (fail); go_upto_block 1 with (fail))
        go_cut [7] (fun v7 wc => ∃ (kq : Nat) (x7_7 : Int), v7 = .int .i64 x7_7 ∧ Aside0 (bigall_nat_cmp.j2 kq l0 l1 0 x7_7 = some r) ∧ Aside0 (kq ≤ kj2) ∧ Drawn0 w wc)
        case first =>
          have H := HC8.out
          clear HC8
          have H' := Aside0.mk H
          clear H
          go_wp2
          repeat (go_quiet (fail); try go_wp2)
          go_loopg [7] kj2 (fun kq v7 w' => ∃ (x7_2 : Int), v7 = .int .i64 x7_2 ∧ Aside0 (bigall_nat_cmp.l0 kq l0 l1 0 x7_2 = some r) ∧ Aside0 (kq ≤ kj2) ∧ Drawn0 w w')
          case atStart => exact ⟨(wrap64 ((l0.length : Int) - 1)), (by first | rfl | (simp; done) | (simp [*]; done)), H', ⟨Nat.le_refl _⟩, by repeat (first | exact Drawn0.refl _ | apply Drawn0.step)⟩
          case round =>
            clear H'
            try clear c1
            try clear c2
            try clear p2
            try clear c4
            try clear c4b0
            try clear c4b1
            try clear c4b2
            try clear c5
            try clear c6
            try clear c6b0
            try clear c6b1
            try clear p6
            try clear c7
            try clear c7b0
            try clear c7b1
            try clear p2
            obtain ⟨x7_2, rfl, HA, HK2, ⟨m2, rfl⟩⟩ := hrel
            cases gk with
            | zero => exact absurd HA.out (by simp [bigall_nat_cmp.l0])
            | succ k2 =>
              have H := HA.out
              clear HA
              simp only [bigall_nat_cmp.l0] at H
              by_cases c9 : x7_2 > 0
              · rw [if_pos c9] at H
                have c9b0 : decide (0 < x7_2) = true := decide_eq_true c9
                clear c9
                (first | rw [c9b0] | (simp only [i64_w, i32_w]; rw [c9b0]) | skip)
                by_cases c10 : 0 ≤ x7_2
                · rw [if_pos c10] at H
                  have c10b0 : decide (0 ≤ x7_2) = true := decide_eq_true c10
                  clear c10
                  by_cases c11 : x7_2 < (l0.length : Int)
                  · rw [if_pos c11] at H
                    have c11b0 : decide (x7_2 < (l0.length : Int)) = true := decide_eq_true c11
                    clear c11
                    by_cases c12 : x7_2 < (l1.length : Int)
                    · rw [if_pos c12] at H
                      have c12b0 : decide (x7_2 < (l1.length : Int)) = true := decide_eq_true c12
                      clear c12
                      by_cases c13 : (rd l0 x7_2) = (rd l1 x7_2)
                      · rw [if_pos c13] at H
                        have c13b0 : ((rd l0 x7_2) == (rd l1 x7_2)) = true := beq_iff_eq.mpr c13
                        have c13b1 : ((rd l0 x7_2) != (rd l1 x7_2)) = false := bne_eq_false_iff_eq.mpr c13
                        clear c13
                        have H' := Aside0.mk H
                        clear H
                        have p113 : 0 ≤ (x7_2 : Int) := of_decide_eq_true (by first | (with_reducible assumption) | assumption)
                        have q113 : x7_2 < (l0.length : Int) := of_decide_eq_true (by first | (with_reducible assumption) | assumption)
                        obtain ⟨ad113, e113, hx113_0⟩ := Kd.at_int HR0.out x7_2 p113 q113
                        cases e113
                        replace p113 := eq_true p113
                        replace q113 := eq_true q113
                        have p114 : 0 ≤ (x7_2 : Int) := of_decide_eq_true (by first | (with_reducible assumption) | assumption)
                        have q114 : x7_2 < (l1.length : Int) := of_decide_eq_true (by first | (with_reducible assumption) | assumption)
                        obtain ⟨ad114, e114, hx114_0⟩ := Kd.at_int HR1.out x7_2 p114 q114
                        cases e114
                        replace p114 := eq_true p114
                        replace q114 := eq_true q114
                        go_wp2
                        repeat (go_quiet (fail); try go_wp2)
                        go_roundg k2
                        case measure => have := HJ2.out; have := HK2.out; omega
                        case rel => exact ⟨(wrap64 (x7_2 - 1)), (by first | rfl | (simp; done) | (simp [*]; done)), H', ⟨by have := HJ2.out; have := HK2.out; omega⟩, by repeat (first | exact Drawn0.refl _ | apply Drawn0.step)⟩
                      · rw [if_neg c13] at H
                        have c13b0 : ((rd l0 x7_2) == (rd l1 x7_2)) = false := beq_eq_false_iff_ne.mpr c13
                        have c13b1 : ((rd l0 x7_2) != (rd l1 x7_2)) = true := bne_iff_ne.mpr c13
                        have H' := Aside0.mk H
                        clear H
                        have p113 : 0 ≤ (x7_2 : Int) := of_decide_eq_true (by first | (with_reducible assumption) | assumption)
                        have q113 : x7_2 < (l0.length : Int) := of_decide_eq_true (by first | (with_reducible assumption) | assumption)
                        obtain ⟨ad113, e113, hx113_0⟩ := Kd.at_int HR0.out x7_2 p113 q113
                        cases e113
                        replace p113 := eq_true p113
                        replace q113 := eq_true q113
                        have p114 : 0 ≤ (x7_2 : Int) := of_decide_eq_true (by first | (with_reducible assumption) | assumption)
                        have q114 : x7_2 < (l1.length : Int) := of_decide_eq_true (by first | (with_reducible assumption) | assumption)
                        obtain ⟨ad114, e114, hx114_0⟩ := Kd.at_int HR1.out x7_2 p114 q114
                        cases e114
                        replace p114 := eq_true p114
                        replace q114 := eq_true q114
                        go_wp2
                        repeat (go_quiet (fail); try go_wp2)
                        go_meet
                        case rel => exact ⟨_, (x7_2), (by first | rfl | (simp; done) | (simp [*]; done)), H', ⟨by have := HJ2.out; have := HK2.out; first | omega | exact Nat.le_refl _⟩, by repeat (first | exact Drawn0.refl _ | apply Drawn0.step)⟩
                    · rw [if_neg c12] at H
                      exact absurd H (by simp)
                  · rw [if_neg c11] at H
                    exact absurd H (by simp)
                · rw [if_neg c10] at H
                  exact absurd H (by simp)
              · rw [if_neg c9] at H
                have c9b0 : decide (0 < x7_2) = false := decide_eq_false c9
                clear c9
                (first | rw [c9b0] | (simp only [i64_w, i32_w]; rw [c9b0]) | skip)
                have H' := Aside0.mk H
                clear H
                go_wp2
                repeat (go_quiet (fail); try go_wp2)
                go_meet
                case rel => exact ⟨_, (x7_2), (by first | rfl | (simp; done) | (simp [*]; done)), H', ⟨by have := HJ2.out; have := HK2.out; first | omega | exact Nat.le_refl _⟩, by repeat (first | exact Drawn0.refl _ | apply Drawn0.step)⟩
        case rest =>
          clear HC8
          try clear c1
          try clear p1
          try clear q1
          try clear hx1
          try clear c2
          try clear p2
          try clear c4
          try clear c4b0
          try clear c4b1
          try clear c4b2
          try clear c5
          try clear c6
          try clear c6b0
          try clear c6b1
          try clear p6
          try clear c7
          try clear c7b0
          try clear c7b1
          try clear c9
          try clear c9b0
          try clear c10
          try clear c10b0
          try clear c11
          try clear c11b0
          try clear p11
          try clear q11
          try clear hx11
          try clear c12
          try clear c12b0
          try clear c13
          try clear c13b0
          try clear c13b1
          try clear hx113_0
          try clear hx114_0
          try clear p113
          try clear p114
          try clear p2
          try clear p6
          try clear q113
          try clear q114
          obtain ⟨kq, x7_7, rfl, HA, HJ7, ⟨mc7, rfl⟩⟩ := hcut
          cases kq with
          | zero => exact absurd HA.out (by simp [bigall_nat_cmp.j2])
          | succ kj7 =>
            have H := HA.out
            clear HA
            simp only [bigall_nat_cmp.j2] at H
            by_cases c14 : 0 ≤ x7_7
            · rw [if_pos c14] at H
              have c14b0 : decide (0 ≤ x7_7) = true := decide_eq_true c14
              clear c14
              by_cases c15 : x7_7 < (l0.length : Int)
              · rw [if_pos c15] at H
                have c15b0 : decide (x7_7 < (l0.length : Int)) = true := decide_eq_true c15
                clear c15
                by_cases c16 : x7_7 < (l1.length : Int)
                · rw [if_pos c16] at H
                  have c16b0 : decide (x7_7 < (l1.length : Int)) = true := decide_eq_true c16
                  clear c16
                  by_cases c17 : (rd l0 x7_7) < (rd l1 x7_7)
                  · rw [if_pos c17] at H
                    have c17b0 : decide ((rd l0 x7_7) < (rd l1 x7_7)) = true := decide_eq_true c17
                    clear c17
                    obtain rfl := Option.some.inj H
                    have p115 : 0 ≤ (x7_7 : Int) := of_decide_eq_true (by first | (with_reducible assumption) | assumption)
                    have q115 : x7_7 < (l0.length : Int) := of_decide_eq_true (by first | (with_reducible assumption) | assumption)
                    obtain ⟨ad115, e115, hx115_0⟩ := Kd.at_int HR0.out x7_7 p115 q115
                    cases e115
                    replace p115 := eq_true p115
                    replace q115 := eq_true q115
                    have p116 : 0 ≤ (x7_7 : Int) := of_decide_eq_true (by first | (with_reducible assumption) | assumption)
                    have q116 : x7_7 < (l1.length : Int) := of_decide_eq_true (by first | (with_reducible assumption) | assumption)
                    obtain ⟨ad116, e116, hx116_0⟩ := Kd.at_int HR1.out x7_7 p116 q116
                    cases e116
                    replace p116 := eq_true p116
                    replace q116 := eq_true q116
                    go_wp2
                    repeat (go_quiet (fail); try go_wp2)
                    go_ret
                    exact ⟨by first | rfl | (simp; done) | (simp [*]; done), by repeat (first | exact Drawn0.refl _ | apply Drawn0.step)⟩
                  · rw [if_neg c17] at H
                    have c17b0 : decide ((rd l0 x7_7) < (rd l1 x7_7)) = false := decide_eq_false c17
                    clear c17
                    by_cases c18 : (rd l0 x7_7) > (rd l1 x7_7)
                    · rw [if_pos c18] at H
                      have c18b0 : decide ((rd l1 x7_7) < (rd l0 x7_7)) = true := decide_eq_true c18
                      clear c18
                      obtain rfl := Option.some.inj H
                      have p115 : 0 ≤ (x7_7 : Int) := of_decide_eq_true (by first | (with_reducible assumption) | assumption)
                      have q115 : x7_7 < (l0.length : Int) := of_decide_eq_true (by first | (with_reducible assumption) | assumption)
                      obtain ⟨ad115, e115, hx115_0⟩ := Kd.at_int HR0.out x7_7 p115 q115
                      cases e115
                      replace p115 := eq_true p115
                      replace q115 := eq_true q115
                      have p116 : 0 ≤ (x7_7 : Int) := of_decide_eq_true (by first | (with_reducible assumption) | assumption)
                      have q116 : x7_7 < (l1.length : Int) := of_decide_eq_true (by first | (with_reducible assumption) | assumption)
                      obtain ⟨ad116, e116, hx116_0⟩ := Kd.at_int HR1.out x7_7 p116 q116
                      cases e116
                      replace p116 := eq_true p116
                      replace q116 := eq_true q116
                      have p117 : 0 ≤ (x7_7 : Int) := of_decide_eq_true (by first | (with_reducible assumption) | assumption)
                      have q117 : x7_7 < (l0.length : Int) := of_decide_eq_true (by first | (with_reducible assumption) | assumption)
                      obtain ⟨ad117, e117, hx117_0⟩ := Kd.at_int HR0.out x7_7 p117 q117
                      obtain rfl : ad115 = ad117 := (by injection e117)
                      replace p117 := eq_true p117
                      replace q117 := eq_true q117
                      have p118 : 0 ≤ (x7_7 : Int) := of_decide_eq_true (by first | (with_reducible assumption) | assumption)
                      have q118 : x7_7 < (l1.length : Int) := of_decide_eq_true (by first | (with_reducible assumption) | assumption)
                      obtain ⟨ad118, e118, hx118_0⟩ := Kd.at_int HR1.out x7_7 p118 q118
                      obtain rfl : ad116 = ad118 := (by injection e118)
                      replace p118 := eq_true p118
                      replace q118 := eq_true q118
                      go_wp2
                      repeat (go_quiet (fail); try go_wp2)
                      go_ret
                      exact ⟨by first | rfl | (simp; done) | (simp [*]; done), by repeat (first | exact Drawn0.refl _ | apply Drawn0.step)⟩
                    · rw [if_neg c18] at H
                      have c18b0 : decide ((rd l1 x7_7) < (rd l0 x7_7)) = false := decide_eq_false c18
                      clear c18
                      obtain rfl := Option.some.inj H
                      have p115 : 0 ≤ (x7_7 : Int) := of_decide_eq_true (by first | (with_reducible assumption) | assumption)
                      have q115 : x7_7 < (l0.length : Int) := of_decide_eq_true (by first | (with_reducible assumption) | assumption)
                      obtain ⟨ad115, e115, hx115_0⟩ := Kd.at_int HR0.out x7_7 p115 q115
                      cases e115
                      replace p115 := eq_true p115
                      replace q115 := eq_true q115
                      have p116 : 0 ≤ (x7_7 : Int) := of_decide_eq_true (by first | (with_reducible assumption) | assumption)
                      have q116 : x7_7 < (l1.length : Int) := of_decide_eq_true (by first | (with_reducible assumption) | assumption)
                      obtain ⟨ad116, e116, hx116_0⟩ := Kd.at_int HR1.out x7_7 p116 q116
                      cases e116
                      replace p116 := eq_true p116
                      replace q116 := eq_true q116
                      have p117 : 0 ≤ (x7_7 : Int) := of_decide_eq_true (by first | (with_reducible assumption) | assumption)
                      have q117 : x7_7 < (l0.length : Int) := of_decide_eq_true (by first | (with_reducible assumption) | assumption)
                      obtain ⟨ad117, e117, hx117_0⟩ := Kd.at_int HR0.out x7_7 p117 q117
                      obtain rfl : ad115 = ad117 := (by injection e117)
                      replace p117 := eq_true p117
                      replace q117 := eq_true q117
                      have p118 : 0 ≤ (x7_7 : Int) := of_decide_eq_true (by first | (with_reducible assumption) | assumption)
                      have q118 : x7_7 < (l1.length : Int) := of_decide_eq_true (by first | (with_reducible assumption) | assumption)
                      obtain ⟨ad118, e118, hx118_0⟩ := Kd.at_int HR1.out x7_7 p118 q118
                      obtain rfl : ad116 = ad118 := (by injection e118)
                      replace p118 := eq_true p118
                      replace q118 := eq_true q118
                      go_wp2
                      repeat (go_quiet (fail); try go_wp2)
                      go_ret
                      exact ⟨by first | rfl | (simp; done) | (simp [*]; done), by repeat (first | exact Drawn0.refl _ | apply Drawn0.step)⟩
                · rw [if_neg c16] at H
                  exact absurd H (by simp)
              · rw [if_neg c15] at H
                exact absurd H (by simp)
            · rw [if_neg c14] at H
              exact absurd H (by simp)

end Go.Proofs.YtifneobfjadnkaaDoor.Z
