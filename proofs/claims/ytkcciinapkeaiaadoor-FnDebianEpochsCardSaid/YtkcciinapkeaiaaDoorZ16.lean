-- Written by a program of this session (myprint.py).
import Derived.Test.YtkcciinapkeaiaaDoorZ0
import Derived.Test.YtkcciinapkeaiaaDoorZ1
import Derived.Test.YtkcciinapkeaiaaDoorZ15
import Derived.Test.YtkcciinapkeaiaaDoorGe
namespace Go.Proofs.YtkcciinapkeaiaaDoor.Z
open Go.Proofs.YtkcciinapkeaiaaDoor.Gw
open Go.RowKit Go.Proofs.YtkcciinapkeaiaaDoorW.PrintWords Go.Proofs.YtkcciinapkeaiaaDoorW.PrintLast Go.Proofs.YtkcciinapkeaiaaDoorW.PrintMore
attribute [local go_sem high] Go.Proofs.YtkcciinapkeaiaaDoor.Ge.gtr_str
attribute [local go_sem] max2_int min2_int max_two min_two max_three min_three max_four min_four   -- for this text's walks alone
set_option linter.unusedVariables false
set_option linter.unusedSimpArgs false

/-! ### spec_lastOf: function 48 -/
def spec_lastOf.l0 : Nat → ByteArray → Int → Int → Int → Option (Int)
 | 0, _, _, _, _ => none
 | k + 1, x0, x1, x5, x6 => if x6 < (x0.size : Int) then (if 0 ≤ x6 then (if (bt x0 x6) = x1 then (spec_lastOf.l0 k x0 x1 x6 (wrap64 (x6 + 1))) else (spec_lastOf.l0 k x0 x1 x5 (wrap64 (x6 + 1)))) else (none)) else (some x5)
def spec_lastOf.f (k : Nat) (a0 : ByteArray) (a1 : Int) : Option (Int) := spec_lastOf.l0 k a0 a1 (-1) 0
theorem spec_lastOf.mono_l : ∀ k, (∀ y0 y1 y2 y3, LeO (spec_lastOf.l0 k y0 y1 y2 y3) (spec_lastOf.l0 (k + 1) y0 y1 y2 y3))
 | 0 => fun _ _ _ _ r h => by simp [spec_lastOf.l0] at h
 | k + 1 => by
  have ih0 := spec_lastOf.mono_l k
  ·intro y0 y1 y2 y3
   unfold spec_lastOf.l0
   repeat' first
   | (with_reducible exact ih0 _ _ _ _)
   | (with_reducible exact LeO.refl _)
   | (with_reducible exact LeO.none _)
   | (with_reducible refine LeO.ite ?_ ?_)
   | (with_reducible refine LeO.bind ?_ (fun _ => ?_))
   | exact ih0 _ _ _ _
   | exact LeO.none _
   | refine LeO.ite ?_ ?_
   | refine LeO.bind ?_ (fun _ => ?_)
theorem spec_lastOf.mono : ∀ a0 a1 k, LeO (spec_lastOf.f k a0 a1) (spec_lastOf.f (k + 1) a0 a1) := by
 intro a0 a1 k
 have ih0 := spec_lastOf.mono_l k
 unfold spec_lastOf.f
 repeat' first
   | (with_reducible exact ih0 _ _ _ _)
   | (with_reducible exact LeO.refl _)
   | (with_reducible exact LeO.none _)
   | (with_reducible refine LeO.ite ?_ ?_)
   | (with_reducible refine LeO.bind ?_ (fun _ => ?_))
   | exact ih0 _ _ _ _
   | exact LeO.none _
   | refine LeO.ite ?_ ?_
   | refine LeO.bind ?_ (fun _ => ?_)
set_option maxHeartbeats 8000000 in
set_option maxRecDepth 100000 in
theorem spec_lastOf.calls (k : Nat) (a0 : ByteArray) (a1 : Int) (r : Int) (w : World) (h : spec_lastOf.f k a0 a1 = some r) :
  Calls Tryd.prog 48 #[.string a0, .int .u8 a1] w fun e w' => e = .returned (.int .i64 r) ∧ Drawn0 w w' := by
 have H : (spec_lastOf.l0 k a0 a1 (-1) 0) = some r := h
 clear h
 have H' := Aside0.mk H
 clear H
 go_enter Tryd.func48, Tryd.ntmps48
 go_wp2
 go_loopg [5, 6] k (fun kq v5 v6 w' => ∃ (x5_1 : Int) (x6_1 : Int), v5 = .int .i64 x5_1 ∧ v6 = .int .i64 x6_1 ∧ Aside0 (spec_lastOf.l0 kq a0 a1 x5_1 x6_1 = some r) ∧ Aside0 (kq ≤ k) ∧ Drawn0 w w')
 case atStart => exact ⟨((-1)), (0), (by first | rfl | (simp; done) | (simp [*]; done)), (by first | rfl | (simp; done) | (simp [*]; done)), H', ⟨Nat.le_refl _⟩, by repeat (first | exact Drawn0.refl _ | apply Drawn0.step)⟩
 case round =>
  clear H'
  try clear p2
  obtain ⟨x5_1, x6_1, rfl, rfl, HA, HK1, ⟨m1, rfl⟩⟩ := hrel
  cases gk with
  | zero => exact absurd HA.out (by simp [spec_lastOf.l0])
  | succ k1 =>
   have H := HA.out
   clear HA
   simp only [spec_lastOf.l0] at H
   by_cases c3 : x6_1 < (a0.size : Int)
   ·rw [if_pos c3] at H
    have c3b0 : decide (x6_1 < (a0.size : Int)) = true := decide_eq_true c3
    clear c3
    by_cases c4 : 0 ≤ x6_1
    ·rw [if_pos c4] at H
     have c4b0 : decide (0 ≤ x6_1) = true := decide_eq_true c4
     clear c4
     by_cases c6 : (bt a0 x6_1) = a1
     ·rw [if_pos c6] at H
      have c6b0 : ((bt a0 x6_1) == a1) = true := beq_iff_eq.mpr c6
      have c6b1 : ((bt a0 x6_1) != a1) = false := bne_eq_false_iff_eq.mpr c6
      clear c6
      have H' := Aside0.mk H
      clear H
      have p5 : 0 ≤ (x6_1 : Int) := of_decide_eq_true (by first | (with_reducible assumption) | assumption)
      have q5 : x6_1 < (a0.size : Int) := of_decide_eq_true (by first | (with_reducible assumption) | assumption)
      have hx5 := bt_at a0 x6_1
      replace p5 := eq_true p5
      replace q5 := eq_true q5
      go_wp2
      go_roundg k1
      case measure => have := HK1.out; omega
      case rel => exact ⟨(x6_1), (wrap64 (x6_1 + 1)), (by first | rfl | (simp; done) | (simp [*]; done)), (by first | rfl | (simp; done) | (simp [*]; done)), H', ⟨by have := HK1.out; omega⟩, by repeat (first | exact Drawn0.refl _ | apply Drawn0.step)⟩
     ·rw [if_neg c6] at H
      have c6b0 : ((bt a0 x6_1) == a1) = false := beq_eq_false_iff_ne.mpr c6
      have c6b1 : ((bt a0 x6_1) != a1) = true := bne_iff_ne.mpr c6
      have H' := Aside0.mk H
      clear H
      have p5 : 0 ≤ (x6_1 : Int) := of_decide_eq_true (by first | (with_reducible assumption) | assumption)
      have q5 : x6_1 < (a0.size : Int) := of_decide_eq_true (by first | (with_reducible assumption) | assumption)
      have hx5 := bt_at a0 x6_1
      replace p5 := eq_true p5
      replace q5 := eq_true q5
      go_wp2
      go_roundg k1
      case measure => have := HK1.out; omega
      case rel => exact ⟨(x5_1), (wrap64 (x6_1 + 1)), (by first | rfl | (simp; done) | (simp [*]; done)), (by first | rfl | (simp; done) | (simp [*]; done)), H', ⟨by have := HK1.out; omega⟩, by repeat (first | exact Drawn0.refl _ | apply Drawn0.step)⟩
    ·rw [if_neg c4] at H
     exact absurd H (by simp)
   ·rw [if_neg c3] at H
    have c3b0 : decide (x6_1 < (a0.size : Int)) = false := decide_eq_false c3
    clear c3
    obtain rfl := Option.some.inj H
    go_wp2
    go_ret
    exact ⟨by first | rfl | (simp; done) | (simp [*]; done), by repeat (first | exact Drawn0.refl _ | apply Drawn0.step)⟩

/-! ### spec_DebianParse: function 32 -/
def spec_DebianParse.f (k : Nat) (a0 : ByteArray) : Option (Bool × ByteArray × ByteArray × ByteArray × Bool) := (spec_debTrim.f k a0).bind fun t189 => ((spec_indexOf.f k t189 58).bind fun t190 => (if t190 ≥ 0 then (if 0 ≤ t190 then (if t190 ≤ (t189.size : Int) then ((spec_Number.f k (t189.extract 0 (t190 : Int).toNat)).bind fun bt191 => (if bt191.2.2 = true then (if 0 ≤ (wrap64 (t190 + 1)) then (if (wrap64 (t190 + 1)) ≤ (t189.size : Int) then ((spec_lastOf.f k (t189.extract ((wrap64 (t190 + 1)) : Int).toNat t189.size) 45).bind fun t194 => (if t194 ≥ 0 then (if 0 ≤ t194 then (if t194 ≤ ((t189.size - ((wrap64 (t190 + 1)) : Int).toNat : Nat) : Int) then (if 0 ≤ (wrap64 (t194 + 1)) then (if (wrap64 (t194 + 1)) ≤ ((t189.size - ((wrap64 (t190 + 1)) : Int).toNat : Nat) : Int) then (some (bt191.1, bt191.2.1, (t189.extract ((wrap64 (t190 + 1)) : Int).toNat t189.size).extract 0 (t194 : Int).toNat, (t189.extract ((wrap64 (t190 + 1)) : Int).toNat t189.size).extract ((wrap64 (t194 + 1)) : Int).toNat (t189.size - ((wrap64 (t190 + 1)) : Int).toNat), true)) else (none)) else (none)) else (none)) else (none)) else (some (bt191.1, bt191.2.1, t189.extract ((wrap64 (t190 + 1)) : Int).toNat t189.size, (⟨#[48]⟩ : ByteArray), true)))) else (none)) else (none)) else (some (false, (⟨#[]⟩ : ByteArray), (⟨#[]⟩ : ByteArray), (⟨#[]⟩ : ByteArray), false)))) else (none)) else (none)) else ((spec_lastOf.f k t189 45).bind fun t195 => (if t195 ≥ 0 then (if 0 ≤ t195 then (if t195 ≤ (t189.size : Int) then (if 0 ≤ (wrap64 (t195 + 1)) then (if (wrap64 (t195 + 1)) ≤ (t189.size : Int) then (some (false, (⟨#[]⟩ : ByteArray), t189.extract 0 (t195 : Int).toNat, t189.extract ((wrap64 (t195 + 1)) : Int).toNat t189.size, true)) else (none)) else (none)) else (none)) else (none)) else (some (false, (⟨#[]⟩ : ByteArray), t189, (⟨#[48]⟩ : ByteArray), true))))))
theorem spec_DebianParse.mono : ∀ a0 k, LeO (spec_DebianParse.f k a0) (spec_DebianParse.f (k + 1) a0) := by
 intro a0 k
 unfold spec_DebianParse.f
 repeat' first
   | (with_reducible exact spec_Number.mono _ _)
   | (with_reducible exact spec_debTrim.mono _ _)
   | (with_reducible exact spec_indexOf.mono _ _ _)
   | (with_reducible exact spec_lastOf.mono _ _ _)
   | (with_reducible exact LeO.refl _)
   | (with_reducible exact LeO.none _)
   | (with_reducible refine LeO.ite ?_ ?_)
   | (with_reducible refine LeO.bind ?_ (fun _ => ?_))
   | exact spec_Number.mono _ _
   | exact spec_debTrim.mono _ _
   | exact spec_indexOf.mono _ _ _
   | exact spec_lastOf.mono _ _ _
   | exact LeO.none _
   | refine LeO.ite ?_ ?_
   | refine LeO.bind ?_ (fun _ => ?_)
def spec_DebianParse.T11 : Bool × List (List Nat × List Nat) := (true, [([], []), ([], []), ([0, 1], [0, 1]), ([], []), ([], []), ([4], [4]), ([3, 5], [3, 5]), ([0, 1, 2], []), ([7, 2, 0, 1, 2], [2, 7]), ([0, 1, 2, 3, 4, 5, 6, 7, 8], []), ([9, 6, 8, 0, 1, 2, 3, 4, 5, 6, 7, 8], [6, 9])])
def spec_DebianParse.B11 : List Nat := [0, 0, 3, 0, 0, 16, 56, 7, 135, 511, 1023]
theorem spec_DebianParse.tab11 : rtab .any (opsOf Tryd.f32 11) = spec_DebianParse.T11 := by kernel_rfl
theorem spec_DebianParse.bits11 : waitsOk spec_DebianParse.T11.2 spec_DebianParse.B11 = true := by kernel_rfl
set_option maxHeartbeats 8000000 in
set_option maxRecDepth 100000 in
theorem spec_DebianParse.calls (k : Nat) (a0 : ByteArray) (r1 : Bool) (r2 : ByteArray) (r3 : ByteArray) (r4 : ByteArray) (r5 : Bool) (w : World) (h : spec_DebianParse.f k a0 = some (r1, r2, r3, r4, r5)) :
  Calls Tryd.prog 32 #[.string a0] w fun e w' => e = .returned (.tuple #[.agg #[.bool r1, .string r2, .string r3, .string r4], .bool r5]) ∧ Below w.heap.size w w' := by
 have hu39 := Tryd.underlying39
 have hu26 := Tryd.underlying26
 have HB := Aside0.mk (Below.refl w.heap.size w)
 have H : ((spec_debTrim.f k a0).bind fun t189 => ((spec_indexOf.f k t189 58).bind fun t190 => (if t190 ≥ 0 then (if 0 ≤ t190 then (if t190 ≤ (t189.size : Int) then ((spec_Number.f k (t189.extract 0 (t190 : Int).toNat)).bind fun bt191 => (if bt191.2.2 = true then (if 0 ≤ (wrap64 (t190 + 1)) then (if (wrap64 (t190 + 1)) ≤ (t189.size : Int) then ((spec_lastOf.f k (t189.extract ((wrap64 (t190 + 1)) : Int).toNat t189.size) 45).bind fun t194 => (if t194 ≥ 0 then (if 0 ≤ t194 then (if t194 ≤ ((t189.size - ((wrap64 (t190 + 1)) : Int).toNat : Nat) : Int) then (if 0 ≤ (wrap64 (t194 + 1)) then (if (wrap64 (t194 + 1)) ≤ ((t189.size - ((wrap64 (t190 + 1)) : Int).toNat : Nat) : Int) then (some (bt191.1, bt191.2.1, (t189.extract ((wrap64 (t190 + 1)) : Int).toNat t189.size).extract 0 (t194 : Int).toNat, (t189.extract ((wrap64 (t190 + 1)) : Int).toNat t189.size).extract ((wrap64 (t194 + 1)) : Int).toNat (t189.size - ((wrap64 (t190 + 1)) : Int).toNat), true)) else (none)) else (none)) else (none)) else (none)) else (some (bt191.1, bt191.2.1, t189.extract ((wrap64 (t190 + 1)) : Int).toNat t189.size, (⟨#[48]⟩ : ByteArray), true)))) else (none)) else (none)) else (some (false, (⟨#[]⟩ : ByteArray), (⟨#[]⟩ : ByteArray), (⟨#[]⟩ : ByteArray), false)))) else (none)) else (none)) else ((spec_lastOf.f k t189 45).bind fun t195 => (if t195 ≥ 0 then (if 0 ≤ t195 then (if t195 ≤ (t189.size : Int) then (if 0 ≤ (wrap64 (t195 + 1)) then (if (wrap64 (t195 + 1)) ≤ (t189.size : Int) then (some (false, (⟨#[]⟩ : ByteArray), t189.extract 0 (t195 : Int).toNat, t189.extract ((wrap64 (t195 + 1)) : Int).toNat t189.size, true)) else (none)) else (none)) else (none)) else (none)) else (some (false, (⟨#[]⟩ : ByteArray), t189, (⟨#[48]⟩ : ByteArray), true))))))) = some (r1, r2, r3, r4, r5) := h
 clear h
 replace H := Option.bind_eq_some_iff.mp H
 obtain ⟨t189, A20, H⟩ := H
 replace H : ((spec_indexOf.f k t189 58).bind fun t190 => (if t190 ≥ 0 then (if 0 ≤ t190 then (if t190 ≤ (t189.size : Int) then ((spec_Number.f k (t189.extract 0 (t190 : Int).toNat)).bind fun bt191 => (if bt191.2.2 = true then (if 0 ≤ (wrap64 (t190 + 1)) then (if (wrap64 (t190 + 1)) ≤ (t189.size : Int) then ((spec_lastOf.f k (t189.extract ((wrap64 (t190 + 1)) : Int).toNat t189.size) 45).bind fun t194 => (if t194 ≥ 0 then (if 0 ≤ t194 then (if t194 ≤ ((t189.size - ((wrap64 (t190 + 1)) : Int).toNat : Nat) : Int) then (if 0 ≤ (wrap64 (t194 + 1)) then (if (wrap64 (t194 + 1)) ≤ ((t189.size - ((wrap64 (t190 + 1)) : Int).toNat : Nat) : Int) then (some (bt191.1, bt191.2.1, (t189.extract ((wrap64 (t190 + 1)) : Int).toNat t189.size).extract 0 (t194 : Int).toNat, (t189.extract ((wrap64 (t190 + 1)) : Int).toNat t189.size).extract ((wrap64 (t194 + 1)) : Int).toNat (t189.size - ((wrap64 (t190 + 1)) : Int).toNat), true)) else (none)) else (none)) else (none)) else (none)) else (some (bt191.1, bt191.2.1, t189.extract ((wrap64 (t190 + 1)) : Int).toNat t189.size, (⟨#[48]⟩ : ByteArray), true)))) else (none)) else (none)) else (some (false, (⟨#[]⟩ : ByteArray), (⟨#[]⟩ : ByteArray), (⟨#[]⟩ : ByteArray), false)))) else (none)) else (none)) else ((spec_lastOf.f k t189 45).bind fun t195 => (if t195 ≥ 0 then (if 0 ≤ t195 then (if t195 ≤ (t189.size : Int) then (if 0 ≤ (wrap64 (t195 + 1)) then (if (wrap64 (t195 + 1)) ≤ (t189.size : Int) then (some (false, (⟨#[]⟩ : ByteArray), t189.extract 0 (t195 : Int).toNat, t189.extract ((wrap64 (t195 + 1)) : Int).toNat t189.size, true)) else (none)) else (none)) else (none)) else (none)) else (some (false, (⟨#[]⟩ : ByteArray), t189, (⟨#[48]⟩ : ByteArray), true)))))) = some (r1, r2, r3, r4, r5) := H
 have A2 := Aside0.mk A20
 clear A20
 replace H := Option.bind_eq_some_iff.mp H
 obtain ⟨t190, A30, H⟩ := H
 replace H : (if t190 ≥ 0 then (if 0 ≤ t190 then (if t190 ≤ (t189.size : Int) then ((spec_Number.f k (t189.extract 0 (t190 : Int).toNat)).bind fun bt191 => (if bt191.2.2 = true then (if 0 ≤ (wrap64 (t190 + 1)) then (if (wrap64 (t190 + 1)) ≤ (t189.size : Int) then ((spec_lastOf.f k (t189.extract ((wrap64 (t190 + 1)) : Int).toNat t189.size) 45).bind fun t194 => (if t194 ≥ 0 then (if 0 ≤ t194 then (if t194 ≤ ((t189.size - ((wrap64 (t190 + 1)) : Int).toNat : Nat) : Int) then (if 0 ≤ (wrap64 (t194 + 1)) then (if (wrap64 (t194 + 1)) ≤ ((t189.size - ((wrap64 (t190 + 1)) : Int).toNat : Nat) : Int) then (some (bt191.1, bt191.2.1, (t189.extract ((wrap64 (t190 + 1)) : Int).toNat t189.size).extract 0 (t194 : Int).toNat, (t189.extract ((wrap64 (t190 + 1)) : Int).toNat t189.size).extract ((wrap64 (t194 + 1)) : Int).toNat (t189.size - ((wrap64 (t190 + 1)) : Int).toNat), true)) else (none)) else (none)) else (none)) else (none)) else (some (bt191.1, bt191.2.1, t189.extract ((wrap64 (t190 + 1)) : Int).toNat t189.size, (⟨#[48]⟩ : ByteArray), true)))) else (none)) else (none)) else (some (false, (⟨#[]⟩ : ByteArray), (⟨#[]⟩ : ByteArray), (⟨#[]⟩ : ByteArray), false)))) else (none)) else (none)) else ((spec_lastOf.f k t189 45).bind fun t195 => (if t195 ≥ 0 then (if 0 ≤ t195 then (if t195 ≤ (t189.size : Int) then (if 0 ≤ (wrap64 (t195 + 1)) then (if (wrap64 (t195 + 1)) ≤ (t189.size : Int) then (some (false, (⟨#[]⟩ : ByteArray), t189.extract 0 (t195 : Int).toNat, t189.extract ((wrap64 (t195 + 1)) : Int).toNat t189.size, true)) else (none)) else (none)) else (none)) else (none)) else (some (false, (⟨#[]⟩ : ByteArray), t189, (⟨#[48]⟩ : ByteArray), true))))) = some (r1, r2, r3, r4, r5) := H
 have A3 := Aside0.mk A30
 clear A30
 by_cases c4 : t190 ≥ 0
 ·rw [if_pos c4] at H
  have c4b0 : decide (0 ≤ t190) = true := decide_eq_true c4
  clear c4
  by_cases c5 : 0 ≤ t190
  ·rw [if_pos c5] at H
   have c5b0 := eq_true c5
   have c5b1 : decide (0 ≤ t190) = true := decide_eq_true c5
   clear c5
   by_cases c6 : t190 ≤ (t189.size : Int)
   ·rw [if_pos c6] at H
    have c6b0 := eq_true c6
    have c6b1 : decide (t190 ≤ (t189.size : Int)) = true := decide_eq_true c6
    clear c6
    replace H := Option.bind_eq_some_iff.mp H
    obtain ⟨⟨t191, t192, t193⟩, A70, H⟩ := H
    replace H : (if t193 = true then (if 0 ≤ (wrap64 (t190 + 1)) then (if (wrap64 (t190 + 1)) ≤ (t189.size : Int) then ((spec_lastOf.f k (t189.extract ((wrap64 (t190 + 1)) : Int).toNat t189.size) 45).bind fun t194 => (if t194 ≥ 0 then (if 0 ≤ t194 then (if t194 ≤ ((t189.size - ((wrap64 (t190 + 1)) : Int).toNat : Nat) : Int) then (if 0 ≤ (wrap64 (t194 + 1)) then (if (wrap64 (t194 + 1)) ≤ ((t189.size - ((wrap64 (t190 + 1)) : Int).toNat : Nat) : Int) then (some (t191, t192, (t189.extract ((wrap64 (t190 + 1)) : Int).toNat t189.size).extract 0 (t194 : Int).toNat, (t189.extract ((wrap64 (t190 + 1)) : Int).toNat t189.size).extract ((wrap64 (t194 + 1)) : Int).toNat (t189.size - ((wrap64 (t190 + 1)) : Int).toNat), true)) else (none)) else (none)) else (none)) else (none)) else (some (t191, t192, t189.extract ((wrap64 (t190 + 1)) : Int).toNat t189.size, (⟨#[48]⟩ : ByteArray), true)))) else (none)) else (none)) else (some (false, (⟨#[]⟩ : ByteArray), (⟨#[]⟩ : ByteArray), (⟨#[]⟩ : ByteArray), false))) = some (r1, r2, r3, r4, r5) := H
    have A7 := Aside0.mk A70
    clear A70
    by_cases c8 : t193 = true
    ·subst c8
     have H1 : (if 0 ≤ (wrap64 (t190 + 1)) then (if (wrap64 (t190 + 1)) ≤ (t189.size : Int) then ((spec_lastOf.f k (t189.extract ((wrap64 (t190 + 1)) : Int).toNat t189.size) 45).bind fun t194 => (if t194 ≥ 0 then (if 0 ≤ t194 then (if t194 ≤ ((t189.size - ((wrap64 (t190 + 1)) : Int).toNat : Nat) : Int) then (if 0 ≤ (wrap64 (t194 + 1)) then (if (wrap64 (t194 + 1)) ≤ ((t189.size - ((wrap64 (t190 + 1)) : Int).toNat : Nat) : Int) then (some (t191, t192, (t189.extract ((wrap64 (t190 + 1)) : Int).toNat t189.size).extract 0 (t194 : Int).toNat, (t189.extract ((wrap64 (t190 + 1)) : Int).toNat t189.size).extract ((wrap64 (t194 + 1)) : Int).toNat (t189.size - ((wrap64 (t190 + 1)) : Int).toNat), true)) else (none)) else (none)) else (none)) else (none)) else (some (t191, t192, t189.extract ((wrap64 (t190 + 1)) : Int).toNat t189.size, (⟨#[48]⟩ : ByteArray), true)))) else (none)) else (none)) = some (r1, r2, r3, r4, r5) := by rw [if_pos rfl] at H; exact H
     clear H
     have H := H1
     clear H1
     obtain ⟨ji9, hji9⟩ : ∃ j_ : Int, (wrap64 (t190 + 1)) = j_ := ⟨_, rfl⟩
     replace H : (if 0 ≤ (ji9) then (if (ji9) ≤ (t189.size : Int) then ((spec_lastOf.f k (t189.extract ((ji9) : Int).toNat t189.size) 45).bind fun t194 => (if t194 ≥ 0 then (if 0 ≤ t194 then (if t194 ≤ ((t189.size - ((ji9) : Int).toNat : Nat) : Int) then (if 0 ≤ (wrap64 (t194 + 1)) then (if (wrap64 (t194 + 1)) ≤ ((t189.size - ((ji9) : Int).toNat : Nat) : Int) then (some (t191, t192, (t189.extract ((ji9) : Int).toNat t189.size).extract 0 (t194 : Int).toNat, (t189.extract ((ji9) : Int).toNat t189.size).extract ((wrap64 (t194 + 1)) : Int).toNat (t189.size - ((ji9) : Int).toNat), true)) else (none)) else (none)) else (none)) else (none)) else (some (t191, t192, t189.extract ((ji9) : Int).toNat t189.size, (⟨#[48]⟩ : ByteArray), true)))) else (none)) else (none)) = some (r1, r2, r3, r4, r5) := by first | (rw [hji9] at H; exact H) | (simp only [hji9] at H ⊢; exact H)
     (try rw [hji9] at A2)
     (try rw [hji9] at A3)
     (try rw [hji9] at A7)
     have hji9w : (IntKind.i64.wrap (t190 + 1)) = ji9 := (i64_w _).trans hji9
     by_cases c10 : 0 ≤ (ji9)
     ·rw [if_pos c10] at H
      have c10b0 := eq_true c10
      have c10b1 : decide (0 ≤ (ji9)) = true := decide_eq_true c10
      clear c10
      by_cases c11 : (ji9) ≤ (t189.size : Int)
      ·rw [if_pos c11] at H
       have c11b0 := eq_true c11
       have c11b1 : decide ((ji9) ≤ (t189.size : Int)) = true := decide_eq_true c11
       clear c11
       replace H := Option.bind_eq_some_iff.mp H
       obtain ⟨t194, A120, H⟩ := H
       replace H : (if t194 ≥ 0 then (if 0 ≤ t194 then (if t194 ≤ ((t189.size - ((ji9) : Int).toNat : Nat) : Int) then (if 0 ≤ (wrap64 (t194 + 1)) then (if (wrap64 (t194 + 1)) ≤ ((t189.size - ((ji9) : Int).toNat : Nat) : Int) then (some (t191, t192, (t189.extract ((ji9) : Int).toNat t189.size).extract 0 (t194 : Int).toNat, (t189.extract ((ji9) : Int).toNat t189.size).extract ((wrap64 (t194 + 1)) : Int).toNat (t189.size - ((ji9) : Int).toNat), true)) else (none)) else (none)) else (none)) else (none)) else (some (t191, t192, t189.extract ((ji9) : Int).toNat t189.size, (⟨#[48]⟩ : ByteArray), true))) = some (r1, r2, r3, r4, r5) := H
       have A12 := Aside0.mk A120
       clear A120
       by_cases c13 : t194 ≥ 0
       ·rw [if_pos c13] at H
        have c13b0 : decide (0 ≤ t194) = true := decide_eq_true c13
        clear c13
        by_cases c14 : 0 ≤ t194
        ·rw [if_pos c14] at H
         have c14b0 := eq_true c14
         have c14b1 : decide (0 ≤ t194) = true := decide_eq_true c14
         clear c14
         by_cases c15 : t194 ≤ ((t189.size - ((ji9) : Int).toNat : Nat) : Int)
         ·rw [if_pos c15] at H
          have c15b0 := eq_true c15
          have c15b1 : decide (t194 ≤ ((t189.size - ((ji9) : Int).toNat : Nat) : Int)) = true := decide_eq_true c15
          clear c15
          obtain ⟨ji16, hji16⟩ : ∃ j_ : Int, (wrap64 (t194 + 1)) = j_ := ⟨_, rfl⟩
          replace H : (if 0 ≤ (ji16) then (if (ji16) ≤ ((t189.size - ((ji9) : Int).toNat : Nat) : Int) then (some (t191, t192, (t189.extract ((ji9) : Int).toNat t189.size).extract 0 (t194 : Int).toNat, (t189.extract ((ji9) : Int).toNat t189.size).extract ((ji16) : Int).toNat (t189.size - ((ji9) : Int).toNat), true)) else (none)) else (none)) = some (r1, r2, r3, r4, r5) := by first | (rw [hji16] at H; exact H) | (simp only [hji16] at H ⊢; exact H)
          (try rw [hji16] at A2)
          (try rw [hji16] at A3)
          (try rw [hji16] at A7)
          (try rw [hji16] at A12)
          have hji16w : (IntKind.i64.wrap (t194 + 1)) = ji16 := (i64_w _).trans hji16
          by_cases c17 : 0 ≤ (ji16)
          ·rw [if_pos c17] at H
           have c17b0 := eq_true c17
           have c17b1 : decide (0 ≤ (ji16)) = true := decide_eq_true c17
           clear c17
           by_cases c18 : (ji16) ≤ ((t189.size - ((ji9) : Int).toNat : Nat) : Int)
           ·rw [if_pos c18] at H
            have c18b0 := eq_true c18
            have c18b1 : decide ((ji16) ≤ ((t189.size - ((ji9) : Int).toNat : Nat) : Int)) = true := decide_eq_true c18
            clear c18
            simp only [Option.some.injEq, Prod.mk.injEq] at H
            obtain ⟨rfl, rfl, rfl, rfl, rfl⟩ := H
            go_enter Tryd.func32, Tryd.ntmps32
            try go_wp2_with (first | ((with_reducible refine gate_dst (N := 2) rfl ?_); refine box_event ?hg (N := 2) ?hd (cs := #[.bool false, .string (⟨#[]⟩ : ByteArray), .string (⟨#[]⟩ : ByteArray), .string (⟨#[]⟩ : ByteArray)]) (t := 39) ?hr ?_; (case hd => rfl); (case hg => rfl); (case hr => first | (go_simp; done) | (go_simp; rfl)); intro gb188 hg w19 hbox hb; have n0_ := Aside0.mk (below_step (by repeat (first | (with_reducible first | exact HB.out | apply below_alloc | apply pw_below_drewN | apply below_drew1) | exact HB.out)) hb); have n1_ := Aside0.mk (hbox); have n2_ := Aside0.mk ((by rw [hg]; exact (below_size (by repeat (first | (with_reducible first | exact HB.out | apply below_alloc | apply pw_below_drewN | apply below_drew1) | exact HB.out))) : w.heap.size ≤ gb188)); have n3_ := Aside0.mk ((by rw [hg]; exact (below_size (by repeat (first | (with_reducible first | exact HB.out | apply below_alloc | apply pw_below_drewN | apply below_drew1) | exact HB.out))) : w.heap.size ≤ gb188)); clear HB; have HB := n0_; have BK188 := n1_; have GW188 := n2_; have GE188 := n3_; clear n0_ n1_ n2_ n3_; clear hb hbox hg) | ((with_reducible refine gate_callee (f := 23) rfl ?_); refine goesL_ (some 7) rfl rfl Tryd.func23 (by kernel_rfl) rfl #[.string a0] rfl (by (try simp only [List.map_toArray, List.map_cons, List.map_nil]); first | done | rfl | (simp only [List.length_drop, List.length_take]; rfl)) ?_; (with_reducible refine (spec_debTrim.calls k a0 t189 _ A2.out).mono ?_); rintro e w' ⟨rfl, ⟨nd, rfl⟩⟩; refine ⟨_, rfl, ?_⟩; (try (rw [drewN_self w19]; generalize hq_ : World.drewN w19 _ = w19; have n0_ : Aside0 (w19.heap[gb188]? = some (.cells #[.bool false, .string (⟨#[]⟩ : ByteArray), .string (⟨#[]⟩ : ByteArray), .string (⟨#[]⟩ : ByteArray)] 39 (0, 0))) := ⟨by rw [← hq_]; exact (by (with_reducible repeat (first | refine blk_drewN ?_ _ | refine blk_drew ?_ | refine blk_alloc ?_ _)); exact BK188.out)⟩; have n1_ : Aside0 (Below w.heap.size w w19) := ⟨by rw [← hq_]; exact (by repeat (first | (with_reducible first | exact HB.out | apply below_alloc | apply pw_below_drewN | apply below_drew1 | refine below_set ?_ GE188.out) | exact HB.out))⟩; clear BK188 HB hq_; have BK188 := n0_; have HB := n1_; clear n0_ n1_))) | ((with_reducible refine gate_callee (f := 24) rfl ?_); refine goesL_ (some 9) rfl rfl Tryd.func24 (by kernel_rfl) rfl #[.string t189, .int .u8 58] rfl (by (try simp only [List.map_toArray, List.map_cons, List.map_nil]); first | done | rfl | (simp only [List.length_drop, List.length_take]; rfl)) ?_; (with_reducible refine (spec_indexOf.calls k t189 58 t190 _ A3.out).mono ?_); rintro e w' ⟨rfl, ⟨nd, rfl⟩⟩; refine ⟨_, rfl, ?_⟩; (try (rw [drewN_self w19]; generalize hq_ : World.drewN w19 _ = w19; have n0_ : Aside0 (w19.heap[gb188]? = some (.cells #[.bool false, .string (⟨#[]⟩ : ByteArray), .string (⟨#[]⟩ : ByteArray), .string (⟨#[]⟩ : ByteArray)] 39 (0, 0))) := ⟨by rw [← hq_]; exact (by (with_reducible repeat (first | refine blk_drewN ?_ _ | refine blk_drew ?_ | refine blk_alloc ?_ _)); exact BK188.out)⟩; have n1_ : Aside0 (Below w.heap.size w w19) := ⟨by rw [← hq_]; exact (by repeat (first | (with_reducible first | exact HB.out | apply below_alloc | apply pw_below_drewN | apply below_drew1 | refine below_set ?_ GE188.out) | exact HB.out))⟩; clear BK188 HB hq_; have BK188 := n0_; have HB := n1_; clear n0_ n1_))) | ((with_reducible refine gate_callee (f := 12) rfl ?_); refine goesL_ (some 16) rfl rfl Tryd.func12 (by kernel_rfl) rfl #[.string (t189.extract 0 (t190 : Int).toNat)] rfl (by (try simp only [List.map_toArray, List.map_cons, List.map_nil]); first | done | rfl | (simp only [List.length_drop, List.length_take]; rfl)) ?_; (with_reducible refine (spec_Number.calls k (t189.extract 0 (t190 : Int).toNat) t191 t192 true _ A7.out).mono ?_); rintro e w20 ⟨rfl, hb⟩; refine ⟨_, rfl, ?_⟩; have n0_ := Aside0.mk (blk_below (g := gb188) (o := .cells #[.bool false, .string (⟨#[]⟩ : ByteArray), .string (⟨#[]⟩ : ByteArray), .string (⟨#[]⟩ : ByteArray)] 39 (0, 0)) (by (with_reducible repeat (first | refine blk_drewN ?_ _ | refine blk_drew ?_ | refine blk_alloc ?_ _)); exact BK188.out) hb); have n1_ := Aside0.mk (below_step (by repeat (first | (with_reducible first | exact HB.out | apply below_alloc | apply pw_below_drewN | apply below_drew1 | refine below_set ?_ GE188.out) | exact HB.out)) hb); clear BK188; clear HB; have BK188 := n0_; have HB := n1_; clear n0_ n1_; (try clear hb); (try clear hb2); (try clear hk); (try clear hi); have hcz21_0 : w20.cell? ⟨gb188, 0, none⟩ = some (.bool false) := (blk_cell BK188.out 0).trans rfl; have hcz21_1 : w20.cell? ⟨gb188, 1, none⟩ = some (.string (⟨#[]⟩ : ByteArray)) := (blk_cell BK188.out 1).trans rfl; have hcz21_2 : w20.cell? ⟨gb188, 2, none⟩ = some (.string (⟨#[]⟩ : ByteArray)) := (blk_cell BK188.out 2).trans rfl; have hcz21_3 : w20.cell? ⟨gb188, 3, none⟩ = some (.string (⟨#[]⟩ : ByteArray)) := (blk_cell BK188.out 3).trans rfl; have hfz21_0 := blk_frozen BK188.out 0; have hfz21_1 := blk_frozen BK188.out 1; have hfz21_2 := blk_frozen BK188.out 2; have hfz21_3 := blk_frozen BK188.out 3) | ((with_reducible refine gate_callee (f := 48) rfl ?_); refine goesL_ (some 31) rfl rfl Tryd.func48 (by kernel_rfl) rfl #[.string (t189.extract ((ji9) : Int).toNat t189.size), .int .u8 45] rfl (by (try simp only [List.map_toArray, List.map_cons, List.map_nil]); first | done | (simp only [hji9]; rfl) | rfl | (simp only [List.length_drop, List.length_take]; rfl)) ?_; (with_reducible refine (spec_lastOf.calls k (t189.extract ((ji9) : Int).toNat t189.size) 45 t194 _ A12.out).mono ?_); rintro e w' ⟨rfl, ⟨nd, rfl⟩⟩; refine ⟨_, rfl, ?_⟩))
            have n0_ : Aside0 (((((w20.setCell ⟨gb188, 0, none⟩ (.bool t191)).setCell ⟨gb188, 1, none⟩ (.string t192)).setCell ⟨gb188, 2, none⟩ (.string (t189.extract ((ji9) : Int).toNat t189.size))).setCell ⟨gb188, 3, none⟩ (.string (⟨#[48]⟩ : ByteArray))).heap[gb188]? = some (.cells #[.bool t191, .string t192, .string (t189.extract ((ji9) : Int).toNat t189.size), .string (⟨#[48]⟩ : ByteArray)] 39 (0, 0))) := ⟨by (with_reducible repeat (first | refine blk_drewN ?_ _ | refine blk_drew ?_ | refine blk_alloc ?_ _)); refine blk_put (cs := #[.bool t191, .string t192, .string (t189.extract ((ji9) : Int).toNat t189.size), .string (⟨#[]⟩ : ByteArray)]) ?_ 3 _ rfl; (with_reducible repeat (first | refine blk_drewN ?_ _ | refine blk_drew ?_ | refine blk_alloc ?_ _)); refine blk_put (cs := #[.bool t191, .string t192, .string (⟨#[]⟩ : ByteArray), .string (⟨#[]⟩ : ByteArray)]) ?_ 2 _ rfl; (with_reducible repeat (first | refine blk_drewN ?_ _ | refine blk_drew ?_ | refine blk_alloc ?_ _)); refine blk_put (cs := #[.bool t191, .string (⟨#[]⟩ : ByteArray), .string (⟨#[]⟩ : ByteArray), .string (⟨#[]⟩ : ByteArray)]) ?_ 1 _ rfl; (with_reducible repeat (first | refine blk_drewN ?_ _ | refine blk_drew ?_ | refine blk_alloc ?_ _)); refine blk_put (cs := #[.bool false, .string (⟨#[]⟩ : ByteArray), .string (⟨#[]⟩ : ByteArray), .string (⟨#[]⟩ : ByteArray)]) ?_ 0 _ rfl; (with_reducible repeat (first | refine blk_drewN ?_ _ | refine blk_drew ?_ | refine blk_alloc ?_ _)); exact BK188.out⟩
            have n1_ : Aside0 (Below w.heap.size w ((((w20.setCell ⟨gb188, 0, none⟩ (.bool t191)).setCell ⟨gb188, 1, none⟩ (.string t192)).setCell ⟨gb188, 2, none⟩ (.string (t189.extract ((ji9) : Int).toNat t189.size))).setCell ⟨gb188, 3, none⟩ (.string (⟨#[48]⟩ : ByteArray)))) := ⟨by repeat (first | (with_reducible first | exact HB.out | apply below_alloc | apply pw_below_drewN | apply below_drew1 | refine below_set ?_ GE188.out) | exact HB.out)⟩
            (try clear BK188)
            (try clear HB)
            generalize ((((w20.setCell ⟨gb188, 0, none⟩ (.bool t191)).setCell ⟨gb188, 1, none⟩ (.string t192)).setCell ⟨gb188, 2, none⟩ (.string (t189.extract ((ji9) : Int).toNat t189.size))).setCell ⟨gb188, 3, none⟩ (.string (⟨#[48]⟩ : ByteArray))) = w22 at n0_ n1_ ⊢
            have BK188 := n0_
            have HB := n1_
            clear n0_ n1_
            (try (rw [drewN_self w22]; generalize hq_ : World.drewN w22 _ = w22; have n0_ : Aside0 (w22.heap[gb188]? = some (.cells #[.bool t191, .string t192, .string (t189.extract ((ji9) : Int).toNat t189.size), .string (⟨#[48]⟩ : ByteArray)] 39 (0, 0))) := ⟨by rw [← hq_]; exact (by (with_reducible repeat (first | refine blk_drewN ?_ _ | refine blk_drew ?_ | refine blk_alloc ?_ _)); exact BK188.out)⟩; have n1_ : Aside0 (Below w.heap.size w w22) := ⟨by rw [← hq_]; exact (by repeat (first | (with_reducible first | exact HB.out | apply below_alloc | apply pw_below_drewN | apply below_drew1 | refine below_set ?_ GE188.out) | exact HB.out))⟩; clear BK188 HB hq_; have BK188 := n0_; have HB := n1_; clear n0_ n1_))
            have n0_ := Aside0.mk (blk_drew BK188.out)
            have n1_ := Aside0.mk (below_drew1 HB.out)
            clear BK188
            clear HB
            have BK188 := n0_
            have HB := n1_
            clear n0_ n1_
            refine start_ (n := 11) (S := fun w' => True) (ds := []) #[false, false, false, false, false, false, false, false, false, false, false] (by kernel_rfl) rfl rfl trivial (fun hHeld => ?_); refine with_tabW spec_DebianParse.tab11 spec_DebianParse.bits11 (fun HT_ HW_ => ?_)
            generalize w22.drew = w23 at BK188 HB hHeld ⊢
            refine pure_ (i := 0) (N := some 34) (v := ?_) (a' := ?_) #[true, false, false, false, false, false, false, false, false, false, false] rfl rfl (any_of HT_.out (by kernel_rfl)) (fun _ _ _ h => h) (Or.inl ⟨by rfl, ?_⟩) ?_ ?_
            rotate_left
            ·intro w'
             go_simp
             with_reducible rfl
            rotate_left
            ·simp only [Act.put, List.setIfInBounds_toArray, List.set_cons_zero, List.set_cons_succ, i64_w, i32_w]
             rfl
            refine pure_ (i := 1) (N := some 35) (v := ?_) (a' := ?_) #[true, true, false, false, false, false, false, false, false, false, false] rfl rfl (any_of HT_.out (by kernel_rfl)) (fun _ _ _ h => h) (Or.inl ⟨by rfl, ?_⟩) ?_ ?_
            rotate_left
            ·intro w'
             go_simp
             with_reducible rfl
            rotate_left
            ·simp only [Act.put, List.setIfInBounds_toArray, List.set_cons_zero, List.set_cons_succ, i64_w, i32_w]
             rfl
            refine pure_ (i := 2) (N := some 36) (v := ?_) (a' := ?_) #[true, true, true, false, false, false, false, false, false, false, false] rfl rfl (any_of HT_.out (by kernel_rfl)) (fun _ _ _ h => h) (Or.inl ⟨by rfl, ?_⟩) ?_ ?_
            rotate_left
            ·intro w'
             go_simp
             with_reducible rfl
            rotate_left
            ·simp only [Act.put, List.setIfInBounds_toArray, List.set_cons_zero, List.set_cons_succ, i64_w, i32_w]
             rfl
            refine pure_ (i := 3) (N := some 37) (v := ?_) (a' := ?_) #[true, true, true, true, false, false, false, false, false, false, false] rfl rfl (any_of HT_.out (by kernel_rfl)) (fun _ _ _ h => h) (Or.inl ⟨by rfl, ?_⟩) ?_ ?_
            rotate_left
            ·intro w'
             go_simp
             with_reducible rfl
            rotate_left
            ·simp only [Act.put, List.setIfInBounds_toArray, List.set_cons_zero, List.set_cons_succ, i64_w, i32_w]
             rfl
            refine pure_ (i := 4) (N := some 38) (v := ?_) (a' := ?_) #[true, true, true, true, true, false, false, false, false, false, false] rfl rfl (any_of HT_.out (by kernel_rfl)) (fun _ _ _ h => h) (Or.inl ⟨by rfl, ?_⟩) ?_ ?_
            rotate_left
            ·intro w'
             go_simp
             with_reducible rfl
            rotate_left
            ·simp only [Act.put, List.setIfInBounds_toArray, List.set_cons_zero, List.set_cons_succ, i64_w, i32_w]
             rfl
            refine pure_ (i := 5) (N := some 39) (v := ?_) (a' := ?_) #[true, true, true, true, true, true, false, false, false, false, false] rfl rfl (any_of HT_.out (by kernel_rfl)) (fun _ _ _ h => h) (Or.inl ⟨by rfl, ?_⟩) ?_ ?_
            rotate_left
            ·intro w'
             go_simp
             with_reducible rfl
            rotate_left
            ·simp only [Act.put, List.setIfInBounds_toArray, List.set_cons_zero, List.set_cons_succ, i64_w, i32_w]
             rfl
            refine pure_ (i := 6) (N := some 40) (v := ?_) (a' := ?_) #[true, true, true, true, true, true, true, false, false, false, false] rfl rfl (any_of HT_.out (by kernel_rfl)) (fun _ _ _ h => h) (Or.inl ⟨by rfl, ?_⟩) ?_ ?_
            rotate_left
            ·intro w'
             go_simp
             with_reducible rfl
            rotate_left
            ·simp only [Act.put, List.setIfInBounds_toArray, List.set_cons_zero, List.set_cons_succ, i64_w, i32_w]
             rfl
            refine pure_ (i := 7) (N := some 41) (v := ?_) (a' := ?_) #[true, true, true, true, true, true, true, true, false, false, false] rfl rfl (any_of HT_.out (by kernel_rfl)) (fun _ _ _ h => h) (Or.inl ⟨by rfl, ?_⟩) ?_ ?_
            rotate_left
            ·intro w'
             go_simp
             with_reducible rfl
            rotate_left
            ·simp only [Act.put, List.setIfInBounds_toArray, List.set_cons_zero, List.set_cons_succ, i64_w, i32_w]
             rfl
            refine one_ (i := 8) (N := none) #[true, true, true, true, true, true, true, true, true, false, false] rfl rfl (one_of HT_.out (by kernel_rfl)) (by decide) (fun K hK => ?_)
            have hs24 : w23.cell? ⟨gb188, 2, none⟩ = some (.string (t189.extract ((ji9) : Int).toNat t189.size)) := (blk_cell BK188.out 2).trans rfl
            have hfs24 := blk_frozen BK188.out 2
            refine skip_ (w1 := ?_) (by rfl) rfl ?_ ?_
            rotate_left
            ·go_simp
             rfl
            refine hK.out _ _ trivial (fun hHeld => ?_)
            clear hK K
            refine pure_ (i := 9) (N := some 42) (v := ?_) (a' := ?_) #[true, true, true, true, true, true, true, true, true, true, false] rfl rfl (any_of HT_.out (by kernel_rfl)) (fun _ _ _ h => h) (Or.inl ⟨by rfl, ?_⟩) ?_ ?_
            rotate_left
            ·intro w'
             go_simp
             with_reducible rfl
            rotate_left
            ·simp only [Act.put, List.setIfInBounds_toArray, List.set_cons_zero, List.set_cons_succ, i64_w, i32_w]
             rfl
            refine one_ (i := 10) (N := none) #[true, true, true, true, true, true, true, true, true, true, true] rfl rfl (one_of HT_.out (by kernel_rfl)) (by decide) (fun K hK => ?_)
            have hs25 : w23.cell? ⟨gb188, 3, none⟩ = some (.string (⟨#[48]⟩ : ByteArray)) := (blk_cell BK188.out 3).trans rfl
            have hfs25 := blk_frozen BK188.out 3
            refine skip_ (w1 := ?_) (by rfl) rfl ?_ ?_
            rotate_left
            ·go_simp
             rfl
            refine hK.out _ _ trivial (fun hHeld => ?_)
            clear hK K
            refine done_ (done_of HT_.out (by kernel_rfl)) ?_
            have hcz26_0 : w23.cell? ⟨gb188, 0, none⟩ = some (.bool t191) := (blk_cell BK188.out 0).trans rfl
            have hcz26_1 : w23.cell? ⟨gb188, 1, none⟩ = some (.string t192) := (blk_cell BK188.out 1).trans rfl
            have hcz26_2 : w23.cell? ⟨gb188, 2, none⟩ = some (.string (t189.extract ((ji9) : Int).toNat t189.size)) := (blk_cell BK188.out 2).trans rfl
            have hcz26_3 : w23.cell? ⟨gb188, 3, none⟩ = some (.string (⟨#[48]⟩ : ByteArray)) := (blk_cell BK188.out 3).trans rfl
            have hfz26_0 := blk_frozen BK188.out 0
            have hfz26_1 := blk_frozen BK188.out 1
            have hfz26_2 := blk_frozen BK188.out 2
            have hfz26_3 := blk_frozen BK188.out 3
            try go_wp2
            refine bodyPost_ret (results_ct rfl _ _ gb188 39 #[.bool t191, .string t192, .string ((t189.extract ((ji9) : Int).toNat t189.size).extract 0 (t194 : Int).toNat), .string ((t189.extract ((ji9) : Int).toNat t189.size).extract ((ji16) : Int).toNat (t189.size - ((ji9) : Int).toNat))] (0, 0) _ rfl (by (with_reducible repeat (first | refine blk_drewN ?_ _ | refine blk_drew ?_ | refine blk_alloc ?_ _)); refine blk_put (cs := #[.bool t191, .string t192, .string ((t189.extract ((ji9) : Int).toNat t189.size).extract 0 (t194 : Int).toNat), .string ((t189.extract ((ji9) : Int).toNat t189.size).extract ((ji16) : Int).toNat (t189.size - ((ji9) : Int).toNat))]) ?_ 3 _ rfl; (with_reducible repeat (first | refine blk_drewN ?_ _ | refine blk_drew ?_ | refine blk_alloc ?_ _)); refine blk_put (cs := #[.bool t191, .string t192, .string ((t189.extract ((ji9) : Int).toNat t189.size).extract 0 (t194 : Int).toNat), .string ((t189.extract ((ji9) : Int).toNat t189.size).extract ((ji16) : Int).toNat (t189.size - ((ji9) : Int).toNat))]) ?_ 2 _ rfl; (with_reducible repeat (first | refine blk_drewN ?_ _ | refine blk_drew ?_ | refine blk_alloc ?_ _)); refine blk_put (cs := #[.bool t191, .string t192, .string ((t189.extract ((ji9) : Int).toNat t189.size).extract 0 (t194 : Int).toNat), .string ((t189.extract ((ji9) : Int).toNat t189.size).extract ((ji16) : Int).toNat (t189.size - ((ji9) : Int).toNat))]) ?_ 1 _ rfl; (with_reducible repeat (first | refine blk_drewN ?_ _ | refine blk_drew ?_ | refine blk_alloc ?_ _)); refine blk_put (cs := #[.bool t191, .string t192, .string ((t189.extract ((ji9) : Int).toNat t189.size).extract 0 (t194 : Int).toNat), .string ((t189.extract ((ji9) : Int).toNat t189.size).extract ((ji16) : Int).toNat (t189.size - ((ji9) : Int).toNat))]) ?_ 0 _ rfl; (with_reducible repeat (first | refine blk_drewN ?_ _ | refine blk_drew ?_ | refine blk_alloc ?_ _)); refine blk_put (cs := #[.bool t191, .string t192, .string ((t189.extract ((ji9) : Int).toNat t189.size).extract 0 (t194 : Int).toNat), .string (⟨#[48]⟩ : ByteArray)]) ?_ 3 _ rfl; (with_reducible repeat (first | refine blk_drewN ?_ _ | refine blk_drew ?_ | refine blk_alloc ?_ _)); refine blk_put (cs := #[.bool t191, .string t192, .string (t189.extract ((ji9) : Int).toNat t189.size), .string (⟨#[48]⟩ : ByteArray)]) ?_ 2 _ rfl; (with_reducible repeat (first | refine blk_drewN ?_ _ | refine blk_drew ?_ | refine blk_alloc ?_ _)); exact BK188.out) Tryd.underlying39 rfl (by kernel_rfl)) rfl ?_
            exact ⟨by first | rfl | (simp [errW_none, errW_some] <;> rfl) | (simp only [← hji9, ← hji16]; first | rfl | (simp [errW_none, errW_some] <;> rfl)) | (simp [*, errW_none, errW_some] <;> rfl), by repeat (first | (with_reducible first | exact HB.out | apply below_alloc | apply pw_below_drewN | apply below_drew1 | refine below_set ?_ GE188.out) | exact HB.out)⟩
           ·rw [if_neg c18] at H
            exact absurd H (by simp)
          ·rw [if_neg c17] at H
           exact absurd H (by simp)
         ·rw [if_neg c15] at H
          exact absurd H (by simp)
        ·rw [if_neg c14] at H
         exact absurd H (by simp)
       ·rw [if_neg c13] at H
        have c13b0 : decide (0 ≤ t194) = false := decide_eq_false c13
        clear c13
        simp only [Option.some.injEq, Prod.mk.injEq] at H
        obtain ⟨rfl, rfl, rfl, rfl, rfl⟩ := H
        go_enter Tryd.func32, Tryd.ntmps32
        go_wp2_with (first | ((with_reducible refine gate_dst (N := 2) rfl ?_); refine box_event ?hg (N := 2) ?hd (cs := #[.bool false, .string (⟨#[]⟩ : ByteArray), .string (⟨#[]⟩ : ByteArray), .string (⟨#[]⟩ : ByteArray)]) (t := 39) ?hr ?_; (case hd => rfl); (case hg => rfl); (case hr => first | (go_simp; done) | (go_simp; rfl)); intro gb188 hg w27 hbox hb; have n0_ := Aside0.mk (below_step (by repeat (first | (with_reducible first | exact HB.out | apply below_alloc | apply pw_below_drewN | apply below_drew1) | exact HB.out)) hb); have n1_ := Aside0.mk (hbox); have n2_ := Aside0.mk ((by rw [hg]; exact (below_size (by repeat (first | (with_reducible first | exact HB.out | apply below_alloc | apply pw_below_drewN | apply below_drew1) | exact HB.out))) : w.heap.size ≤ gb188)); have n3_ := Aside0.mk ((by rw [hg]; exact (below_size (by repeat (first | (with_reducible first | exact HB.out | apply below_alloc | apply pw_below_drewN | apply below_drew1) | exact HB.out))) : w.heap.size ≤ gb188)); clear HB; have HB := n0_; have BK188 := n1_; have GW188 := n2_; have GE188 := n3_; clear n0_ n1_ n2_ n3_; clear hb hbox hg) | ((with_reducible refine gate_callee (f := 23) rfl ?_); refine goesL_ (some 7) rfl rfl Tryd.func23 (by kernel_rfl) rfl #[.string a0] rfl (by (try simp only [List.map_toArray, List.map_cons, List.map_nil]); first | done | rfl | (simp only [List.length_drop, List.length_take]; rfl)) ?_; (with_reducible refine (spec_debTrim.calls k a0 t189 _ A2.out).mono ?_); rintro e w' ⟨rfl, ⟨nd, rfl⟩⟩; refine ⟨_, rfl, ?_⟩; (try (rw [drewN_self w27]; generalize hq_ : World.drewN w27 _ = w27; have n0_ : Aside0 (w27.heap[gb188]? = some (.cells #[.bool false, .string (⟨#[]⟩ : ByteArray), .string (⟨#[]⟩ : ByteArray), .string (⟨#[]⟩ : ByteArray)] 39 (0, 0))) := ⟨by rw [← hq_]; exact (by (with_reducible repeat (first | refine blk_drewN ?_ _ | refine blk_drew ?_ | refine blk_alloc ?_ _)); exact BK188.out)⟩; have n1_ : Aside0 (Below w.heap.size w w27) := ⟨by rw [← hq_]; exact (by repeat (first | (with_reducible first | exact HB.out | apply below_alloc | apply pw_below_drewN | apply below_drew1 | refine below_set ?_ GE188.out) | exact HB.out))⟩; clear BK188 HB hq_; have BK188 := n0_; have HB := n1_; clear n0_ n1_))) | ((with_reducible refine gate_callee (f := 24) rfl ?_); refine goesL_ (some 9) rfl rfl Tryd.func24 (by kernel_rfl) rfl #[.string t189, .int .u8 58] rfl (by (try simp only [List.map_toArray, List.map_cons, List.map_nil]); first | done | rfl | (simp only [List.length_drop, List.length_take]; rfl)) ?_; (with_reducible refine (spec_indexOf.calls k t189 58 t190 _ A3.out).mono ?_); rintro e w' ⟨rfl, ⟨nd, rfl⟩⟩; refine ⟨_, rfl, ?_⟩; (try (rw [drewN_self w27]; generalize hq_ : World.drewN w27 _ = w27; have n0_ : Aside0 (w27.heap[gb188]? = some (.cells #[.bool false, .string (⟨#[]⟩ : ByteArray), .string (⟨#[]⟩ : ByteArray), .string (⟨#[]⟩ : ByteArray)] 39 (0, 0))) := ⟨by rw [← hq_]; exact (by (with_reducible repeat (first | refine blk_drewN ?_ _ | refine blk_drew ?_ | refine blk_alloc ?_ _)); exact BK188.out)⟩; have n1_ : Aside0 (Below w.heap.size w w27) := ⟨by rw [← hq_]; exact (by repeat (first | (with_reducible first | exact HB.out | apply below_alloc | apply pw_below_drewN | apply below_drew1 | refine below_set ?_ GE188.out) | exact HB.out))⟩; clear BK188 HB hq_; have BK188 := n0_; have HB := n1_; clear n0_ n1_))) | ((with_reducible refine gate_callee (f := 12) rfl ?_); refine goesL_ (some 16) rfl rfl Tryd.func12 (by kernel_rfl) rfl #[.string (t189.extract 0 (t190 : Int).toNat)] rfl (by (try simp only [List.map_toArray, List.map_cons, List.map_nil]); first | done | rfl | (simp only [List.length_drop, List.length_take]; rfl)) ?_; (with_reducible refine (spec_Number.calls k (t189.extract 0 (t190 : Int).toNat) t191 t192 true _ A7.out).mono ?_); rintro e w28 ⟨rfl, hb⟩; refine ⟨_, rfl, ?_⟩; have n0_ := Aside0.mk (blk_below (g := gb188) (o := .cells #[.bool false, .string (⟨#[]⟩ : ByteArray), .string (⟨#[]⟩ : ByteArray), .string (⟨#[]⟩ : ByteArray)] 39 (0, 0)) (by (with_reducible repeat (first | refine blk_drewN ?_ _ | refine blk_drew ?_ | refine blk_alloc ?_ _)); exact BK188.out) hb); have n1_ := Aside0.mk (below_step (by repeat (first | (with_reducible first | exact HB.out | apply below_alloc | apply pw_below_drewN | apply below_drew1 | refine below_set ?_ GE188.out) | exact HB.out)) hb); clear BK188; clear HB; have BK188 := n0_; have HB := n1_; clear n0_ n1_; (try clear hb); (try clear hb2); (try clear hk); (try clear hi); have hcz29_0 : w28.cell? ⟨gb188, 0, none⟩ = some (.bool false) := (blk_cell BK188.out 0).trans rfl; have hcz29_1 : w28.cell? ⟨gb188, 1, none⟩ = some (.string (⟨#[]⟩ : ByteArray)) := (blk_cell BK188.out 1).trans rfl; have hcz29_2 : w28.cell? ⟨gb188, 2, none⟩ = some (.string (⟨#[]⟩ : ByteArray)) := (blk_cell BK188.out 2).trans rfl; have hcz29_3 : w28.cell? ⟨gb188, 3, none⟩ = some (.string (⟨#[]⟩ : ByteArray)) := (blk_cell BK188.out 3).trans rfl; have hfz29_0 := blk_frozen BK188.out 0; have hfz29_1 := blk_frozen BK188.out 1; have hfz29_2 := blk_frozen BK188.out 2; have hfz29_3 := blk_frozen BK188.out 3) | ((with_reducible refine gate_callee (f := 48) rfl ?_); refine goesL_ (some 31) rfl rfl Tryd.func48 (by kernel_rfl) rfl #[.string (t189.extract ((ji9) : Int).toNat t189.size), .int .u8 45] rfl (by (try simp only [List.map_toArray, List.map_cons, List.map_nil]); first | done | (simp only [hji9]; rfl) | rfl | (simp only [List.length_drop, List.length_take]; rfl)) ?_; (with_reducible refine (spec_lastOf.calls k (t189.extract ((ji9) : Int).toNat t189.size) 45 t194 _ A12.out).mono ?_); rintro e w' ⟨rfl, ⟨nd, rfl⟩⟩; refine ⟨_, rfl, ?_⟩))
        refine bodyPost_ret (results_ct rfl _ _ gb188 39 #[.bool t191, .string t192, .string (t189.extract ((ji9) : Int).toNat t189.size), .string (⟨#[48]⟩ : ByteArray)] (0, 0) _ rfl (by (with_reducible repeat (first | refine blk_drewN ?_ _ | refine blk_drew ?_ | refine blk_alloc ?_ _)); refine blk_put (cs := #[.bool t191, .string t192, .string (t189.extract ((ji9) : Int).toNat t189.size), .string (⟨#[48]⟩ : ByteArray)]) ?_ 3 _ rfl; (with_reducible repeat (first | refine blk_drewN ?_ _ | refine blk_drew ?_ | refine blk_alloc ?_ _)); refine blk_put (cs := #[.bool t191, .string t192, .string (t189.extract ((ji9) : Int).toNat t189.size), .string (⟨#[48]⟩ : ByteArray)]) ?_ 2 _ rfl; (with_reducible repeat (first | refine blk_drewN ?_ _ | refine blk_drew ?_ | refine blk_alloc ?_ _)); refine blk_put (cs := #[.bool t191, .string t192, .string (t189.extract ((ji9) : Int).toNat t189.size), .string (⟨#[48]⟩ : ByteArray)]) ?_ 1 _ rfl; (with_reducible repeat (first | refine blk_drewN ?_ _ | refine blk_drew ?_ | refine blk_alloc ?_ _)); refine blk_put (cs := #[.bool t191, .string t192, .string (t189.extract ((ji9) : Int).toNat t189.size), .string (⟨#[48]⟩ : ByteArray)]) ?_ 0 _ rfl; (with_reducible repeat (first | refine blk_drewN ?_ _ | refine blk_drew ?_ | refine blk_alloc ?_ _)); refine blk_put (cs := #[.bool t191, .string t192, .string (t189.extract ((ji9) : Int).toNat t189.size), .string (⟨#[]⟩ : ByteArray)]) ?_ 3 _ rfl; (with_reducible repeat (first | refine blk_drewN ?_ _ | refine blk_drew ?_ | refine blk_alloc ?_ _)); refine blk_put (cs := #[.bool t191, .string t192, .string (⟨#[]⟩ : ByteArray), .string (⟨#[]⟩ : ByteArray)]) ?_ 2 _ rfl; (with_reducible repeat (first | refine blk_drewN ?_ _ | refine blk_drew ?_ | refine blk_alloc ?_ _)); refine blk_put (cs := #[.bool t191, .string (⟨#[]⟩ : ByteArray), .string (⟨#[]⟩ : ByteArray), .string (⟨#[]⟩ : ByteArray)]) ?_ 1 _ rfl; (with_reducible repeat (first | refine blk_drewN ?_ _ | refine blk_drew ?_ | refine blk_alloc ?_ _)); refine blk_put (cs := #[.bool false, .string (⟨#[]⟩ : ByteArray), .string (⟨#[]⟩ : ByteArray), .string (⟨#[]⟩ : ByteArray)]) ?_ 0 _ rfl; (with_reducible repeat (first | refine blk_drewN ?_ _ | refine blk_drew ?_ | refine blk_alloc ?_ _)); exact BK188.out) Tryd.underlying39 rfl (by kernel_rfl)) rfl ?_
        exact ⟨by first | rfl | (simp [errW_none, errW_some] <;> rfl) | (simp only [← hji9]; first | rfl | (simp [errW_none, errW_some] <;> rfl)) | (simp [*, errW_none, errW_some] <;> rfl), by repeat (first | (with_reducible first | exact HB.out | apply below_alloc | apply pw_below_drewN | apply below_drew1 | refine below_set ?_ GE188.out) | exact HB.out)⟩
      ·rw [if_neg c11] at H
       exact absurd H (by simp)
     ·rw [if_neg c10] at H
      exact absurd H (by simp)
    ·replace c8 := Bool.eq_false_iff.mpr c8
     subst c8
     have H1 : (some (false, (⟨#[]⟩ : ByteArray), (⟨#[]⟩ : ByteArray), (⟨#[]⟩ : ByteArray), false)) = some (r1, r2, r3, r4, r5) := by rw [if_neg (show ¬ (false = true) by decide)] at H; exact H
     clear H
     have H := H1
     clear H1
     simp only [Option.some.injEq, Prod.mk.injEq] at H
     obtain ⟨rfl, rfl, rfl, rfl, rfl⟩ := H
     go_enter Tryd.func32, Tryd.ntmps32
     go_wp2_with (first | ((with_reducible refine gate_dst (N := 2) rfl ?_); refine box_event ?hg (N := 2) ?hd (cs := #[.bool false, .string (⟨#[]⟩ : ByteArray), .string (⟨#[]⟩ : ByteArray), .string (⟨#[]⟩ : ByteArray)]) (t := 39) ?hr ?_; (case hd => rfl); (case hg => rfl); (case hr => first | (go_simp; done) | (go_simp; rfl)); intro gb188 hg w30 hbox hb; have n0_ := Aside0.mk (below_step (by repeat (first | (with_reducible first | exact HB.out | apply below_alloc | apply pw_below_drewN | apply below_drew1) | exact HB.out)) hb); have n1_ := Aside0.mk (hbox); have n2_ := Aside0.mk ((by rw [hg]; exact (below_size (by repeat (first | (with_reducible first | exact HB.out | apply below_alloc | apply pw_below_drewN | apply below_drew1) | exact HB.out))) : w.heap.size ≤ gb188)); have n3_ := Aside0.mk ((by rw [hg]; exact (below_size (by repeat (first | (with_reducible first | exact HB.out | apply below_alloc | apply pw_below_drewN | apply below_drew1) | exact HB.out))) : w.heap.size ≤ gb188)); clear HB; have HB := n0_; have BK188 := n1_; have GW188 := n2_; have GE188 := n3_; clear n0_ n1_ n2_ n3_; clear hb hbox hg) | ((with_reducible refine gate_callee (f := 23) rfl ?_); refine goesL_ (some 7) rfl rfl Tryd.func23 (by kernel_rfl) rfl #[.string a0] rfl (by (try simp only [List.map_toArray, List.map_cons, List.map_nil]); first | done | rfl | (simp only [List.length_drop, List.length_take]; rfl)) ?_; (with_reducible refine (spec_debTrim.calls k a0 t189 _ A2.out).mono ?_); rintro e w' ⟨rfl, ⟨nd, rfl⟩⟩; refine ⟨_, rfl, ?_⟩; (try (rw [drewN_self w30]; generalize hq_ : World.drewN w30 _ = w30; have n0_ : Aside0 (w30.heap[gb188]? = some (.cells #[.bool false, .string (⟨#[]⟩ : ByteArray), .string (⟨#[]⟩ : ByteArray), .string (⟨#[]⟩ : ByteArray)] 39 (0, 0))) := ⟨by rw [← hq_]; exact (by (with_reducible repeat (first | refine blk_drewN ?_ _ | refine blk_drew ?_ | refine blk_alloc ?_ _)); exact BK188.out)⟩; have n1_ : Aside0 (Below w.heap.size w w30) := ⟨by rw [← hq_]; exact (by repeat (first | (with_reducible first | exact HB.out | apply below_alloc | apply pw_below_drewN | apply below_drew1 | refine below_set ?_ GE188.out) | exact HB.out))⟩; clear BK188 HB hq_; have BK188 := n0_; have HB := n1_; clear n0_ n1_))) | ((with_reducible refine gate_callee (f := 24) rfl ?_); refine goesL_ (some 9) rfl rfl Tryd.func24 (by kernel_rfl) rfl #[.string t189, .int .u8 58] rfl (by (try simp only [List.map_toArray, List.map_cons, List.map_nil]); first | done | rfl | (simp only [List.length_drop, List.length_take]; rfl)) ?_; (with_reducible refine (spec_indexOf.calls k t189 58 t190 _ A3.out).mono ?_); rintro e w' ⟨rfl, ⟨nd, rfl⟩⟩; refine ⟨_, rfl, ?_⟩; (try (rw [drewN_self w30]; generalize hq_ : World.drewN w30 _ = w30; have n0_ : Aside0 (w30.heap[gb188]? = some (.cells #[.bool false, .string (⟨#[]⟩ : ByteArray), .string (⟨#[]⟩ : ByteArray), .string (⟨#[]⟩ : ByteArray)] 39 (0, 0))) := ⟨by rw [← hq_]; exact (by (with_reducible repeat (first | refine blk_drewN ?_ _ | refine blk_drew ?_ | refine blk_alloc ?_ _)); exact BK188.out)⟩; have n1_ : Aside0 (Below w.heap.size w w30) := ⟨by rw [← hq_]; exact (by repeat (first | (with_reducible first | exact HB.out | apply below_alloc | apply pw_below_drewN | apply below_drew1 | refine below_set ?_ GE188.out) | exact HB.out))⟩; clear BK188 HB hq_; have BK188 := n0_; have HB := n1_; clear n0_ n1_))) | ((with_reducible refine gate_callee (f := 12) rfl ?_); refine goesL_ (some 16) rfl rfl Tryd.func12 (by kernel_rfl) rfl #[.string (t189.extract 0 (t190 : Int).toNat)] rfl (by (try simp only [List.map_toArray, List.map_cons, List.map_nil]); first | done | rfl | (simp only [List.length_drop, List.length_take]; rfl)) ?_; (with_reducible refine (spec_Number.calls k (t189.extract 0 (t190 : Int).toNat) t191 t192 false _ A7.out).mono ?_); rintro e w31 ⟨rfl, hb⟩; refine ⟨_, rfl, ?_⟩; have n0_ := Aside0.mk (blk_below (g := gb188) (o := .cells #[.bool false, .string (⟨#[]⟩ : ByteArray), .string (⟨#[]⟩ : ByteArray), .string (⟨#[]⟩ : ByteArray)] 39 (0, 0)) (by (with_reducible repeat (first | refine blk_drewN ?_ _ | refine blk_drew ?_ | refine blk_alloc ?_ _)); exact BK188.out) hb); have n1_ := Aside0.mk (below_step (by repeat (first | (with_reducible first | exact HB.out | apply below_alloc | apply pw_below_drewN | apply below_drew1 | refine below_set ?_ GE188.out) | exact HB.out)) hb); clear BK188; clear HB; have BK188 := n0_; have HB := n1_; clear n0_ n1_; (try clear hb); (try clear hb2); (try clear hk); (try clear hi); have hcz32_0 : w31.cell? ⟨gb188, 0, none⟩ = some (.bool false) := (blk_cell BK188.out 0).trans rfl; have hcz32_1 : w31.cell? ⟨gb188, 1, none⟩ = some (.string (⟨#[]⟩ : ByteArray)) := (blk_cell BK188.out 1).trans rfl; have hcz32_2 : w31.cell? ⟨gb188, 2, none⟩ = some (.string (⟨#[]⟩ : ByteArray)) := (blk_cell BK188.out 2).trans rfl; have hcz32_3 : w31.cell? ⟨gb188, 3, none⟩ = some (.string (⟨#[]⟩ : ByteArray)) := (blk_cell BK188.out 3).trans rfl; have hfz32_0 := blk_frozen BK188.out 0; have hfz32_1 := blk_frozen BK188.out 1; have hfz32_2 := blk_frozen BK188.out 2; have hfz32_3 := blk_frozen BK188.out 3))
     refine bodyPost_ret (results_ct rfl _ _ gb188 39 #[.bool false, .string (⟨#[]⟩ : ByteArray), .string (⟨#[]⟩ : ByteArray), .string (⟨#[]⟩ : ByteArray)] (0, 0) _ rfl (by (with_reducible repeat (first | refine blk_drewN ?_ _ | refine blk_drew ?_ | refine blk_alloc ?_ _)); refine blk_put (cs := #[.bool false, .string (⟨#[]⟩ : ByteArray), .string (⟨#[]⟩ : ByteArray), .string (⟨#[]⟩ : ByteArray)]) ?_ 3 _ rfl; (with_reducible repeat (first | refine blk_drewN ?_ _ | refine blk_drew ?_ | refine blk_alloc ?_ _)); refine blk_put (cs := #[.bool false, .string (⟨#[]⟩ : ByteArray), .string (⟨#[]⟩ : ByteArray), .string (⟨#[]⟩ : ByteArray)]) ?_ 2 _ rfl; (with_reducible repeat (first | refine blk_drewN ?_ _ | refine blk_drew ?_ | refine blk_alloc ?_ _)); refine blk_put (cs := #[.bool false, .string t192, .string (⟨#[]⟩ : ByteArray), .string (⟨#[]⟩ : ByteArray)]) ?_ 1 _ rfl; (with_reducible repeat (first | refine blk_drewN ?_ _ | refine blk_drew ?_ | refine blk_alloc ?_ _)); refine blk_put (cs := #[.bool t191, .string t192, .string (⟨#[]⟩ : ByteArray), .string (⟨#[]⟩ : ByteArray)]) ?_ 0 _ rfl; (with_reducible repeat (first | refine blk_drewN ?_ _ | refine blk_drew ?_ | refine blk_alloc ?_ _)); refine blk_put (cs := #[.bool t191, .string (⟨#[]⟩ : ByteArray), .string (⟨#[]⟩ : ByteArray), .string (⟨#[]⟩ : ByteArray)]) ?_ 1 _ rfl; (with_reducible repeat (first | refine blk_drewN ?_ _ | refine blk_drew ?_ | refine blk_alloc ?_ _)); refine blk_put (cs := #[.bool false, .string (⟨#[]⟩ : ByteArray), .string (⟨#[]⟩ : ByteArray), .string (⟨#[]⟩ : ByteArray)]) ?_ 0 _ rfl; (with_reducible repeat (first | refine blk_drewN ?_ _ | refine blk_drew ?_ | refine blk_alloc ?_ _)); exact BK188.out) Tryd.underlying39 rfl (by kernel_rfl)) rfl ?_
     exact ⟨by first | rfl | (simp [errW_none, errW_some] <;> rfl) | (simp [*, errW_none, errW_some] <;> rfl), by repeat (first | (with_reducible first | exact HB.out | apply below_alloc | apply pw_below_drewN | apply below_drew1 | refine below_set ?_ GE188.out) | exact HB.out)⟩
   ·rw [if_neg c6] at H
    exact absurd H (by simp)
  ·rw [if_neg c5] at H
   exact absurd H (by simp)
 ·rw [if_neg c4] at H
  have c4b0 : decide (0 ≤ t190) = false := decide_eq_false c4
  clear c4
  replace H := Option.bind_eq_some_iff.mp H
  obtain ⟨t195, A330, H⟩ := H
  replace H : (if t195 ≥ 0 then (if 0 ≤ t195 then (if t195 ≤ (t189.size : Int) then (if 0 ≤ (wrap64 (t195 + 1)) then (if (wrap64 (t195 + 1)) ≤ (t189.size : Int) then (some (false, (⟨#[]⟩ : ByteArray), t189.extract 0 (t195 : Int).toNat, t189.extract ((wrap64 (t195 + 1)) : Int).toNat t189.size, true)) else (none)) else (none)) else (none)) else (none)) else (some (false, (⟨#[]⟩ : ByteArray), t189, (⟨#[48]⟩ : ByteArray), true))) = some (r1, r2, r3, r4, r5) := H
  have A33 := Aside0.mk A330
  clear A330
  by_cases c34 : t195 ≥ 0
  ·rw [if_pos c34] at H
   have c34b0 : decide (0 ≤ t195) = true := decide_eq_true c34
   clear c34
   by_cases c35 : 0 ≤ t195
   ·rw [if_pos c35] at H
    have c35b0 := eq_true c35
    have c35b1 : decide (0 ≤ t195) = true := decide_eq_true c35
    clear c35
    by_cases c36 : t195 ≤ (t189.size : Int)
    ·rw [if_pos c36] at H
     have c36b0 := eq_true c36
     have c36b1 : decide (t195 ≤ (t189.size : Int)) = true := decide_eq_true c36
     clear c36
     obtain ⟨ji37, hji37⟩ : ∃ j_ : Int, (wrap64 (t195 + 1)) = j_ := ⟨_, rfl⟩
     replace H : (if 0 ≤ (ji37) then (if (ji37) ≤ (t189.size : Int) then (some (false, (⟨#[]⟩ : ByteArray), t189.extract 0 (t195 : Int).toNat, t189.extract ((ji37) : Int).toNat t189.size, true)) else (none)) else (none)) = some (r1, r2, r3, r4, r5) := by first | (rw [hji37] at H; exact H) | (simp only [hji37] at H ⊢; exact H)
     (try rw [hji37] at A2)
     (try rw [hji37] at A3)
     (try rw [hji37] at A33)
     have hji37w : (IntKind.i64.wrap (t195 + 1)) = ji37 := (i64_w _).trans hji37
     by_cases c38 : 0 ≤ (ji37)
     ·rw [if_pos c38] at H
      have c38b0 := eq_true c38
      have c38b1 : decide (0 ≤ (ji37)) = true := decide_eq_true c38
      clear c38
      by_cases c39 : (ji37) ≤ (t189.size : Int)
      ·rw [if_pos c39] at H
       have c39b0 := eq_true c39
       have c39b1 : decide ((ji37) ≤ (t189.size : Int)) = true := decide_eq_true c39
       clear c39
       simp only [Option.some.injEq, Prod.mk.injEq] at H
       obtain ⟨rfl, rfl, rfl, rfl, rfl⟩ := H
       go_enter Tryd.func32, Tryd.ntmps32
       try go_wp2_with (first | ((with_reducible refine gate_dst (N := 2) rfl ?_); refine box_event ?hg (N := 2) ?hd (cs := #[.bool false, .string (⟨#[]⟩ : ByteArray), .string (⟨#[]⟩ : ByteArray), .string (⟨#[]⟩ : ByteArray)]) (t := 39) ?hr ?_; (case hd => rfl); (case hg => rfl); (case hr => first | (go_simp; done) | (go_simp; rfl)); intro gb188 hg w40 hbox hb; have n0_ := Aside0.mk (below_step (by repeat (first | (with_reducible first | exact HB.out | apply below_alloc | apply pw_below_drewN | apply below_drew1) | exact HB.out)) hb); have n1_ := Aside0.mk (hbox); have n2_ := Aside0.mk ((by rw [hg]; exact (below_size (by repeat (first | (with_reducible first | exact HB.out | apply below_alloc | apply pw_below_drewN | apply below_drew1) | exact HB.out))) : w.heap.size ≤ gb188)); have n3_ := Aside0.mk ((by rw [hg]; exact (below_size (by repeat (first | (with_reducible first | exact HB.out | apply below_alloc | apply pw_below_drewN | apply below_drew1) | exact HB.out))) : w.heap.size ≤ gb188)); clear HB; have HB := n0_; have BK188 := n1_; have GW188 := n2_; have GE188 := n3_; clear n0_ n1_ n2_ n3_; clear hb hbox hg) | ((with_reducible refine gate_callee (f := 23) rfl ?_); refine goesL_ (some 7) rfl rfl Tryd.func23 (by kernel_rfl) rfl #[.string a0] rfl (by (try simp only [List.map_toArray, List.map_cons, List.map_nil]); first | done | rfl | (simp only [List.length_drop, List.length_take]; rfl)) ?_; (with_reducible refine (spec_debTrim.calls k a0 t189 _ A2.out).mono ?_); rintro e w' ⟨rfl, ⟨nd, rfl⟩⟩; refine ⟨_, rfl, ?_⟩; (try (rw [drewN_self w40]; generalize hq_ : World.drewN w40 _ = w40; have n0_ : Aside0 (w40.heap[gb188]? = some (.cells #[.bool false, .string (⟨#[]⟩ : ByteArray), .string (⟨#[]⟩ : ByteArray), .string (⟨#[]⟩ : ByteArray)] 39 (0, 0))) := ⟨by rw [← hq_]; exact (by (with_reducible repeat (first | refine blk_drewN ?_ _ | refine blk_drew ?_ | refine blk_alloc ?_ _)); exact BK188.out)⟩; have n1_ : Aside0 (Below w.heap.size w w40) := ⟨by rw [← hq_]; exact (by repeat (first | (with_reducible first | exact HB.out | apply below_alloc | apply pw_below_drewN | apply below_drew1 | refine below_set ?_ GE188.out) | exact HB.out))⟩; clear BK188 HB hq_; have BK188 := n0_; have HB := n1_; clear n0_ n1_))) | ((with_reducible refine gate_callee (f := 24) rfl ?_); refine goesL_ (some 9) rfl rfl Tryd.func24 (by kernel_rfl) rfl #[.string t189, .int .u8 58] rfl (by (try simp only [List.map_toArray, List.map_cons, List.map_nil]); first | done | rfl | (simp only [List.length_drop, List.length_take]; rfl)) ?_; (with_reducible refine (spec_indexOf.calls k t189 58 t190 _ A3.out).mono ?_); rintro e w' ⟨rfl, ⟨nd, rfl⟩⟩; refine ⟨_, rfl, ?_⟩; (try (rw [drewN_self w40]; generalize hq_ : World.drewN w40 _ = w40; have n0_ : Aside0 (w40.heap[gb188]? = some (.cells #[.bool false, .string (⟨#[]⟩ : ByteArray), .string (⟨#[]⟩ : ByteArray), .string (⟨#[]⟩ : ByteArray)] 39 (0, 0))) := ⟨by rw [← hq_]; exact (by (with_reducible repeat (first | refine blk_drewN ?_ _ | refine blk_drew ?_ | refine blk_alloc ?_ _)); exact BK188.out)⟩; have n1_ : Aside0 (Below w.heap.size w w40) := ⟨by rw [← hq_]; exact (by repeat (first | (with_reducible first | exact HB.out | apply below_alloc | apply pw_below_drewN | apply below_drew1 | refine below_set ?_ GE188.out) | exact HB.out))⟩; clear BK188 HB hq_; have BK188 := n0_; have HB := n1_; clear n0_ n1_)); have hcz41_0 : w40.cell? ⟨gb188, 0, none⟩ = some (.bool false) := (blk_cell BK188.out 0).trans rfl; have hcz41_1 : w40.cell? ⟨gb188, 1, none⟩ = some (.string (⟨#[]⟩ : ByteArray)) := (blk_cell BK188.out 1).trans rfl; have hcz41_2 : w40.cell? ⟨gb188, 2, none⟩ = some (.string (⟨#[]⟩ : ByteArray)) := (blk_cell BK188.out 2).trans rfl; have hcz41_3 : w40.cell? ⟨gb188, 3, none⟩ = some (.string (⟨#[]⟩ : ByteArray)) := (blk_cell BK188.out 3).trans rfl; have hfz41_0 := blk_frozen BK188.out 0; have hfz41_1 := blk_frozen BK188.out 1; have hfz41_2 := blk_frozen BK188.out 2; have hfz41_3 := blk_frozen BK188.out 3) | ((with_reducible refine gate_callee (f := 48) rfl ?_); refine goesL_ (some 31) rfl rfl Tryd.func48 (by kernel_rfl) rfl #[.string t189, .int .u8 45] rfl (by (try simp only [List.map_toArray, List.map_cons, List.map_nil]); first | done | rfl | (simp only [List.length_drop, List.length_take]; rfl)) ?_; (with_reducible refine (spec_lastOf.calls k t189 45 t195 _ A33.out).mono ?_); rintro e w' ⟨rfl, ⟨nd, rfl⟩⟩; refine ⟨_, rfl, ?_⟩))
       have n0_ : Aside0 (((w40.setCell ⟨gb188, 2, none⟩ (.string t189)).setCell ⟨gb188, 3, none⟩ (.string (⟨#[48]⟩ : ByteArray))).heap[gb188]? = some (.cells #[.bool false, .string (⟨#[]⟩ : ByteArray), .string t189, .string (⟨#[48]⟩ : ByteArray)] 39 (0, 0))) := ⟨by (with_reducible repeat (first | refine blk_drewN ?_ _ | refine blk_drew ?_ | refine blk_alloc ?_ _)); refine blk_put (cs := #[.bool false, .string (⟨#[]⟩ : ByteArray), .string t189, .string (⟨#[]⟩ : ByteArray)]) ?_ 3 _ rfl; (with_reducible repeat (first | refine blk_drewN ?_ _ | refine blk_drew ?_ | refine blk_alloc ?_ _)); refine blk_put (cs := #[.bool false, .string (⟨#[]⟩ : ByteArray), .string (⟨#[]⟩ : ByteArray), .string (⟨#[]⟩ : ByteArray)]) ?_ 2 _ rfl; (with_reducible repeat (first | refine blk_drewN ?_ _ | refine blk_drew ?_ | refine blk_alloc ?_ _)); exact BK188.out⟩
       have n1_ : Aside0 (Below w.heap.size w ((w40.setCell ⟨gb188, 2, none⟩ (.string t189)).setCell ⟨gb188, 3, none⟩ (.string (⟨#[48]⟩ : ByteArray)))) := ⟨by repeat (first | (with_reducible first | exact HB.out | apply below_alloc | apply pw_below_drewN | apply below_drew1 | refine below_set ?_ GE188.out) | exact HB.out)⟩
       (try clear BK188)
       (try clear HB)
       generalize ((w40.setCell ⟨gb188, 2, none⟩ (.string t189)).setCell ⟨gb188, 3, none⟩ (.string (⟨#[48]⟩ : ByteArray))) = w42 at n0_ n1_ ⊢
       have BK188 := n0_
       have HB := n1_
       clear n0_ n1_
       (try (rw [drewN_self w42]; generalize hq_ : World.drewN w42 _ = w42; have n0_ : Aside0 (w42.heap[gb188]? = some (.cells #[.bool false, .string (⟨#[]⟩ : ByteArray), .string t189, .string (⟨#[48]⟩ : ByteArray)] 39 (0, 0))) := ⟨by rw [← hq_]; exact (by (with_reducible repeat (first | refine blk_drewN ?_ _ | refine blk_drew ?_ | refine blk_alloc ?_ _)); exact BK188.out)⟩; have n1_ : Aside0 (Below w.heap.size w w42) := ⟨by rw [← hq_]; exact (by repeat (first | (with_reducible first | exact HB.out | apply below_alloc | apply pw_below_drewN | apply below_drew1 | refine below_set ?_ GE188.out) | exact HB.out))⟩; clear BK188 HB hq_; have BK188 := n0_; have HB := n1_; clear n0_ n1_))
       have n0_ := Aside0.mk (blk_drew BK188.out)
       have n1_ := Aside0.mk (below_drew1 HB.out)
       clear BK188
       clear HB
       have BK188 := n0_
       have HB := n1_
       clear n0_ n1_
       refine start_ (n := 11) (S := fun w' => True) (ds := []) #[false, false, false, false, false, false, false, false, false, false, false] (by kernel_rfl) rfl rfl trivial (fun hHeld => ?_); refine with_tabW spec_DebianParse.tab11 spec_DebianParse.bits11 (fun HT_ HW_ => ?_)
       generalize w42.drew = w43 at BK188 HB hHeld ⊢
       refine pure_ (i := 0) (N := some 34) (v := ?_) (a' := ?_) #[true, false, false, false, false, false, false, false, false, false, false] rfl rfl (any_of HT_.out (by kernel_rfl)) (fun _ _ _ h => h) (Or.inl ⟨by rfl, ?_⟩) ?_ ?_
       rotate_left
       ·intro w'
        go_simp
        with_reducible rfl
       rotate_left
       ·simp only [Act.put, List.setIfInBounds_toArray, List.set_cons_zero, List.set_cons_succ, i64_w, i32_w]
        rfl
       refine pure_ (i := 1) (N := some 35) (v := ?_) (a' := ?_) #[true, true, false, false, false, false, false, false, false, false, false] rfl rfl (any_of HT_.out (by kernel_rfl)) (fun _ _ _ h => h) (Or.inl ⟨by rfl, ?_⟩) ?_ ?_
       rotate_left
       ·intro w'
        go_simp
        with_reducible rfl
       rotate_left
       ·simp only [Act.put, List.setIfInBounds_toArray, List.set_cons_zero, List.set_cons_succ, i64_w, i32_w]
        rfl
       refine pure_ (i := 2) (N := some 36) (v := ?_) (a' := ?_) #[true, true, true, false, false, false, false, false, false, false, false] rfl rfl (any_of HT_.out (by kernel_rfl)) (fun _ _ _ h => h) (Or.inl ⟨by rfl, ?_⟩) ?_ ?_
       rotate_left
       ·intro w'
        go_simp
        with_reducible rfl
       rotate_left
       ·simp only [Act.put, List.setIfInBounds_toArray, List.set_cons_zero, List.set_cons_succ, i64_w, i32_w]
        rfl
       refine pure_ (i := 3) (N := some 37) (v := ?_) (a' := ?_) #[true, true, true, true, false, false, false, false, false, false, false] rfl rfl (any_of HT_.out (by kernel_rfl)) (fun _ _ _ h => h) (Or.inl ⟨by rfl, ?_⟩) ?_ ?_
       rotate_left
       ·intro w'
        go_simp
        with_reducible rfl
       rotate_left
       ·simp only [Act.put, List.setIfInBounds_toArray, List.set_cons_zero, List.set_cons_succ, i64_w, i32_w]
        rfl
       refine pure_ (i := 4) (N := some 38) (v := ?_) (a' := ?_) #[true, true, true, true, true, false, false, false, false, false, false] rfl rfl (any_of HT_.out (by kernel_rfl)) (fun _ _ _ h => h) (Or.inl ⟨by rfl, ?_⟩) ?_ ?_
       rotate_left
       ·intro w'
        go_simp
        with_reducible rfl
       rotate_left
       ·simp only [Act.put, List.setIfInBounds_toArray, List.set_cons_zero, List.set_cons_succ, i64_w, i32_w]
        rfl
       refine pure_ (i := 5) (N := some 39) (v := ?_) (a' := ?_) #[true, true, true, true, true, true, false, false, false, false, false] rfl rfl (any_of HT_.out (by kernel_rfl)) (fun _ _ _ h => h) (Or.inl ⟨by rfl, ?_⟩) ?_ ?_
       rotate_left
       ·intro w'
        go_simp
        with_reducible rfl
       rotate_left
       ·simp only [Act.put, List.setIfInBounds_toArray, List.set_cons_zero, List.set_cons_succ, i64_w, i32_w]
        rfl
       refine pure_ (i := 6) (N := some 40) (v := ?_) (a' := ?_) #[true, true, true, true, true, true, true, false, false, false, false] rfl rfl (any_of HT_.out (by kernel_rfl)) (fun _ _ _ h => h) (Or.inl ⟨by rfl, ?_⟩) ?_ ?_
       rotate_left
       ·intro w'
        go_simp
        with_reducible rfl
       rotate_left
       ·simp only [Act.put, List.setIfInBounds_toArray, List.set_cons_zero, List.set_cons_succ, i64_w, i32_w]
        rfl
       refine pure_ (i := 7) (N := some 41) (v := ?_) (a' := ?_) #[true, true, true, true, true, true, true, true, false, false, false] rfl rfl (any_of HT_.out (by kernel_rfl)) (fun _ _ _ h => h) (Or.inl ⟨by rfl, ?_⟩) ?_ ?_
       rotate_left
       ·intro w'
        go_simp
        with_reducible rfl
       rotate_left
       ·simp only [Act.put, List.setIfInBounds_toArray, List.set_cons_zero, List.set_cons_succ, i64_w, i32_w]
        rfl
       refine one_ (i := 8) (N := none) #[true, true, true, true, true, true, true, true, true, false, false] rfl rfl (one_of HT_.out (by kernel_rfl)) (by decide) (fun K hK => ?_)
       have hs44 : w43.cell? ⟨gb188, 2, none⟩ = some (.string t189) := (blk_cell BK188.out 2).trans rfl
       have hfs44 := blk_frozen BK188.out 2
       refine skip_ (w1 := ?_) (by rfl) rfl ?_ ?_
       rotate_left
       ·go_simp
        rfl
       refine hK.out _ _ trivial (fun hHeld => ?_)
       clear hK K
       refine pure_ (i := 9) (N := some 42) (v := ?_) (a' := ?_) #[true, true, true, true, true, true, true, true, true, true, false] rfl rfl (any_of HT_.out (by kernel_rfl)) (fun _ _ _ h => h) (Or.inl ⟨by rfl, ?_⟩) ?_ ?_
       rotate_left
       ·intro w'
        go_simp
        with_reducible rfl
       rotate_left
       ·simp only [Act.put, List.setIfInBounds_toArray, List.set_cons_zero, List.set_cons_succ, i64_w, i32_w]
        rfl
       refine one_ (i := 10) (N := none) #[true, true, true, true, true, true, true, true, true, true, true] rfl rfl (one_of HT_.out (by kernel_rfl)) (by decide) (fun K hK => ?_)
       have hs45 : w43.cell? ⟨gb188, 3, none⟩ = some (.string (⟨#[48]⟩ : ByteArray)) := (blk_cell BK188.out 3).trans rfl
       have hfs45 := blk_frozen BK188.out 3
       refine skip_ (w1 := ?_) (by rfl) rfl ?_ ?_
       rotate_left
       ·go_simp
        rfl
       refine hK.out _ _ trivial (fun hHeld => ?_)
       clear hK K
       refine done_ (done_of HT_.out (by kernel_rfl)) ?_
       have hcz46_0 : w43.cell? ⟨gb188, 0, none⟩ = some (.bool false) := (blk_cell BK188.out 0).trans rfl
       have hcz46_1 : w43.cell? ⟨gb188, 1, none⟩ = some (.string (⟨#[]⟩ : ByteArray)) := (blk_cell BK188.out 1).trans rfl
       have hcz46_2 : w43.cell? ⟨gb188, 2, none⟩ = some (.string t189) := (blk_cell BK188.out 2).trans rfl
       have hcz46_3 : w43.cell? ⟨gb188, 3, none⟩ = some (.string (⟨#[48]⟩ : ByteArray)) := (blk_cell BK188.out 3).trans rfl
       have hfz46_0 := blk_frozen BK188.out 0
       have hfz46_1 := blk_frozen BK188.out 1
       have hfz46_2 := blk_frozen BK188.out 2
       have hfz46_3 := blk_frozen BK188.out 3
       try go_wp2
       refine bodyPost_ret (results_ct rfl _ _ gb188 39 #[.bool false, .string (⟨#[]⟩ : ByteArray), .string (t189.extract 0 (t195 : Int).toNat), .string (t189.extract ((ji37) : Int).toNat t189.size)] (0, 0) _ rfl (by (with_reducible repeat (first | refine blk_drewN ?_ _ | refine blk_drew ?_ | refine blk_alloc ?_ _)); refine blk_put (cs := #[.bool false, .string (⟨#[]⟩ : ByteArray), .string (t189.extract 0 (t195 : Int).toNat), .string (t189.extract ((ji37) : Int).toNat t189.size)]) ?_ 3 _ rfl; (with_reducible repeat (first | refine blk_drewN ?_ _ | refine blk_drew ?_ | refine blk_alloc ?_ _)); refine blk_put (cs := #[.bool false, .string (⟨#[]⟩ : ByteArray), .string (t189.extract 0 (t195 : Int).toNat), .string (t189.extract ((ji37) : Int).toNat t189.size)]) ?_ 2 _ rfl; (with_reducible repeat (first | refine blk_drewN ?_ _ | refine blk_drew ?_ | refine blk_alloc ?_ _)); refine blk_put (cs := #[.bool false, .string (⟨#[]⟩ : ByteArray), .string (t189.extract 0 (t195 : Int).toNat), .string (t189.extract ((ji37) : Int).toNat t189.size)]) ?_ 1 _ rfl; (with_reducible repeat (first | refine blk_drewN ?_ _ | refine blk_drew ?_ | refine blk_alloc ?_ _)); refine blk_put (cs := #[.bool false, .string (⟨#[]⟩ : ByteArray), .string (t189.extract 0 (t195 : Int).toNat), .string (t189.extract ((ji37) : Int).toNat t189.size)]) ?_ 0 _ rfl; (with_reducible repeat (first | refine blk_drewN ?_ _ | refine blk_drew ?_ | refine blk_alloc ?_ _)); refine blk_put (cs := #[.bool false, .string (⟨#[]⟩ : ByteArray), .string (t189.extract 0 (t195 : Int).toNat), .string (⟨#[48]⟩ : ByteArray)]) ?_ 3 _ rfl; (with_reducible repeat (first | refine blk_drewN ?_ _ | refine blk_drew ?_ | refine blk_alloc ?_ _)); refine blk_put (cs := #[.bool false, .string (⟨#[]⟩ : ByteArray), .string t189, .string (⟨#[48]⟩ : ByteArray)]) ?_ 2 _ rfl; (with_reducible repeat (first | refine blk_drewN ?_ _ | refine blk_drew ?_ | refine blk_alloc ?_ _)); exact BK188.out) Tryd.underlying39 rfl (by kernel_rfl)) rfl ?_
       exact ⟨by first | rfl | (simp [errW_none, errW_some] <;> rfl) | (simp only [← hji37]; first | rfl | (simp [errW_none, errW_some] <;> rfl)) | (simp [*, errW_none, errW_some] <;> rfl), by repeat (first | (with_reducible first | exact HB.out | apply below_alloc | apply pw_below_drewN | apply below_drew1 | refine below_set ?_ GE188.out) | exact HB.out)⟩
      ·rw [if_neg c39] at H
       exact absurd H (by simp)
     ·rw [if_neg c38] at H
      exact absurd H (by simp)
    ·rw [if_neg c36] at H
     exact absurd H (by simp)
   ·rw [if_neg c35] at H
    exact absurd H (by simp)
  ·rw [if_neg c34] at H
   have c34b0 : decide (0 ≤ t195) = false := decide_eq_false c34
   clear c34
   simp only [Option.some.injEq, Prod.mk.injEq] at H
   obtain ⟨rfl, rfl, rfl, rfl, rfl⟩ := H
   go_enter Tryd.func32, Tryd.ntmps32
   go_wp2_with (first | ((with_reducible refine gate_dst (N := 2) rfl ?_); refine box_event ?hg (N := 2) ?hd (cs := #[.bool false, .string (⟨#[]⟩ : ByteArray), .string (⟨#[]⟩ : ByteArray), .string (⟨#[]⟩ : ByteArray)]) (t := 39) ?hr ?_; (case hd => rfl); (case hg => rfl); (case hr => first | (go_simp; done) | (go_simp; rfl)); intro gb188 hg w47 hbox hb; have n0_ := Aside0.mk (below_step (by repeat (first | (with_reducible first | exact HB.out | apply below_alloc | apply pw_below_drewN | apply below_drew1) | exact HB.out)) hb); have n1_ := Aside0.mk (hbox); have n2_ := Aside0.mk ((by rw [hg]; exact (below_size (by repeat (first | (with_reducible first | exact HB.out | apply below_alloc | apply pw_below_drewN | apply below_drew1) | exact HB.out))) : w.heap.size ≤ gb188)); have n3_ := Aside0.mk ((by rw [hg]; exact (below_size (by repeat (first | (with_reducible first | exact HB.out | apply below_alloc | apply pw_below_drewN | apply below_drew1) | exact HB.out))) : w.heap.size ≤ gb188)); clear HB; have HB := n0_; have BK188 := n1_; have GW188 := n2_; have GE188 := n3_; clear n0_ n1_ n2_ n3_; clear hb hbox hg) | ((with_reducible refine gate_callee (f := 23) rfl ?_); refine goesL_ (some 7) rfl rfl Tryd.func23 (by kernel_rfl) rfl #[.string a0] rfl (by (try simp only [List.map_toArray, List.map_cons, List.map_nil]); first | done | rfl | (simp only [List.length_drop, List.length_take]; rfl)) ?_; (with_reducible refine (spec_debTrim.calls k a0 t189 _ A2.out).mono ?_); rintro e w' ⟨rfl, ⟨nd, rfl⟩⟩; refine ⟨_, rfl, ?_⟩; (try (rw [drewN_self w47]; generalize hq_ : World.drewN w47 _ = w47; have n0_ : Aside0 (w47.heap[gb188]? = some (.cells #[.bool false, .string (⟨#[]⟩ : ByteArray), .string (⟨#[]⟩ : ByteArray), .string (⟨#[]⟩ : ByteArray)] 39 (0, 0))) := ⟨by rw [← hq_]; exact (by (with_reducible repeat (first | refine blk_drewN ?_ _ | refine blk_drew ?_ | refine blk_alloc ?_ _)); exact BK188.out)⟩; have n1_ : Aside0 (Below w.heap.size w w47) := ⟨by rw [← hq_]; exact (by repeat (first | (with_reducible first | exact HB.out | apply below_alloc | apply pw_below_drewN | apply below_drew1 | refine below_set ?_ GE188.out) | exact HB.out))⟩; clear BK188 HB hq_; have BK188 := n0_; have HB := n1_; clear n0_ n1_))) | ((with_reducible refine gate_callee (f := 24) rfl ?_); refine goesL_ (some 9) rfl rfl Tryd.func24 (by kernel_rfl) rfl #[.string t189, .int .u8 58] rfl (by (try simp only [List.map_toArray, List.map_cons, List.map_nil]); first | done | rfl | (simp only [List.length_drop, List.length_take]; rfl)) ?_; (with_reducible refine (spec_indexOf.calls k t189 58 t190 _ A3.out).mono ?_); rintro e w' ⟨rfl, ⟨nd, rfl⟩⟩; refine ⟨_, rfl, ?_⟩; (try (rw [drewN_self w47]; generalize hq_ : World.drewN w47 _ = w47; have n0_ : Aside0 (w47.heap[gb188]? = some (.cells #[.bool false, .string (⟨#[]⟩ : ByteArray), .string (⟨#[]⟩ : ByteArray), .string (⟨#[]⟩ : ByteArray)] 39 (0, 0))) := ⟨by rw [← hq_]; exact (by (with_reducible repeat (first | refine blk_drewN ?_ _ | refine blk_drew ?_ | refine blk_alloc ?_ _)); exact BK188.out)⟩; have n1_ : Aside0 (Below w.heap.size w w47) := ⟨by rw [← hq_]; exact (by repeat (first | (with_reducible first | exact HB.out | apply below_alloc | apply pw_below_drewN | apply below_drew1 | refine below_set ?_ GE188.out) | exact HB.out))⟩; clear BK188 HB hq_; have BK188 := n0_; have HB := n1_; clear n0_ n1_)); have hcz48_0 : w47.cell? ⟨gb188, 0, none⟩ = some (.bool false) := (blk_cell BK188.out 0).trans rfl; have hcz48_1 : w47.cell? ⟨gb188, 1, none⟩ = some (.string (⟨#[]⟩ : ByteArray)) := (blk_cell BK188.out 1).trans rfl; have hcz48_2 : w47.cell? ⟨gb188, 2, none⟩ = some (.string (⟨#[]⟩ : ByteArray)) := (blk_cell BK188.out 2).trans rfl; have hcz48_3 : w47.cell? ⟨gb188, 3, none⟩ = some (.string (⟨#[]⟩ : ByteArray)) := (blk_cell BK188.out 3).trans rfl; have hfz48_0 := blk_frozen BK188.out 0; have hfz48_1 := blk_frozen BK188.out 1; have hfz48_2 := blk_frozen BK188.out 2; have hfz48_3 := blk_frozen BK188.out 3) | ((with_reducible refine gate_callee (f := 48) rfl ?_); refine goesL_ (some 31) rfl rfl Tryd.func48 (by kernel_rfl) rfl #[.string t189, .int .u8 45] rfl (by (try simp only [List.map_toArray, List.map_cons, List.map_nil]); first | done | rfl | (simp only [List.length_drop, List.length_take]; rfl)) ?_; (with_reducible refine (spec_lastOf.calls k t189 45 t195 _ A33.out).mono ?_); rintro e w' ⟨rfl, ⟨nd, rfl⟩⟩; refine ⟨_, rfl, ?_⟩))
   refine bodyPost_ret (results_ct rfl _ _ gb188 39 #[.bool false, .string (⟨#[]⟩ : ByteArray), .string t189, .string (⟨#[48]⟩ : ByteArray)] (0, 0) _ rfl (by (with_reducible repeat (first | refine blk_drewN ?_ _ | refine blk_drew ?_ | refine blk_alloc ?_ _)); refine blk_put (cs := #[.bool false, .string (⟨#[]⟩ : ByteArray), .string t189, .string (⟨#[48]⟩ : ByteArray)]) ?_ 3 _ rfl; (with_reducible repeat (first | refine blk_drewN ?_ _ | refine blk_drew ?_ | refine blk_alloc ?_ _)); refine blk_put (cs := #[.bool false, .string (⟨#[]⟩ : ByteArray), .string t189, .string (⟨#[48]⟩ : ByteArray)]) ?_ 2 _ rfl; (with_reducible repeat (first | refine blk_drewN ?_ _ | refine blk_drew ?_ | refine blk_alloc ?_ _)); refine blk_put (cs := #[.bool false, .string (⟨#[]⟩ : ByteArray), .string t189, .string (⟨#[48]⟩ : ByteArray)]) ?_ 1 _ rfl; (with_reducible repeat (first | refine blk_drewN ?_ _ | refine blk_drew ?_ | refine blk_alloc ?_ _)); refine blk_put (cs := #[.bool false, .string (⟨#[]⟩ : ByteArray), .string t189, .string (⟨#[48]⟩ : ByteArray)]) ?_ 0 _ rfl; (with_reducible repeat (first | refine blk_drewN ?_ _ | refine blk_drew ?_ | refine blk_alloc ?_ _)); refine blk_put (cs := #[.bool false, .string (⟨#[]⟩ : ByteArray), .string t189, .string (⟨#[]⟩ : ByteArray)]) ?_ 3 _ rfl; (with_reducible repeat (first | refine blk_drewN ?_ _ | refine blk_drew ?_ | refine blk_alloc ?_ _)); refine blk_put (cs := #[.bool false, .string (⟨#[]⟩ : ByteArray), .string (⟨#[]⟩ : ByteArray), .string (⟨#[]⟩ : ByteArray)]) ?_ 2 _ rfl; (with_reducible repeat (first | refine blk_drewN ?_ _ | refine blk_drew ?_ | refine blk_alloc ?_ _)); exact BK188.out) Tryd.underlying39 rfl (by kernel_rfl)) rfl ?_
   exact ⟨by first | rfl | (simp [errW_none, errW_some] <;> rfl) | (simp [*, errW_none, errW_some] <;> rfl), by repeat (first | (with_reducible first | exact HB.out | apply below_alloc | apply pw_below_drewN | apply below_drew1 | refine below_set ?_ GE188.out) | exact HB.out)⟩

/-! ### spec_isLetter: function 65 -/
def spec_isLetter.f (a0 : Int) : Option (Bool) := if a0 ≥ 97 then (if a0 ≤ 122 then (some true) else (if a0 ≥ 65 then (some (decide (a0 ≤ 90))) else (some false))) else (if a0 ≥ 65 then (some (decide (a0 ≤ 90))) else (some false))
set_option maxHeartbeats 8000000 in
set_option maxRecDepth 100000 in
theorem spec_isLetter.calls (a0 : Int) (r : Bool) (w : World) (h : spec_isLetter.f a0 = some r) :
  Calls Tryd.prog 65 #[.int .u8 a0] w fun e w' => e = .returned (.bool r) ∧ Drawn0 w w' := by
 have H : (if a0 ≥ 97 then (if a0 ≤ 122 then (some true) else (if a0 ≥ 65 then (some (decide (a0 ≤ 90))) else (some false))) else (if a0 ≥ 65 then (some (decide (a0 ≤ 90))) else (some false))) = some r := h
 clear h
 by_cases c2 : a0 ≥ 97
 ·rw [if_pos c2] at H
  have c2b0 : decide (97 ≤ a0) = true := decide_eq_true c2
  clear c2
  by_cases c3 : a0 ≤ 122
  ·rw [if_pos c3] at H
   have c3b0 : decide (a0 ≤ 122) = true := decide_eq_true c3
   clear c3
   obtain rfl := Option.some.inj H
   go_enter Tryd.func65, Tryd.ntmps65
   go_wp2
   go_ret
   exact ⟨by first | rfl | (simp; done) | (simp [*]; done), by repeat (first | exact Drawn0.refl _ | apply Drawn0.step)⟩
  ·rw [if_neg c3] at H
   have c3b0 : decide (a0 ≤ 122) = false := decide_eq_false c3
   clear c3
   by_cases c4 : a0 ≥ 65
   ·rw [if_pos c4] at H
    have c4b0 : decide (65 ≤ a0) = true := decide_eq_true c4
    clear c4
    obtain rfl := Option.some.inj H
    go_enter Tryd.func65, Tryd.ntmps65
    go_wp2
    go_ret
    exact ⟨by first | rfl | (simp; done) | (simp [*]; done), by repeat (first | exact Drawn0.refl _ | apply Drawn0.step)⟩
   ·rw [if_neg c4] at H
    have c4b0 : decide (65 ≤ a0) = false := decide_eq_false c4
    clear c4
    obtain rfl := Option.some.inj H
    go_enter Tryd.func65, Tryd.ntmps65
    go_wp2
    go_ret
    exact ⟨by first | rfl | (simp; done) | (simp [*]; done), by repeat (first | exact Drawn0.refl _ | apply Drawn0.step)⟩
 ·rw [if_neg c2] at H
  have c2b0 : decide (97 ≤ a0) = false := decide_eq_false c2
  clear c2
  by_cases c5 : a0 ≥ 65
  ·rw [if_pos c5] at H
   have c5b0 : decide (65 ≤ a0) = true := decide_eq_true c5
   clear c5
   obtain rfl := Option.some.inj H
   go_enter Tryd.func65, Tryd.ntmps65
   go_wp2
   go_ret
   exact ⟨by first | rfl | (simp; done) | (simp [*]; done), by repeat (first | exact Drawn0.refl _ | apply Drawn0.step)⟩
  ·rw [if_neg c5] at H
   have c5b0 : decide (65 ≤ a0) = false := decide_eq_false c5
   clear c5
   obtain rfl := Option.some.inj H
   go_enter Tryd.func65, Tryd.ntmps65
   go_wp2
   go_ret
   exact ⟨by first | rfl | (simp; done) | (simp [*]; done), by repeat (first | exact Drawn0.refl _ | apply Drawn0.step)⟩

/-! ### spec_debWeight: function 49 -/
def spec_debWeight.j0 : Nat → ByteArray → Int → Bool → Option (Int)
 | 0, _, _, _ => none
 | k + 1, x0, x1, x5 => if x5 = true then (some 0) else (if 0 ≤ x1 then (if x1 < (x0.size : Int) then (if (bt x0 x1) = 126 then (some (-1)) else ((spec_isLetter.f (bt x0 x1)).bind fun t197 => (if t197 = true then (some (wrap64 (bt x0 x1))) else (some (wrap64 ((wrap64 (bt x0 x1)) + 256)))))) else (none)) else (none))
def spec_debWeight.f (k : Nat) (a0 : ByteArray) (a1 : Int) : Option (Int) := if a1 ≥ (a0.size : Int) then (spec_debWeight.j0 k a0 a1 true) else (if 0 ≤ a1 then (if a1 < (a0.size : Int) then ((spec_isDigit.f (bt a0 a1)).bind fun t196 => (spec_debWeight.j0 k a0 a1 t196)) else (none)) else (none))
theorem spec_debWeight.mono_l : ∀ k, (∀ y0 y1 y2, LeO (spec_debWeight.j0 k y0 y1 y2) (spec_debWeight.j0 (k + 1) y0 y1 y2))
 | 0 => fun _ _ _ r h => by simp [spec_debWeight.j0] at h
 | k + 1 => by
  have ih0 := spec_debWeight.mono_l k
  ·intro y0 y1 y2
   unfold spec_debWeight.j0
   repeat' first
   | (with_reducible exact ih0 _ _ _)
   | (with_reducible exact LeO.refl _)
   | (with_reducible exact LeO.none _)
   | (with_reducible refine LeO.ite ?_ ?_)
   | (with_reducible refine LeO.bind ?_ (fun _ => ?_))
   | exact ih0 _ _ _
   | exact LeO.none _
   | refine LeO.ite ?_ ?_
   | refine LeO.bind ?_ (fun _ => ?_)
theorem spec_debWeight.mono : ∀ a0 a1 k, LeO (spec_debWeight.f k a0 a1) (spec_debWeight.f (k + 1) a0 a1) := by
 intro a0 a1 k
 have ih0 := spec_debWeight.mono_l k
 unfold spec_debWeight.f
 repeat' first
   | (with_reducible exact ih0 _ _ _)
   | (with_reducible exact LeO.refl _)
   | (with_reducible exact LeO.none _)
   | (with_reducible refine LeO.ite ?_ ?_)
   | (with_reducible refine LeO.bind ?_ (fun _ => ?_))
   | exact ih0 _ _ _
   | exact LeO.none _
   | refine LeO.ite ?_ ?_
   | refine LeO.bind ?_ (fun _ => ?_)
set_option maxHeartbeats 8000000 in
set_option maxRecDepth 100000 in
theorem spec_debWeight.calls (k : Nat) (a0 : ByteArray) (a1 : Int) (r : Int) (w : World) (h : spec_debWeight.f k a0 a1 = some r) :
  Calls Tryd.prog 49 #[.string a0, .int .i64 a1] w fun e w' => e = .returned (.int .i64 r) ∧ Drawn0 w w' := by
 have H : (if a1 ≥ (a0.size : Int) then (spec_debWeight.j0 k a0 a1 true) else (if 0 ≤ a1 then (if a1 < (a0.size : Int) then ((spec_isDigit.f (bt a0 a1)).bind fun t196 => (spec_debWeight.j0 k a0 a1 t196)) else (none)) else (none))) = some r := h
 clear h
 have HC3 := Aside0.mk H
 clear H
 go_enter Tryd.func49, Tryd.ntmps49
 go_upto_region 1 with (fail)
 go_cut [5] (fun v5 wc => ∃ (kq : Nat) (x5_2 : Bool), v5 = .bool x5_2 ∧ Aside0 (spec_debWeight.j0 kq a0 a1 x5_2 = some r) ∧ Aside0 (kq ≤ k) ∧ Drawn0 w wc)
 case first =>
  have H := HC3.out
  clear HC3
  by_cases c4 : a1 ≥ (a0.size : Int)
  ·rw [if_pos c4] at H
   have c4b0 : decide ((a0.size : Int) ≤ a1) = true := decide_eq_true c4
   clear c4
   (first | rw [c4b0] | (simp only [i64_w, i32_w]; rw [c4b0]) | skip)
   have H' := Aside0.mk H
   clear H
   go_wp2
   go_meet
   case rel => exact ⟨_, (true), (by first | rfl | (simp; done) | (simp [*]; done)), H', ⟨by first | omega | exact Nat.le_refl _⟩, by repeat (first | exact Drawn0.refl _ | apply Drawn0.step)⟩
  ·rw [if_neg c4] at H
   have c4b0 : decide ((a0.size : Int) ≤ a1) = false := decide_eq_false c4
   clear c4
   (first | rw [c4b0] | (simp only [i64_w, i32_w]; rw [c4b0]) | skip)
   by_cases c5 : 0 ≤ a1
   ·rw [if_pos c5] at H
    have c5b0 : decide (0 ≤ a1) = true := decide_eq_true c5
    clear c5
    by_cases c6 : a1 < (a0.size : Int)
    ·rw [if_pos c6] at H
     have c6b0 : decide (a1 < (a0.size : Int)) = true := decide_eq_true c6
     clear c6
     replace H := Option.bind_eq_some_iff.mp H
     obtain ⟨t196, A80, H⟩ := H
     replace H : (spec_debWeight.j0 k a0 a1 t196) = some r := H
     have A8 := Aside0.mk A80
     clear A80
     have H' := Aside0.mk H
     clear H
     have p7 : 0 ≤ (a1 : Int) := of_decide_eq_true (by first | (with_reducible assumption) | assumption)
     have q7 : a1 < (a0.size : Int) := of_decide_eq_true (by first | (with_reducible assumption) | assumption)
     have hx7 := bt_at a0 a1
     replace p7 := eq_true p7
     replace q7 := eq_true q7
     go_wp2_with (first | (go_at_call 37; (with_reducible refine (spec_isDigit.calls (bt a0 a1) t196 _ A8.out).mono ?_); rintro e w' ⟨rfl, ⟨nd, rfl⟩⟩))
     go_meet
     case rel => exact ⟨_, (t196), (by first | rfl | (simp; done) | (simp [*]; done)), H', ⟨by first | omega | exact Nat.le_refl _⟩, by repeat (first | exact Drawn0.refl _ | apply Drawn0.step)⟩
    ·rw [if_neg c6] at H
     exact absurd H (by simp)
   ·rw [if_neg c5] at H
    exact absurd H (by simp)
 case rest =>
  clear HC3
  try clear p2
  try clear c4
  try clear c4b0
  try clear c5
  try clear c5b0
  try clear c6
  try clear c6b0
  try clear p7
  try clear q7
  try clear hx7
  try clear p7
  try clear q7
  obtain ⟨kq, x5_2, rfl, HA, HJ2, ⟨mc2, rfl⟩⟩ := hcut
  cases kq with
  | zero => exact absurd HA.out (by simp [spec_debWeight.j0])
  | succ kj2 =>
   have H := HA.out
   clear HA
   simp only [spec_debWeight.j0] at H
   by_cases c9 : x5_2 = true
   ·subst c9
    have H1 : (some 0) = some r := by rw [if_pos rfl] at H; exact H
    clear H
    have H := H1
    clear H1
    obtain rfl := Option.some.inj H
    go_wp2
    go_ret
    exact ⟨by first | rfl | (simp; done) | (simp [*]; done), by repeat (first | exact Drawn0.refl _ | apply Drawn0.step)⟩
   ·replace c9 := Bool.eq_false_iff.mpr c9
    subst c9
    have H1 : (if 0 ≤ a1 then (if a1 < (a0.size : Int) then (if (bt a0 a1) = 126 then (some (-1)) else ((spec_isLetter.f (bt a0 a1)).bind fun t197 => (if t197 = true then (some (wrap64 (bt a0 a1))) else (some (wrap64 ((wrap64 (bt a0 a1)) + 256)))))) else (none)) else (none)) = some r := by rw [if_neg (show ¬ (false = true) by decide)] at H; exact H
    clear H
    have H := H1
    clear H1
    by_cases c10 : 0 ≤ a1
    ·rw [if_pos c10] at H
     have c10b0 : decide (0 ≤ a1) = true := decide_eq_true c10
     clear c10
     by_cases c11 : a1 < (a0.size : Int)
     ·rw [if_pos c11] at H
      have c11b0 : decide (a1 < (a0.size : Int)) = true := decide_eq_true c11
      clear c11
      by_cases c13 : (bt a0 a1) = 126
      ·rw [if_pos c13] at H
       have c13b0 : ((bt a0 a1) == 126) = true := beq_iff_eq.mpr c13
       have c13b1 : ((bt a0 a1) != 126) = false := bne_eq_false_iff_eq.mpr c13
       clear c13
       obtain rfl := Option.some.inj H
       have p12 : 0 ≤ (a1 : Int) := of_decide_eq_true (by first | (with_reducible assumption) | assumption)
       have q12 : a1 < (a0.size : Int) := of_decide_eq_true (by first | (with_reducible assumption) | assumption)
       have hx12 := bt_at a0 a1
       replace p12 := eq_true p12
       replace q12 := eq_true q12
       go_wp2
       go_ret
       exact ⟨by first | rfl | (simp; done) | (simp [*]; done), by repeat (first | exact Drawn0.refl _ | apply Drawn0.step)⟩
      ·rw [if_neg c13] at H
       have c13b0 : ((bt a0 a1) == 126) = false := beq_eq_false_iff_ne.mpr c13
       have c13b1 : ((bt a0 a1) != 126) = true := bne_iff_ne.mpr c13
       replace H := Option.bind_eq_some_iff.mp H
       obtain ⟨t197, A150, H⟩ := H
       replace H : (if t197 = true then (some (wrap64 (bt a0 a1))) else (some (wrap64 ((wrap64 (bt a0 a1)) + 256)))) = some r := H
       have A15 := Aside0.mk A150
       clear A150
       by_cases c16 : t197 = true
       ·subst c16
        have H1 : (some (wrap64 (bt a0 a1))) = some r := by rw [if_pos rfl] at H; exact H
        clear H
        have H := H1
        clear H1
        obtain rfl := Option.some.inj H
        have p12 : 0 ≤ (a1 : Int) := of_decide_eq_true (by first | (with_reducible assumption) | assumption)
        have q12 : a1 < (a0.size : Int) := of_decide_eq_true (by first | (with_reducible assumption) | assumption)
        have hx12 := bt_at a0 a1
        replace p12 := eq_true p12
        replace q12 := eq_true q12
        have p14 : 0 ≤ (a1 : Int) := of_decide_eq_true (by first | (with_reducible assumption) | assumption)
        have q14 : a1 < (a0.size : Int) := of_decide_eq_true (by first | (with_reducible assumption) | assumption)
        have hx14 := bt_at a0 a1
        replace p14 := eq_true p14
        replace q14 := eq_true q14
        go_wp2_with (first | ((with_reducible refine gate_callee (f := 65) rfl ?_); refine goesL_ (some 25) rfl rfl Tryd.func65 (by kernel_rfl) rfl #[.int .u8 (bt a0 a1)] rfl (by (try simp only [List.map_toArray, List.map_cons, List.map_nil]); first | done | rfl | (simp only [List.length_drop, List.length_take]; rfl)) ?_; (with_reducible refine (spec_isLetter.calls (bt a0 a1) true _ A15.out).mono ?_); rintro e w' ⟨rfl, ⟨nd, rfl⟩⟩; refine ⟨_, rfl, ?_⟩; have p17 : 0 ≤ (a1 : Int) := of_decide_eq_true (by first | (with_reducible assumption) | assumption); have q17 : a1 < (a0.size : Int) := of_decide_eq_true (by first | (with_reducible assumption) | assumption); have hx17 := bt_at a0 a1; replace p17 := eq_true p17; replace q17 := eq_true q17))
        go_ret
        exact ⟨by first | rfl | (simp; done) | (simp [*]; done), by repeat (first | exact Drawn0.refl _ | apply Drawn0.step)⟩
       ·replace c16 := Bool.eq_false_iff.mpr c16
        subst c16
        have H1 : (some (wrap64 ((wrap64 (bt a0 a1)) + 256))) = some r := by rw [if_neg (show ¬ (false = true) by decide)] at H; exact H
        clear H
        have H := H1
        clear H1
        obtain rfl := Option.some.inj H
        have p12 : 0 ≤ (a1 : Int) := of_decide_eq_true (by first | (with_reducible assumption) | assumption)
        have q12 : a1 < (a0.size : Int) := of_decide_eq_true (by first | (with_reducible assumption) | assumption)
        have hx12 := bt_at a0 a1
        replace p12 := eq_true p12
        replace q12 := eq_true q12
        have p14 : 0 ≤ (a1 : Int) := of_decide_eq_true (by first | (with_reducible assumption) | assumption)
        have q14 : a1 < (a0.size : Int) := of_decide_eq_true (by first | (with_reducible assumption) | assumption)
        have hx14 := bt_at a0 a1
        replace p14 := eq_true p14
        replace q14 := eq_true q14
        go_wp2_with (first | ((with_reducible refine gate_callee (f := 65) rfl ?_); refine goesL_ (some 25) rfl rfl Tryd.func65 (by kernel_rfl) rfl #[.int .u8 (bt a0 a1)] rfl (by (try simp only [List.map_toArray, List.map_cons, List.map_nil]); first | done | rfl | (simp only [List.length_drop, List.length_take]; rfl)) ?_; (with_reducible refine (spec_isLetter.calls (bt a0 a1) false _ A15.out).mono ?_); rintro e w' ⟨rfl, ⟨nd, rfl⟩⟩; refine ⟨_, rfl, ?_⟩; have p18 : 0 ≤ (a1 : Int) := of_decide_eq_true (by first | (with_reducible assumption) | assumption); have q18 : a1 < (a0.size : Int) := of_decide_eq_true (by first | (with_reducible assumption) | assumption); have hx18 := bt_at a0 a1; replace p18 := eq_true p18; replace q18 := eq_true q18))
        go_ret
        exact ⟨by first | rfl | (simp; done) | (simp [*]; done), by repeat (first | exact Drawn0.refl _ | apply Drawn0.step)⟩
     ·rw [if_neg c11] at H
      exact absurd H (by simp)
    ·rw [if_neg c10] at H
     exact absurd H (by simp)

/-! ### spec_debRun: function 50 -/
def spec_debRun.l0 : Nat → ByteArray → Int → Option (Int)
 | 0, _, _ => none
 | k + 1, x0, x3 => if x3 < (x0.size : Int) then (if 0 ≤ x3 then ((spec_isDigit.f (bt x0 x3)).bind fun t198 => (if t198 = true then (spec_debRun.l0 k x0 (wrap64 (x3 + 1))) else (some x3))) else (none)) else (some x3)
def spec_debRun.f (k : Nat) (a0 : ByteArray) : Option (Int) := spec_debRun.l0 k a0 0
theorem spec_debRun.mono_l : ∀ k, (∀ y0 y1, LeO (spec_debRun.l0 k y0 y1) (spec_debRun.l0 (k + 1) y0 y1))
 | 0 => fun _ _ r h => by simp [spec_debRun.l0] at h
 | k + 1 => by
  have ih0 := spec_debRun.mono_l k
  ·intro y0 y1
   unfold spec_debRun.l0
   repeat' first
   | (with_reducible exact ih0 _ _)
   | (with_reducible exact LeO.refl _)
   | (with_reducible exact LeO.none _)
   | (with_reducible refine LeO.ite ?_ ?_)
   | (with_reducible refine LeO.bind ?_ (fun _ => ?_))
   | exact ih0 _ _
   | exact LeO.none _
   | refine LeO.ite ?_ ?_
   | refine LeO.bind ?_ (fun _ => ?_)
theorem spec_debRun.mono : ∀ a0 k, LeO (spec_debRun.f k a0) (spec_debRun.f (k + 1) a0) := by
 intro a0 k
 have ih0 := spec_debRun.mono_l k
 unfold spec_debRun.f
 repeat' first
   | (with_reducible exact ih0 _ _)
   | (with_reducible exact LeO.refl _)
   | (with_reducible exact LeO.none _)
   | (with_reducible refine LeO.ite ?_ ?_)
   | (with_reducible refine LeO.bind ?_ (fun _ => ?_))
   | exact ih0 _ _
   | exact LeO.none _
   | refine LeO.ite ?_ ?_
   | refine LeO.bind ?_ (fun _ => ?_)
set_option maxHeartbeats 8000000 in
set_option maxRecDepth 100000 in
theorem spec_debRun.calls (k : Nat) (a0 : ByteArray) (r : Int) (w : World) (h : spec_debRun.f k a0 = some r) :
  Calls Tryd.prog 50 #[.string a0] w fun e w' => e = .returned (.int .i64 r) ∧ Drawn0 w w' := by
 have H : (spec_debRun.l0 k a0 0) = some r := h
 clear h
 have H' := Aside0.mk H
 clear H
 go_enter Tryd.func50, Tryd.ntmps50
 go_wp2
 go_loopg [3] k (fun kq v3 w' => ∃ (x3_1 : Int), v3 = .int .i64 x3_1 ∧ Aside0 (spec_debRun.l0 kq a0 x3_1 = some r) ∧ Aside0 (kq ≤ k) ∧ Drawn0 w w')
 case atStart => exact ⟨(0), (by first | rfl | (simp; done) | (simp [*]; done)), H', ⟨Nat.le_refl _⟩, by repeat (first | exact Drawn0.refl _ | apply Drawn0.step)⟩
 case round =>
  clear H'
  obtain ⟨x3_1, rfl, HA, HK1, ⟨m1, rfl⟩⟩ := hrel
  cases gk with
  | zero => exact absurd HA.out (by simp [spec_debRun.l0])
  | succ k1 =>
   have H := HA.out
   clear HA
   simp only [spec_debRun.l0] at H
   by_cases c2 : x3_1 < (a0.size : Int)
   ·rw [if_pos c2] at H
    have c2b0 : decide (x3_1 < (a0.size : Int)) = true := decide_eq_true c2
    clear c2
    by_cases c3 : 0 ≤ x3_1
    ·rw [if_pos c3] at H
     have c3b0 : decide (0 ≤ x3_1) = true := decide_eq_true c3
     clear c3
     replace H := Option.bind_eq_some_iff.mp H
     obtain ⟨t198, A50, H⟩ := H
     replace H : (if t198 = true then (spec_debRun.l0 k1 a0 (wrap64 (x3_1 + 1))) else (some x3_1)) = some r := H
     have A5 := Aside0.mk A50
     clear A50
     by_cases c6 : t198 = true
     ·subst c6
      have H1 : (spec_debRun.l0 k1 a0 (wrap64 (x3_1 + 1))) = some r := by rw [if_pos rfl] at H; exact H
      clear H
      have H := H1
      clear H1
      have H' := Aside0.mk H
      clear H
      have p4 : 0 ≤ (x3_1 : Int) := of_decide_eq_true (by first | (with_reducible assumption) | assumption)
      have q4 : x3_1 < (a0.size : Int) := of_decide_eq_true (by first | (with_reducible assumption) | assumption)
      have hx4 := bt_at a0 x3_1
      replace p4 := eq_true p4
      replace q4 := eq_true q4
      go_wp2_with (first | (go_at_call 37; (with_reducible refine (spec_isDigit.calls (bt a0 x3_1) true _ A5.out).mono ?_); rintro e w' ⟨rfl, ⟨nd, rfl⟩⟩))
      go_roundg k1
      case measure => have := HK1.out; omega
      case rel => exact ⟨(wrap64 (x3_1 + 1)), (by first | rfl | (simp; done) | (simp [*]; done)), H', ⟨by have := HK1.out; omega⟩, by repeat (first | exact Drawn0.refl _ | apply Drawn0.step)⟩
     ·replace c6 := Bool.eq_false_iff.mpr c6
      subst c6
      have H1 : (some x3_1) = some r := by rw [if_neg (show ¬ (false = true) by decide)] at H; exact H
      clear H
      have H := H1
      clear H1
      obtain rfl := Option.some.inj H
      have p4 : 0 ≤ (x3_1 : Int) := of_decide_eq_true (by first | (with_reducible assumption) | assumption)
      have q4 : x3_1 < (a0.size : Int) := of_decide_eq_true (by first | (with_reducible assumption) | assumption)
      have hx4 := bt_at a0 x3_1
      replace p4 := eq_true p4
      replace q4 := eq_true q4
      go_wp2_with (first | (go_at_call 37; (with_reducible refine (spec_isDigit.calls (bt a0 x3_1) false _ A5.out).mono ?_); rintro e w' ⟨rfl, ⟨nd, rfl⟩⟩))
      go_ret
      exact ⟨by first | rfl | (simp; done) | (simp [*]; done), by repeat (first | exact Drawn0.refl _ | apply Drawn0.step)⟩
    ·rw [if_neg c3] at H
     exact absurd H (by simp)
   ·rw [if_neg c2] at H
    have c2b0 : decide (x3_1 < (a0.size : Int)) = false := decide_eq_false c2
    clear c2
    obtain rfl := Option.some.inj H
    go_wp2
    go_ret
    exact ⟨by first | rfl | (simp; done) | (simp [*]; done), by repeat (first | exact Drawn0.refl _ | apply Drawn0.step)⟩

/-! ### spec_orderNumbers: function 51 -/
mutual
def spec_orderNumbers.j1 : Nat → ByteArray → ByteArray → Option (Int)
 | 0, _, _ => none
 | k + 1, x0, x1 => spec_orderNumbers.l1 k x0 x1
def spec_orderNumbers.j3 : Nat → ByteArray → ByteArray → Option (Int)
 | 0, _, _ => none
 | k + 1, x0, x1 => if (x0.size : Int) = (x1.size : Int) then ((spec_order.f x0 x1).bind fun t199 => (some t199)) else ((spec_orderInts.f (x0.size : Int) (x1.size : Int)).bind fun t200 => (some t200))
def spec_orderNumbers.l1 : Nat → ByteArray → ByteArray → Option (Int)
 | 0, _, _ => none
 | k + 1, x0, x1 => if (x1.size : Int) > 0 then (if 0 < (x1.size : Int) then (if (bt x1 0) = 48 then (if 1 ≤ (x1.size : Int) then (spec_orderNumbers.l1 k x0 (x1.extract 1 x1.size)) else (none)) else (spec_orderNumbers.j3 k x0 x1)) else (none)) else (spec_orderNumbers.j3 k x0 x1)
def spec_orderNumbers.l0 : Nat → ByteArray → ByteArray → Option (Int)
 | 0, _, _ => none
 | k + 1, x0, x1 => if (x0.size : Int) > 0 then (if 0 < (x0.size : Int) then (if (bt x0 0) = 48 then (if 1 ≤ (x0.size : Int) then (spec_orderNumbers.l0 k (x0.extract 1 x0.size) x1) else (none)) else (spec_orderNumbers.j1 k x0 x1)) else (none)) else (spec_orderNumbers.j1 k x0 x1)
end
def spec_orderNumbers.f (k : Nat) (a0 : ByteArray) (a1 : ByteArray) : Option (Int) := spec_orderNumbers.l0 k a0 a1
theorem spec_orderNumbers.mono_l : ∀ k, (∀ y0 y1, LeO (spec_orderNumbers.j1 k y0 y1) (spec_orderNumbers.j1 (k + 1) y0 y1)) ∧ (∀ y0 y1, LeO (spec_orderNumbers.j3 k y0 y1) (spec_orderNumbers.j3 (k + 1) y0 y1)) ∧ (∀ y0 y1, LeO (spec_orderNumbers.l1 k y0 y1) (spec_orderNumbers.l1 (k + 1) y0 y1)) ∧ (∀ y0 y1, LeO (spec_orderNumbers.l0 k y0 y1) (spec_orderNumbers.l0 (k + 1) y0 y1))
 | 0 => ⟨fun _ _ r h => by simp [spec_orderNumbers.j1] at h, fun _ _ r h => by simp [spec_orderNumbers.j3] at h, fun _ _ r h => by simp [spec_orderNumbers.l1] at h, fun _ _ r h => by simp [spec_orderNumbers.l0] at h⟩
 | k + 1 => by
  obtain ⟨ih0, ih1, ih2, ih3⟩ := spec_orderNumbers.mono_l k
  refine ⟨?_, ?_, ?_, ?_⟩
  ·intro y0 y1
   unfold spec_orderNumbers.j1
   repeat' first
   | (with_reducible exact ih0 _ _)
   | (with_reducible exact ih1 _ _)
   | (with_reducible exact ih2 _ _)
   | (with_reducible exact ih3 _ _)
   | (with_reducible exact LeO.refl _)
   | (with_reducible exact LeO.none _)
   | (with_reducible refine LeO.ite ?_ ?_)
   | (with_reducible refine LeO.bind ?_ (fun _ => ?_))
   | exact ih0 _ _
   | exact ih1 _ _
   | exact ih2 _ _
   | exact ih3 _ _
   | exact LeO.none _
   | refine LeO.ite ?_ ?_
   | refine LeO.bind ?_ (fun _ => ?_)
  ·intro y0 y1
   unfold spec_orderNumbers.j3
   repeat' first
   | (with_reducible exact ih0 _ _)
   | (with_reducible exact ih1 _ _)
   | (with_reducible exact ih2 _ _)
   | (with_reducible exact ih3 _ _)
   | (with_reducible exact LeO.refl _)
   | (with_reducible exact LeO.none _)
   | (with_reducible refine LeO.ite ?_ ?_)
   | (with_reducible refine LeO.bind ?_ (fun _ => ?_))
   | exact ih0 _ _
   | exact ih1 _ _
   | exact ih2 _ _
   | exact ih3 _ _
   | exact LeO.none _
   | refine LeO.ite ?_ ?_
   | refine LeO.bind ?_ (fun _ => ?_)
  ·intro y0 y1
   unfold spec_orderNumbers.l1
   repeat' first
   | (with_reducible exact ih0 _ _)
   | (with_reducible exact ih1 _ _)
   | (with_reducible exact ih2 _ _)
   | (with_reducible exact ih3 _ _)
   | (with_reducible exact LeO.refl _)
   | (with_reducible exact LeO.none _)
   | (with_reducible refine LeO.ite ?_ ?_)
   | (with_reducible refine LeO.bind ?_ (fun _ => ?_))
   | exact ih0 _ _
   | exact ih1 _ _
   | exact ih2 _ _
   | exact ih3 _ _
   | exact LeO.none _
   | refine LeO.ite ?_ ?_
   | refine LeO.bind ?_ (fun _ => ?_)
  ·intro y0 y1
   unfold spec_orderNumbers.l0
   repeat' first
   | (with_reducible exact ih0 _ _)
   | (with_reducible exact ih1 _ _)
   | (with_reducible exact ih2 _ _)
   | (with_reducible exact ih3 _ _)
   | (with_reducible exact LeO.refl _)
   | (with_reducible exact LeO.none _)
   | (with_reducible refine LeO.ite ?_ ?_)
   | (with_reducible refine LeO.bind ?_ (fun _ => ?_))
   | exact ih0 _ _
   | exact ih1 _ _
   | exact ih2 _ _
   | exact ih3 _ _
   | exact LeO.none _
   | refine LeO.ite ?_ ?_
   | refine LeO.bind ?_ (fun _ => ?_)
theorem spec_orderNumbers.mono : ∀ a0 a1 k, LeO (spec_orderNumbers.f k a0 a1) (spec_orderNumbers.f (k + 1) a0 a1) := by
 intro a0 a1 k
 obtain ⟨ih0, ih1, ih2, ih3⟩ := spec_orderNumbers.mono_l k
 unfold spec_orderNumbers.f
 repeat' first
   | (with_reducible exact ih0 _ _)
   | (with_reducible exact ih1 _ _)
   | (with_reducible exact ih2 _ _)
   | (with_reducible exact ih3 _ _)
   | (with_reducible exact LeO.refl _)
   | (with_reducible exact LeO.none _)
   | (with_reducible refine LeO.ite ?_ ?_)
   | (with_reducible refine LeO.bind ?_ (fun _ => ?_))
   | exact ih0 _ _
   | exact ih1 _ _
   | exact ih2 _ _
   | exact ih3 _ _
   | exact LeO.none _
   | refine LeO.ite ?_ ?_
   | refine LeO.bind ?_ (fun _ => ?_)
set_option maxHeartbeats 8000000 in
set_option maxRecDepth 100000 in
theorem spec_orderNumbers.calls (k : Nat) (a0 : ByteArray) (a1 : ByteArray) (r : Int) (w : World) (h : spec_orderNumbers.f k a0 a1 = some r) :
  Calls Tryd.prog 51 #[.string a0, .string a1] w fun e w' => e = .returned (.int .i64 r) ∧ Drawn0 w w' := by
 have H : (spec_orderNumbers.l0 k a0 a1) = some r := h
 clear h
 have HC3 := Aside0.mk H
 clear H
 go_enter Tryd.func51, Tryd.ntmps51
 go_upto_block 0 with (fail)
 go_cut [0] (fun v0 wc => ∃ (kq : Nat) (x0_2 : ByteArray), v0 = .string x0_2 ∧ Aside0 (spec_orderNumbers.j1 kq x0_2 a1 = some r) ∧ Aside0 (kq ≤ k) ∧ Drawn0 w wc)
 case first =>
  have H := HC3.out
  clear HC3
  have H' := Aside0.mk H
  clear H
  go_wp2
  go_loopg [0] k (fun kq v0 w' => ∃ (x0_1 : ByteArray), v0 = .string x0_1 ∧ Aside0 (spec_orderNumbers.l0 kq x0_1 a1 = some r) ∧ Aside0 (kq ≤ k) ∧ Drawn0 w w')
  case atStart => exact ⟨(a0), (by first | rfl | (simp; done) | (simp [*]; done)), H', ⟨Nat.le_refl _⟩, by repeat (first | exact Drawn0.refl _ | apply Drawn0.step)⟩
  case round =>
   clear H'
   try clear p2
   obtain ⟨x0_1, rfl, HA, HK1, ⟨m1, rfl⟩⟩ := hrel
   cases gk with
   | zero => exact absurd HA.out (by simp [spec_orderNumbers.l0])
   | succ k1 =>
    have H := HA.out
    clear HA
    simp only [spec_orderNumbers.l0] at H
    by_cases c4 : (x0_1.size : Int) > 0
    ·rw [if_pos c4] at H
     have c4b0 : decide (0 < (x0_1.size : Int)) = true := decide_eq_true c4
     have c4b1 : decide (0 < x0_1.size) = true := decide_eq_true (by omega)
     clear c4
     (first | rw [c4b0] | (simp only [i64_w, i32_w]; rw [c4b0]) | skip)
     by_cases c5 : 0 < (x0_1.size : Int)
     ·rw [if_pos c5] at H
      have c5b0 : decide (0 < (x0_1.size : Int)) = true := decide_eq_true c5
      have c5b1 : decide (0 < x0_1.size) = true := decide_eq_true (by omega)
      clear c5
      by_cases c7 : (bt x0_1 0) = 48
      ·rw [if_pos c7] at H
       have c7b0 : ((bt x0_1 0) == 48) = true := beq_iff_eq.mpr c7
       have c7b1 : ((bt x0_1 0) != 48) = false := bne_eq_false_iff_eq.mpr c7
       clear c7
       by_cases c8 : 1 ≤ (x0_1.size : Int)
       ·rw [if_pos c8] at H
        have c8b0 := eq_true c8
        have c8b1 : decide (1 ≤ (x0_1.size : Int)) = true := decide_eq_true c8
        clear c8
        have H' := Aside0.mk H
        clear H
        have p6 : 0 ≤ (0 : Int) := (by omega)
        have q6 : 0 < x0_1.size := (by have : (0 : Int) < (x0_1.size : Int) := of_decide_eq_true (by first | (with_reducible assumption) | assumption); omega)
        have hx6 : ∀ h : 0 < x0_1.size, ((x0_1[0]'h).toNat : Int) = bt x0_1 0 := bt_at x0_1 0
        clear p6
        have qi6 : (0 < (x0_1.size : Int)) = True := eq_true (of_decide_eq_true (by first | (with_reducible assumption) | assumption))
        replace q6 := eq_true q6
        go_wp2
        go_roundg k1
        case measure => have := HK1.out; omega
        case rel => exact ⟨(x0_1.extract 1 x0_1.size), (by first | rfl | (simp; done) | (simp [*]; done)), H', ⟨by have := HK1.out; omega⟩, by repeat (first | exact Drawn0.refl _ | apply Drawn0.step)⟩
       ·rw [if_neg c8] at H
        exact absurd H (by simp)
      ·rw [if_neg c7] at H
       have c7b0 : ((bt x0_1 0) == 48) = false := beq_eq_false_iff_ne.mpr c7
       have c7b1 : ((bt x0_1 0) != 48) = true := bne_iff_ne.mpr c7
       have H' := Aside0.mk H
       clear H
       have p6 : 0 ≤ (0 : Int) := (by omega)
       have q6 : 0 < x0_1.size := (by have : (0 : Int) < (x0_1.size : Int) := of_decide_eq_true (by first | (with_reducible assumption) | assumption); omega)
       have hx6 : ∀ h : 0 < x0_1.size, ((x0_1[0]'h).toNat : Int) = bt x0_1 0 := bt_at x0_1 0
       clear p6
       have qi6 : (0 < (x0_1.size : Int)) = True := eq_true (of_decide_eq_true (by first | (with_reducible assumption) | assumption))
       replace q6 := eq_true q6
       go_wp2
       go_meet
       case rel => exact ⟨_, (x0_1), (by first | rfl | (simp; done) | (simp [*]; done)), H', ⟨by have := HK1.out; first | omega | exact Nat.le_refl _⟩, by repeat (first | exact Drawn0.refl _ | apply Drawn0.step)⟩
     ·rw [if_neg c5] at H
      exact absurd H (by simp)
    ·rw [if_neg c4] at H
     have c4b0 : decide (0 < (x0_1.size : Int)) = false := decide_eq_false c4
     have c4b1 : decide (0 < x0_1.size) = false := decide_eq_false (by omega)
     clear c4
     (first | rw [c4b0] | (simp only [i64_w, i32_w]; rw [c4b0]) | skip)
     have H' := Aside0.mk H
     clear H
     go_wp2
     go_meet
     case rel => exact ⟨_, (x0_1), (by first | rfl | (simp; done) | (simp [*]; done)), H', ⟨by have := HK1.out; first | omega | exact Nat.le_refl _⟩, by repeat (first | exact Drawn0.refl _ | apply Drawn0.step)⟩
 case rest =>
  clear HC3
  try clear p2
  try clear c4
  try clear c4b0
  try clear c4b1
  try clear c5
  try clear c5b0
  try clear c5b1
  try clear p6
  try clear q6
  try clear hx6
  try clear qi6
  try clear c7
  try clear c7b0
  try clear c7b1
  try clear c8
  try clear c8b0
  try clear c8b1
  try clear p2
  try clear p6
  try clear q6
  obtain ⟨kq, x0_2, rfl, HA, HJ2, ⟨mc2, rfl⟩⟩ := hcut
  cases kq with
  | zero => exact absurd HA.out (by simp [spec_orderNumbers.j1])
  | succ kj2 =>
   have H := HA.out
   clear HA
   simp only [spec_orderNumbers.j1] at H
   have HC9 := Aside0.mk H
   clear H
   go_upto_block 2 with (fail)
   go_cut [1] (fun v1 wc => ∃ (kq : Nat) (x1_8 : ByteArray), v1 = .string x1_8 ∧ Aside0 (spec_orderNumbers.j3 kq x0_2 x1_8 = some r) ∧ Aside0 (kq ≤ kj2) ∧ Drawn0 w wc)
   case first =>
    have H := HC9.out
    clear HC9
    have H' := Aside0.mk H
    clear H
    go_wp2
    go_loopg [1] kj2 (fun kq v1 w' => ∃ (x1_2 : ByteArray), v1 = .string x1_2 ∧ Aside0 (spec_orderNumbers.l1 kq x0_2 x1_2 = some r) ∧ Aside0 (kq ≤ kj2) ∧ Drawn0 w w')
    case atStart => exact ⟨(a1), (by first | rfl | (simp; done) | (simp [*]; done)), H', ⟨Nat.le_refl _⟩, by repeat (first | exact Drawn0.refl _ | apply Drawn0.step)⟩
    case round =>
     clear H'
     try clear c2
     try clear p2
     try clear c4
     try clear c4b0
     try clear c4b1
     try clear c5
     try clear c5b0
     try clear c5b1
     try clear p6
     try clear q6
     try clear hx6
     try clear qi6
     try clear c7
     try clear c7b0
     try clear c7b1
     try clear c8
     try clear c8b0
     try clear c8b1
     try clear p2
     try clear p6
     try clear q6
     obtain ⟨x1_2, rfl, HA, HK2, ⟨m2, rfl⟩⟩ := hrel
     cases gk with
     | zero => exact absurd HA.out (by simp [spec_orderNumbers.l1])
     | succ k2 =>
      have H := HA.out
      clear HA
      simp only [spec_orderNumbers.l1] at H
      by_cases c10 : (x1_2.size : Int) > 0
      ·rw [if_pos c10] at H
       have c10b0 : decide (0 < (x1_2.size : Int)) = true := decide_eq_true c10
       have c10b1 : decide (0 < x1_2.size) = true := decide_eq_true (by omega)
       clear c10
       (first | rw [c10b0] | (simp only [i64_w, i32_w]; rw [c10b0]) | skip)
       by_cases c11 : 0 < (x1_2.size : Int)
       ·rw [if_pos c11] at H
        have c11b0 : decide (0 < (x1_2.size : Int)) = true := decide_eq_true c11
        have c11b1 : decide (0 < x1_2.size) = true := decide_eq_true (by omega)
        clear c11
        by_cases c13 : (bt x1_2 0) = 48
        ·rw [if_pos c13] at H
         have c13b0 : ((bt x1_2 0) == 48) = true := beq_iff_eq.mpr c13
         have c13b1 : ((bt x1_2 0) != 48) = false := bne_eq_false_iff_eq.mpr c13
         clear c13
         by_cases c14 : 1 ≤ (x1_2.size : Int)
         ·rw [if_pos c14] at H
          have c14b0 := eq_true c14
          have c14b1 : decide (1 ≤ (x1_2.size : Int)) = true := decide_eq_true c14
          clear c14
          have H' := Aside0.mk H
          clear H
          have p12 : 0 ≤ (0 : Int) := (by omega)
          have q12 : 0 < x1_2.size := (by have : (0 : Int) < (x1_2.size : Int) := of_decide_eq_true (by first | (with_reducible assumption) | assumption); omega)
          have hx12 : ∀ h : 0 < x1_2.size, ((x1_2[0]'h).toNat : Int) = bt x1_2 0 := bt_at x1_2 0
          clear p12
          have qi12 : (0 < (x1_2.size : Int)) = True := eq_true (of_decide_eq_true (by first | (with_reducible assumption) | assumption))
          replace q12 := eq_true q12
          go_wp2
          go_roundg k2
          case measure => have := HJ2.out; have := HK2.out; omega
          case rel => exact ⟨(x1_2.extract 1 x1_2.size), (by first | rfl | (simp; done) | (simp [*]; done)), H', ⟨by have := HJ2.out; have := HK2.out; omega⟩, by repeat (first | exact Drawn0.refl _ | apply Drawn0.step)⟩
         ·rw [if_neg c14] at H
          exact absurd H (by simp)
        ·rw [if_neg c13] at H
         have c13b0 : ((bt x1_2 0) == 48) = false := beq_eq_false_iff_ne.mpr c13
         have c13b1 : ((bt x1_2 0) != 48) = true := bne_iff_ne.mpr c13
         have H' := Aside0.mk H
         clear H
         have p12 : 0 ≤ (0 : Int) := (by omega)
         have q12 : 0 < x1_2.size := (by have : (0 : Int) < (x1_2.size : Int) := of_decide_eq_true (by first | (with_reducible assumption) | assumption); omega)
         have hx12 : ∀ h : 0 < x1_2.size, ((x1_2[0]'h).toNat : Int) = bt x1_2 0 := bt_at x1_2 0
         clear p12
         have qi12 : (0 < (x1_2.size : Int)) = True := eq_true (of_decide_eq_true (by first | (with_reducible assumption) | assumption))
         replace q12 := eq_true q12
         go_wp2
         go_meet
         case rel => exact ⟨_, (x1_2), (by first | rfl | (simp; done) | (simp [*]; done)), H', ⟨by have := HJ2.out; have := HK2.out; first | omega | exact Nat.le_refl _⟩, by repeat (first | exact Drawn0.refl _ | apply Drawn0.step)⟩
       ·rw [if_neg c11] at H
        exact absurd H (by simp)
      ·rw [if_neg c10] at H
       have c10b0 : decide (0 < (x1_2.size : Int)) = false := decide_eq_false c10
       have c10b1 : decide (0 < x1_2.size) = false := decide_eq_false (by omega)
       clear c10
       (first | rw [c10b0] | (simp only [i64_w, i32_w]; rw [c10b0]) | skip)
       have H' := Aside0.mk H
       clear H
       go_wp2
       go_meet
       case rel => exact ⟨_, (x1_2), (by first | rfl | (simp; done) | (simp [*]; done)), H', ⟨by have := HJ2.out; have := HK2.out; first | omega | exact Nat.le_refl _⟩, by repeat (first | exact Drawn0.refl _ | apply Drawn0.step)⟩
   case rest =>
    clear HC9
    try clear c1
    try clear p1
    try clear q1
    try clear hx1
    try clear qi1
    try clear c2
    try clear p2
    try clear c4
    try clear c4b0
    try clear c4b1
    try clear c5
    try clear c5b0
    try clear c5b1
    try clear p6
    try clear q6
    try clear hx6
    try clear qi6
    try clear c7
    try clear c7b0
    try clear c7b1
    try clear c8
    try clear c8b0
    try clear c8b1
    try clear c10
    try clear c10b0
    try clear c10b1
    try clear c11
    try clear c11b0
    try clear c11b1
    try clear p12
    try clear q12
    try clear hx12
    try clear qi12
    try clear c13
    try clear c13b0
    try clear c13b1
    try clear c14
    try clear c14b0
    try clear c14b1
    try clear p12
    try clear p2
    try clear p6
    try clear q12
    try clear q6
    obtain ⟨kq, x1_8, rfl, HA, HJ8, ⟨mc8, rfl⟩⟩ := hcut
    cases kq with
    | zero => exact absurd HA.out (by simp [spec_orderNumbers.j3])
    | succ kj8 =>
     have H := HA.out
     clear HA
     simp only [spec_orderNumbers.j3] at H
     by_cases c15 : (x0_2.size : Int) = (x1_8.size : Int)
     ·rw [if_pos c15] at H
      have c15b0 : ((x0_2.size : Int) == (x1_8.size : Int)) = true := beq_iff_eq.mpr c15
      have c15b1 : ((x0_2.size : Int) != (x1_8.size : Int)) = false := bne_eq_false_iff_eq.mpr c15
      have c15b2 : (x0_2.size == x1_8.size) = true := by first | simpa using c15 | (simp at c15 ⊢; omega)
      clear c15
      replace H := Option.bind_eq_some_iff.mp H
      obtain ⟨t199, A160, H⟩ := H
      replace H : (some t199) = some r := H
      have A16 := Aside0.mk A160
      clear A160
      obtain rfl := Option.some.inj H
      go_wp2_with (first | ((with_reducible refine gate_callee (f := 40) rfl ?_); refine goesL_ (some 37) rfl rfl Tryd.func40 (by kernel_rfl) rfl #[.string x0_2, .string x1_8] rfl (by (try simp only [List.map_toArray, List.map_cons, List.map_nil]); first | done | rfl | (simp only [List.length_drop, List.length_take]; rfl)) ?_; (with_reducible refine (spec_order.calls x0_2 x1_8 t199 _ A16.out).mono ?_); rintro e w' ⟨rfl, ⟨nd, rfl⟩⟩; refine ⟨_, rfl, ?_⟩))
      go_ret
      exact ⟨by first | rfl | (simp; done) | (simp [*]; done), by repeat (first | exact Drawn0.refl _ | apply Drawn0.step)⟩
     ·rw [if_neg c15] at H
      have c15b0 : ((x0_2.size : Int) == (x1_8.size : Int)) = false := beq_eq_false_iff_ne.mpr c15
      have c15b1 : ((x0_2.size : Int) != (x1_8.size : Int)) = true := bne_iff_ne.mpr c15
      have c15b2 : (x0_2.size == x1_8.size) = false := by first | simpa using c15 | (simp at c15 ⊢; omega)
      replace H := Option.bind_eq_some_iff.mp H
      obtain ⟨t200, A170, H⟩ := H
      replace H : (some t200) = some r := H
      have A17 := Aside0.mk A170
      clear A170
      obtain rfl := Option.some.inj H
      go_wp2_with (first | ((with_reducible refine gate_callee (f := 39) rfl ?_); refine goesL_ (some 34) rfl rfl Tryd.func39 (by kernel_rfl) rfl #[.int .i64 (x0_2.size : Int), .int .i64 (x1_8.size : Int)] rfl (by (try simp only [List.map_toArray, List.map_cons, List.map_nil]); first | done | rfl | (simp only [List.length_drop, List.length_take]; rfl)) ?_; (with_reducible refine (spec_orderInts.calls (x0_2.size : Int) (x1_8.size : Int) t200 _ A17.out).mono ?_); rintro e w' ⟨rfl, ⟨nd, rfl⟩⟩; refine ⟨_, rfl, ?_⟩))
      go_ret
      exact ⟨by first | rfl | (simp; done) | (simp [*]; done), by repeat (first | exact Drawn0.refl _ | apply Drawn0.step)⟩

end Go.Proofs.YtkcciinapkeaiaaDoor.Z
