-- Written by a program of this session (myprint.py).
import Derived.Test.YtmhlmkefnmdbcaaDoorZ0
import Derived.Test.YtmhlmkefnmdbcaaDoorZ8
import Derived.Test.YtmhlmkefnmdbcaaDoorZ14
import Derived.Test.YtmhlmkefnmdbcaaDoorGe
namespace Go.Proofs.YtmhlmkefnmdbcaaDoor.Z
open Go.Proofs.YtmhlmkefnmdbcaaDoor.Gw
open Go.RowKit Go.Proofs.YtmhlmkefnmdbcaaDoorW.PrintWords Go.Proofs.YtmhlmkefnmdbcaaDoorW.PrintLast Go.Proofs.YtmhlmkefnmdbcaaDoorW.PrintMore
attribute [local go_sem high] Go.Proofs.YtmhlmkefnmdbcaaDoor.Ge.gtr_str
attribute [local go_sem] max2_int min2_int max_two min_two max_three min_three max_four min_four   -- for this text's walks alone
set_option linter.unusedVariables false
set_option linter.unusedSimpArgs false

/-! ### laws_plain: function 19 -/
mutual
def laws_plain.l0 : Nat → ByteArray → ByteArray → Int → Option (Bool)
  | 0, _, _, _ => none
  | k + 1, x0, x1, x5 => if x5 < (x0.size : Int) then (if 0 ≤ x5 then (if (bt x0 x5) ≥ 48 then (if (bt x0 x5) ≤ 57 then (laws_plain.j1 k x0 x1 x5 (bt x0 x5) true) else (if (bt x0 x5) ≥ 97 then (if (bt x0 x5) ≤ 122 then (laws_plain.j1 k x0 x1 x5 (bt x0 x5) true) else (if (bt x0 x5) ≥ 65 then (laws_plain.j1 k x0 x1 x5 (bt x0 x5) (decide ((bt x0 x5) ≤ 90))) else (laws_plain.j1 k x0 x1 x5 (bt x0 x5) false))) else (if (bt x0 x5) ≥ 65 then (laws_plain.j1 k x0 x1 x5 (bt x0 x5) (decide ((bt x0 x5) ≤ 90))) else (laws_plain.j1 k x0 x1 x5 (bt x0 x5) false)))) else (if (bt x0 x5) ≥ 97 then (if (bt x0 x5) ≤ 122 then (laws_plain.j1 k x0 x1 x5 (bt x0 x5) true) else (if (bt x0 x5) ≥ 65 then (laws_plain.j1 k x0 x1 x5 (bt x0 x5) (decide ((bt x0 x5) ≤ 90))) else (laws_plain.j1 k x0 x1 x5 (bt x0 x5) false))) else (if (bt x0 x5) ≥ 65 then (laws_plain.j1 k x0 x1 x5 (bt x0 x5) (decide ((bt x0 x5) ≤ 90))) else (laws_plain.j1 k x0 x1 x5 (bt x0 x5) false)))) else (none)) else (some (!x0.toList.isEmpty))
def laws_plain.j1 : Nat → ByteArray → ByteArray → Int → Int → Bool → Option (Bool)
  | 0, _, _, _, _, _ => none
  | k + 1, x0, x1, x5, x6, x7 => laws_plain.l1 k x0 x1 x5 x6 x7 0
def laws_plain.l1 : Nat → ByteArray → ByteArray → Int → Int → Bool → Int → Option (Bool)
  | 0, _, _, _, _, _, _ => none
  | k + 1, x0, x1, x5, x6, x7, x8 => if x8 < (x1.size : Int) then (if x7 = true then (laws_plain.l1 k x0 x1 x5 x6 true (wrap64 (x8 + 1))) else (if 0 ≤ x8 then (laws_plain.l1 k x0 x1 x5 x6 (x6 == (bt x1 x8)) (wrap64 (x8 + 1))) else (none))) else (if x7 = true then (laws_plain.l0 k x0 x1 (wrap64 (x5 + 1))) else (some false))
end
def laws_plain.f (k : Nat) (a0 : ByteArray) (a1 : ByteArray) : Option (Bool) := laws_plain.l0 k a0 a1 0
theorem laws_plain.mono_l : ∀ k, (∀ y0 y1 y2, LeO (laws_plain.l0 k y0 y1 y2) (laws_plain.l0 (k + 1) y0 y1 y2)) ∧ (∀ y0 y1 y2 y3 y4, LeO (laws_plain.j1 k y0 y1 y2 y3 y4) (laws_plain.j1 (k + 1) y0 y1 y2 y3 y4)) ∧ (∀ y0 y1 y2 y3 y4 y5, LeO (laws_plain.l1 k y0 y1 y2 y3 y4 y5) (laws_plain.l1 (k + 1) y0 y1 y2 y3 y4 y5))
  | 0 => ⟨fun _ _ _ r h => by simp [laws_plain.l0] at h, fun _ _ _ _ _ r h => by simp [laws_plain.j1] at h, fun _ _ _ _ _ _ r h => by simp [laws_plain.l1] at h⟩
  | k + 1 => by
    obtain ⟨ih0, ih1, ih2⟩ := laws_plain.mono_l k
    refine ⟨?_, ?_, ?_⟩
    · intro y0 y1 y2
      unfold laws_plain.l0
      repeat' first
      | (with_reducible exact ih0 _ _ _)
      | (with_reducible exact ih1 _ _ _ _ _)
      | (with_reducible exact ih2 _ _ _ _ _ _)
      | (with_reducible exact LeO.refl _)
      | (with_reducible exact LeO.none _)
      | (with_reducible refine LeO.ite ?_ ?_)
      | (with_reducible refine LeO.bind ?_ (fun _ => ?_))
      | exact ih0 _ _ _
      | exact ih1 _ _ _ _ _
      | exact ih2 _ _ _ _ _ _
      | exact LeO.none _
      | refine LeO.ite ?_ ?_
      | refine LeO.bind ?_ (fun _ => ?_)
    · intro y0 y1 y2 y3 y4
      unfold laws_plain.j1
      repeat' first
      | (with_reducible exact ih0 _ _ _)
      | (with_reducible exact ih1 _ _ _ _ _)
      | (with_reducible exact ih2 _ _ _ _ _ _)
      | (with_reducible exact LeO.refl _)
      | (with_reducible exact LeO.none _)
      | (with_reducible refine LeO.ite ?_ ?_)
      | (with_reducible refine LeO.bind ?_ (fun _ => ?_))
      | exact ih0 _ _ _
      | exact ih1 _ _ _ _ _
      | exact ih2 _ _ _ _ _ _
      | exact LeO.none _
      | refine LeO.ite ?_ ?_
      | refine LeO.bind ?_ (fun _ => ?_)
    · intro y0 y1 y2 y3 y4 y5
      unfold laws_plain.l1
      repeat' first
      | (with_reducible exact ih0 _ _ _)
      | (with_reducible exact ih1 _ _ _ _ _)
      | (with_reducible exact ih2 _ _ _ _ _ _)
      | (with_reducible exact LeO.refl _)
      | (with_reducible exact LeO.none _)
      | (with_reducible refine LeO.ite ?_ ?_)
      | (with_reducible refine LeO.bind ?_ (fun _ => ?_))
      | exact ih0 _ _ _
      | exact ih1 _ _ _ _ _
      | exact ih2 _ _ _ _ _ _
      | exact LeO.none _
      | refine LeO.ite ?_ ?_
      | refine LeO.bind ?_ (fun _ => ?_)
theorem laws_plain.mono : ∀ a0 a1 k, LeO (laws_plain.f k a0 a1) (laws_plain.f (k + 1) a0 a1) := by
  intro a0 a1 k
  obtain ⟨ih0, ih1, ih2⟩ := laws_plain.mono_l k
  unfold laws_plain.f
  repeat' first
      | (with_reducible exact ih0 _ _ _)
      | (with_reducible exact ih1 _ _ _ _ _)
      | (with_reducible exact ih2 _ _ _ _ _ _)
      | (with_reducible exact LeO.refl _)
      | (with_reducible exact LeO.none _)
      | (with_reducible refine LeO.ite ?_ ?_)
      | (with_reducible refine LeO.bind ?_ (fun _ => ?_))
      | exact ih0 _ _ _
      | exact ih1 _ _ _ _ _
      | exact ih2 _ _ _ _ _ _
      | exact LeO.none _
      | refine LeO.ite ?_ ?_
      | refine LeO.bind ?_ (fun _ => ?_)
set_option maxHeartbeats 8000000 in
set_option maxRecDepth 100000 in
theorem laws_plain.calls (k : Nat) (a0 : ByteArray) (a1 : ByteArray) (r : Bool) (w : World) (h : laws_plain.f k a0 a1 = some r) :
    Calls Tryd.prog 19 #[.string a0, .string a1] w fun e w' => e = .returned (.bool r) ∧ Drawn0 w w' := by
  have H : (laws_plain.l0 k a0 a1 0) = some r := h
  clear h
  have H' := Aside0.mk H
  clear H
  go_enter Tryd.func19, Tryd.ntmps19
  go_wp2
  go_loopg [5] k (fun kq v5 w' => ∃ (x5_1 : Int), v5 = .int .i64 x5_1 ∧ Aside0 (laws_plain.l0 kq a0 a1 x5_1 = some r) ∧ Aside0 (kq ≤ k) ∧ Drawn0 w w')
  case atStart => exact ⟨(0), (by first | rfl | (simp; done) | (simp [*]; done)), H', ⟨Nat.le_refl _⟩, by repeat (first | exact Drawn0.refl _ | apply Drawn0.step)⟩
  case round =>
    clear H'
    try clear c1
    try clear p2
    obtain ⟨x5_1, rfl, HA, HK1, ⟨m1, rfl⟩⟩ := hrel
    cases gk with
    | zero => exact absurd HA.out (by simp [laws_plain.l0])
    | succ k1 =>
      have H := HA.out
      clear HA
      simp only [laws_plain.l0] at H
      by_cases c3 : x5_1 < (a0.size : Int)
      · rw [if_pos c3] at H
        have c3b0 : decide (x5_1 < (a0.size : Int)) = true := decide_eq_true c3
        clear c3
        by_cases c4 : 0 ≤ x5_1
        · rw [if_pos c4] at H
          have c4b0 : decide (0 ≤ x5_1) = true := decide_eq_true c4
          clear c4
          have HC6 := Aside0.mk H
          clear H
          have p5 : 0 ≤ (x5_1 : Int) := of_decide_eq_true (by first | (with_reducible assumption) | assumption)
          have q5 : x5_1 < (a0.size : Int) := of_decide_eq_true (by first | (with_reducible assumption) | assumption)
          have hx5 := bt_at a0 x5_1
          replace p5 := eq_true p5
          replace q5 := eq_true q5
          go_upto_region 5 with (fail)
          go_cut [7] (fun v7 wc => ∃ (kq : Nat) (x7_5 : Bool), v7 = .bool x7_5 ∧ Aside0 (laws_plain.j1 kq a0 a1 x5_1 (bt a0 x5_1) x7_5 = some r) ∧ Aside0 (kq ≤ k1) ∧ Drawn0 w wc)
          case first =>
            have H := HC6.out
            clear HC6
            by_cases c7 : (bt a0 x5_1) ≥ 48
            · rw [if_pos c7] at H
              have c7b0 : decide (48 ≤ (bt a0 x5_1)) = true := decide_eq_true c7
              clear c7
              (first | rw [c7b0] | (simp only [i64_w, i32_w]; rw [c7b0]) | skip)
              by_cases c8 : (bt a0 x5_1) ≤ 57
              · rw [if_pos c8] at H
                have c8b0 : decide ((bt a0 x5_1) ≤ 57) = true := decide_eq_true c8
                clear c8
                have H' := Aside0.mk H
                clear H
                go_wp2
                go_meet
                case rel => exact ⟨_, (true), (by first | rfl | (simp; done) | (simp [*]; done)), H', ⟨by have := HK1.out; first | omega | exact Nat.le_refl _⟩, by repeat (first | exact Drawn0.refl _ | apply Drawn0.step)⟩
              · rw [if_neg c8] at H
                have c8b0 : decide ((bt a0 x5_1) ≤ 57) = false := decide_eq_false c8
                clear c8
                by_cases c9 : (bt a0 x5_1) ≥ 97
                · rw [if_pos c9] at H
                  have c9b0 : decide (97 ≤ (bt a0 x5_1)) = true := decide_eq_true c9
                  clear c9
                  by_cases c10 : (bt a0 x5_1) ≤ 122
                  · rw [if_pos c10] at H
                    have c10b0 : decide ((bt a0 x5_1) ≤ 122) = true := decide_eq_true c10
                    clear c10
                    have H' := Aside0.mk H
                    clear H
                    go_wp2
                    go_meet
                    case rel => exact ⟨_, (true), (by first | rfl | (simp; done) | (simp [*]; done)), H', ⟨by have := HK1.out; first | omega | exact Nat.le_refl _⟩, by repeat (first | exact Drawn0.refl _ | apply Drawn0.step)⟩
                  · rw [if_neg c10] at H
                    have c10b0 : decide ((bt a0 x5_1) ≤ 122) = false := decide_eq_false c10
                    clear c10
                    by_cases c11 : (bt a0 x5_1) ≥ 65
                    · rw [if_pos c11] at H
                      have c11b0 : decide (65 ≤ (bt a0 x5_1)) = true := decide_eq_true c11
                      clear c11
                      have H' := Aside0.mk H
                      clear H
                      go_wp2
                      go_meet
                      case rel => exact ⟨_, (decide ((bt a0 x5_1) ≤ 90)), (by first | rfl | (simp; done) | (simp [*]; done)), H', ⟨by have := HK1.out; first | omega | exact Nat.le_refl _⟩, by repeat (first | exact Drawn0.refl _ | apply Drawn0.step)⟩
                    · rw [if_neg c11] at H
                      have c11b0 : decide (65 ≤ (bt a0 x5_1)) = false := decide_eq_false c11
                      clear c11
                      have H' := Aside0.mk H
                      clear H
                      go_wp2
                      go_meet
                      case rel => exact ⟨_, (false), (by first | rfl | (simp; done) | (simp [*]; done)), H', ⟨by have := HK1.out; first | omega | exact Nat.le_refl _⟩, by repeat (first | exact Drawn0.refl _ | apply Drawn0.step)⟩
                · rw [if_neg c9] at H
                  have c9b0 : decide (97 ≤ (bt a0 x5_1)) = false := decide_eq_false c9
                  clear c9
                  by_cases c12 : (bt a0 x5_1) ≥ 65
                  · rw [if_pos c12] at H
                    have c12b0 : decide (65 ≤ (bt a0 x5_1)) = true := decide_eq_true c12
                    clear c12
                    have H' := Aside0.mk H
                    clear H
                    go_wp2
                    go_meet
                    case rel => exact ⟨_, (decide ((bt a0 x5_1) ≤ 90)), (by first | rfl | (simp; done) | (simp [*]; done)), H', ⟨by have := HK1.out; first | omega | exact Nat.le_refl _⟩, by repeat (first | exact Drawn0.refl _ | apply Drawn0.step)⟩
                  · rw [if_neg c12] at H
                    have c12b0 : decide (65 ≤ (bt a0 x5_1)) = false := decide_eq_false c12
                    clear c12
                    have H' := Aside0.mk H
                    clear H
                    go_wp2
                    go_meet
                    case rel => exact ⟨_, (false), (by first | rfl | (simp; done) | (simp [*]; done)), H', ⟨by have := HK1.out; first | omega | exact Nat.le_refl _⟩, by repeat (first | exact Drawn0.refl _ | apply Drawn0.step)⟩
            · rw [if_neg c7] at H
              have c7b0 : decide (48 ≤ (bt a0 x5_1)) = false := decide_eq_false c7
              clear c7
              (first | rw [c7b0] | (simp only [i64_w, i32_w]; rw [c7b0]) | skip)
              by_cases c13 : (bt a0 x5_1) ≥ 97
              · rw [if_pos c13] at H
                have c13b0 : decide (97 ≤ (bt a0 x5_1)) = true := decide_eq_true c13
                clear c13
                by_cases c14 : (bt a0 x5_1) ≤ 122
                · rw [if_pos c14] at H
                  have c14b0 : decide ((bt a0 x5_1) ≤ 122) = true := decide_eq_true c14
                  clear c14
                  have H' := Aside0.mk H
                  clear H
                  go_wp2
                  go_meet
                  case rel => exact ⟨_, (true), (by first | rfl | (simp; done) | (simp [*]; done)), H', ⟨by have := HK1.out; first | omega | exact Nat.le_refl _⟩, by repeat (first | exact Drawn0.refl _ | apply Drawn0.step)⟩
                · rw [if_neg c14] at H
                  have c14b0 : decide ((bt a0 x5_1) ≤ 122) = false := decide_eq_false c14
                  clear c14
                  by_cases c15 : (bt a0 x5_1) ≥ 65
                  · rw [if_pos c15] at H
                    have c15b0 : decide (65 ≤ (bt a0 x5_1)) = true := decide_eq_true c15
                    clear c15
                    have H' := Aside0.mk H
                    clear H
                    go_wp2
                    go_meet
                    case rel => exact ⟨_, (decide ((bt a0 x5_1) ≤ 90)), (by first | rfl | (simp; done) | (simp [*]; done)), H', ⟨by have := HK1.out; first | omega | exact Nat.le_refl _⟩, by repeat (first | exact Drawn0.refl _ | apply Drawn0.step)⟩
                  · rw [if_neg c15] at H
                    have c15b0 : decide (65 ≤ (bt a0 x5_1)) = false := decide_eq_false c15
                    clear c15
                    have H' := Aside0.mk H
                    clear H
                    go_wp2
                    go_meet
                    case rel => exact ⟨_, (false), (by first | rfl | (simp; done) | (simp [*]; done)), H', ⟨by have := HK1.out; first | omega | exact Nat.le_refl _⟩, by repeat (first | exact Drawn0.refl _ | apply Drawn0.step)⟩
              · rw [if_neg c13] at H
                have c13b0 : decide (97 ≤ (bt a0 x5_1)) = false := decide_eq_false c13
                clear c13
                by_cases c16 : (bt a0 x5_1) ≥ 65
                · rw [if_pos c16] at H
                  have c16b0 : decide (65 ≤ (bt a0 x5_1)) = true := decide_eq_true c16
                  clear c16
                  have H' := Aside0.mk H
                  clear H
                  go_wp2
                  go_meet
                  case rel => exact ⟨_, (decide ((bt a0 x5_1) ≤ 90)), (by first | rfl | (simp; done) | (simp [*]; done)), H', ⟨by have := HK1.out; first | omega | exact Nat.le_refl _⟩, by repeat (first | exact Drawn0.refl _ | apply Drawn0.step)⟩
                · rw [if_neg c16] at H
                  have c16b0 : decide (65 ≤ (bt a0 x5_1)) = false := decide_eq_false c16
                  clear c16
                  have H' := Aside0.mk H
                  clear H
                  go_wp2
                  go_meet
                  case rel => exact ⟨_, (false), (by first | rfl | (simp; done) | (simp [*]; done)), H', ⟨by have := HK1.out; first | omega | exact Nat.le_refl _⟩, by repeat (first | exact Drawn0.refl _ | apply Drawn0.step)⟩
          case rest =>
            clear HC6
            try clear c1
            try clear p2
            try clear c3
            try clear c3b0
            try clear c4
            try clear c4b0
            try clear p5
            try clear q5
            try clear hx5
            try clear c7
            try clear c7b0
            try clear c8
            try clear c8b0
            try clear c9
            try clear c9b0
            try clear c10
            try clear c10b0
            try clear c11
            try clear c11b0
            try clear c12
            try clear c12b0
            try clear c13
            try clear c13b0
            try clear c14
            try clear c14b0
            try clear c15
            try clear c15b0
            try clear c16
            try clear c16b0
            try clear p2
            try clear p5
            try clear q5
            obtain ⟨kq, x7_5, rfl, HA, HJ5, ⟨mc5, rfl⟩⟩ := hcut
            cases kq with
            | zero => exact absurd HA.out (by simp [laws_plain.j1])
            | succ kj5 =>
              have H := HA.out
              clear HA
              simp only [laws_plain.j1] at H
              have H' := Aside0.mk H
              clear H
              go_wp2
              go_loopg [7, 8] kj5 (fun kq v7 v8 w' => ∃ (x7_3 : Bool) (x8_3 : Int), v7 = .bool x7_3 ∧ v8 = .int .i64 x8_3 ∧ Aside0 (laws_plain.l1 kq a0 a1 x5_1 (bt a0 x5_1) x7_3 x8_3 = some r) ∧ Aside0 (kq ≤ kj5) ∧ Drawn0 w w')
              case atStart => exact ⟨(x7_5), (0), (by first | rfl | (simp; done) | (simp [*]; done)), (by first | rfl | (simp; done) | (simp [*]; done)), H', ⟨Nat.le_refl _⟩, by repeat (first | exact Drawn0.refl _ | apply Drawn0.step)⟩
              case round =>
                clear H'
                try clear c1
                try clear p2
                try clear c3
                try clear c3b0
                try clear c4
                try clear c4b0
                try clear c5
                try clear p5
                try clear q5
                try clear hx5
                try clear c7
                try clear c7b0
                try clear c8
                try clear c8b0
                try clear c9
                try clear c9b0
                try clear c10
                try clear c10b0
                try clear c11
                try clear c11b0
                try clear c12
                try clear c12b0
                try clear c13
                try clear c13b0
                try clear c14
                try clear c14b0
                try clear c15
                try clear c15b0
                try clear c16
                try clear c16b0
                try clear p2
                try clear p5
                try clear q5
                obtain ⟨x7_3, x8_3, rfl, rfl, HA, HK3, ⟨m3, rfl⟩⟩ := hrel
                cases gk with
                | zero => exact absurd HA.out (by simp [laws_plain.l1])
                | succ k3 =>
                  have H := HA.out
                  clear HA
                  simp only [laws_plain.l1] at H
                  by_cases c17 : x8_3 < (a1.size : Int)
                  · rw [if_pos c17] at H
                    have c17b0 : decide (x8_3 < (a1.size : Int)) = true := decide_eq_true c17
                    clear c17
                    by_cases c18 : x7_3 = true
                    · subst c18
                      have H1 : (laws_plain.l1 k3 a0 a1 x5_1 (bt a0 x5_1) true (wrap64 (x8_3 + 1))) = some r := by rw [if_pos rfl] at H; exact H
                      clear H
                      have H := H1
                      clear H1
                      have H' := Aside0.mk H
                      clear H
                      go_wp2
                      go_roundg k3
                      case measure => have := HK1.out; have := HJ5.out; have := HK3.out; omega
                      case rel => exact ⟨(true), (wrap64 (x8_3 + 1)), (by first | rfl | (simp; done) | (simp [*]; done)), (by first | rfl | (simp; done) | (simp [*]; done)), H', ⟨by have := HK1.out; have := HJ5.out; have := HK3.out; omega⟩, by repeat (first | exact Drawn0.refl _ | apply Drawn0.step)⟩
                    · replace c18 := Bool.eq_false_iff.mpr c18
                      subst c18
                      have H1 : (if 0 ≤ x8_3 then (laws_plain.l1 k3 a0 a1 x5_1 (bt a0 x5_1) ((bt a0 x5_1) == (bt a1 x8_3)) (wrap64 (x8_3 + 1))) else (none)) = some r := by rw [if_neg (show ¬ (false = true) by decide)] at H; exact H
                      clear H
                      have H := H1
                      clear H1
                      by_cases c19 : 0 ≤ x8_3
                      · rw [if_pos c19] at H
                        have c19b0 : decide (0 ≤ x8_3) = true := decide_eq_true c19
                        clear c19
                        have H' := Aside0.mk H
                        clear H
                        have p20 : 0 ≤ (x8_3 : Int) := of_decide_eq_true (by first | (with_reducible assumption) | assumption)
                        have q20 : x8_3 < (a1.size : Int) := of_decide_eq_true (by first | (with_reducible assumption) | assumption)
                        have hx20 := bt_at a1 x8_3
                        replace p20 := eq_true p20
                        replace q20 := eq_true q20
                        go_wp2
                        go_roundg k3
                        case measure => have := HK1.out; have := HJ5.out; have := HK3.out; omega
                        case rel => exact ⟨(((bt a0 x5_1) == (bt a1 x8_3))), (wrap64 (x8_3 + 1)), (by first | rfl | (simp; done) | (simp [*]; done)), (by first | rfl | (simp; done) | (simp [*]; done)), H', ⟨by have := HK1.out; have := HJ5.out; have := HK3.out; omega⟩, by repeat (first | exact Drawn0.refl _ | apply Drawn0.step)⟩
                      · rw [if_neg c19] at H
                        exact absurd H (by simp)
                  · rw [if_neg c17] at H
                    have c17b0 : decide (x8_3 < (a1.size : Int)) = false := decide_eq_false c17
                    clear c17
                    by_cases c21 : x7_3 = true
                    · subst c21
                      have H1 : (laws_plain.l0 k3 a0 a1 (wrap64 (x5_1 + 1))) = some r := by rw [if_pos rfl] at H; exact H
                      clear H
                      have H := H1
                      clear H1
                      have H' := Aside0.mk H
                      clear H
                      go_wp2
                      go_roundg k3
                      case measure => have := HK1.out; have := HJ5.out; have := HK3.out; omega
                      case rel => exact ⟨(wrap64 (x5_1 + 1)), (by first | rfl | (simp; done) | (simp [*]; done)), H', ⟨by have := HK1.out; have := HJ5.out; have := HK3.out; omega⟩, by repeat (first | exact Drawn0.refl _ | apply Drawn0.step)⟩
                    · replace c21 := Bool.eq_false_iff.mpr c21
                      subst c21
                      have H1 : (some false) = some r := by rw [if_neg (show ¬ (false = true) by decide)] at H; exact H
                      clear H
                      have H := H1
                      clear H1
                      obtain rfl := Option.some.inj H
                      go_wp2
                      go_ret
                      exact ⟨by first | rfl | (simp; done) | (simp [*]; done), by repeat (first | exact Drawn0.refl _ | apply Drawn0.step)⟩
        · rw [if_neg c4] at H
          exact absurd H (by simp)
      · rw [if_neg c3] at H
        have c3b0 : decide (x5_1 < (a0.size : Int)) = false := decide_eq_false c3
        clear c3
        obtain rfl := Option.some.inj H
        go_wp2
        go_ret
        exact ⟨by first | rfl | (simp; done) | (simp [*]; done), by repeat (first | exact Drawn0.refl _ | apply Drawn0.step)⟩

/-! ### laws_cranAwake: function 20 -/
def laws_cranAwake.f  : Option (Bool) := (impl_CRANCompare.f (⟨#[49, 46, 49]⟩ : ByteArray) (⟨#[49, 46, 50]⟩ : ByteArray)).bind fun bt171 => ((impl_CRANParse.f (⟨#[49, 46, 50]⟩ : ByteArray)).bind fun bt173 => (if bt171.2 = true then (if bt173.2 = true then (if bt171.1 = (-1) then (some ((bt173.1.length : Int) == 2)) else (some false)) else (some false)) else (some false)))
set_option maxHeartbeats 8000000 in
set_option maxRecDepth 100000 in
theorem laws_cranAwake.calls  (r : Bool) (w : World) (hG : GW w) (h : laws_cranAwake.f  = some r) :
    Calls Tryd.prog 20 #[] w fun e w' => e = .returned (.bool r) ∧ Below w.heap.size w w' := by
  have HG := Aside0.mk hG
  clear hG
  have HB := Aside0.mk (Below.refl w.heap.size w)
  have H : ((impl_CRANCompare.f (⟨#[49, 46, 49]⟩ : ByteArray) (⟨#[49, 46, 50]⟩ : ByteArray)).bind fun bt171 => ((impl_CRANParse.f (⟨#[49, 46, 50]⟩ : ByteArray)).bind fun bt173 => (if bt171.2 = true then (if bt173.2 = true then (if bt171.1 = (-1) then (some ((bt173.1.length : Int) == 2)) else (some false)) else (some false)) else (some false)))) = some r := h
  clear h
  replace H := Option.bind_eq_some_iff.mp H
  obtain ⟨⟨t171, t172⟩, A10, H⟩ := H
  replace H : ((impl_CRANParse.f (⟨#[49, 46, 50]⟩ : ByteArray)).bind fun bt173 => (if t172 = true then (if bt173.2 = true then (if t171 = (-1) then (some ((bt173.1.length : Int) == 2)) else (some false)) else (some false)) else (some false))) = some r := H
  have A1 := Aside0.mk A10
  clear A10
  replace H := Option.bind_eq_some_iff.mp H
  obtain ⟨⟨t173, t174⟩, A20, H⟩ := H
  replace H : (if t172 = true then (if t174 = true then (if t171 = (-1) then (some ((t173.length : Int) == 2)) else (some false)) else (some false)) else (some false)) = some r := H
  have A2 := Aside0.mk A20
  clear A20
  by_cases c3 : t172 = true
  · subst c3
    have H1 : (if t174 = true then (if t171 = (-1) then (some ((t173.length : Int) == 2)) else (some false)) else (some false)) = some r := by rw [if_pos rfl] at H; exact H
    clear H
    have H := H1
    clear H1
    by_cases c4 : t174 = true
    · subst c4
      have H1 : (if t171 = (-1) then (some ((t173.length : Int) == 2)) else (some false)) = some r := by rw [if_pos rfl] at H; exact H
      clear H
      have H := H1
      clear H1
      by_cases c5 : t171 = (-1)
      · rw [if_pos c5] at H
        have c5b0 : (t171 == (-1)) = true := beq_iff_eq.mpr c5
        have c5b1 : (t171 != (-1)) = false := bne_eq_false_iff_eq.mpr c5
        clear c5
        obtain rfl := Option.some.inj H
        go_enter Tryd.func20, Tryd.ntmps20
        go_wp2_with (first | ((with_reducible refine gate_callee (f := 17) rfl ?_); refine goesL_ (some 6) rfl rfl Tryd.func17 (by kernel_rfl) rfl #[.string (⟨#[49, 46, 49]⟩ : ByteArray), .string (⟨#[49, 46, 50]⟩ : ByteArray)] rfl (by (try simp only [List.map_toArray, List.map_cons, List.map_nil]); first | done | rfl | (simp only [List.length_drop, List.length_take]; rfl)) ?_; (with_reducible refine (impl_CRANCompare.calls (⟨#[49, 46, 49]⟩ : ByteArray) (⟨#[49, 46, 50]⟩ : ByteArray) t171 true _ ?side1 A1.out).mono ?_); (case side1 => first | exact HG.out | exact GW.below HG.out (by repeat (first | (with_reducible first | exact HB.out | exact Below.refl _ _ | apply below_alloc | apply pw_below_drewN | apply below_drew1 | apply below_drew | refine below_set ?_ (Aside0.out (by assumption))) | exact HB.out))); rintro e w6 ⟨rfl, hb⟩; refine ⟨_, rfl, ?_⟩; have n0_ := Aside0.mk (below_step (by repeat (first | (with_reducible first | exact HB.out | apply below_alloc | apply pw_below_drewN | apply below_drew1) | exact HB.out)) hb); clear HB; have HB := n0_; clear n0_; (try clear hb); (try clear hb2); (try clear hk); (try clear hi)) | ((with_reducible refine gate_callee (f := 13) rfl ?_); refine goesL_ (some 10) rfl rfl Tryd.func13 (by kernel_rfl) rfl #[.string (⟨#[49, 46, 50]⟩ : ByteArray)] rfl (by (try simp only [List.map_toArray, List.map_cons, List.map_nil]); first | done | rfl | (simp only [List.length_drop, List.length_take]; rfl)) ?_; (with_reducible refine (impl_CRANParse.calls (⟨#[49, 46, 50]⟩ : ByteArray) t173 true _ ?side1 A2.out).mono ?_); (case side1 => first | exact HG.out | exact GW.below HG.out (by repeat (first | (with_reducible first | exact HB.out | exact Below.refl _ _ | apply below_alloc | apply pw_below_drewN | apply below_drew1 | apply below_drew | refine below_set ?_ (Aside0.out (by assumption))) | exact HB.out))); rintro e w7 ⟨v175, rfl, ho0, hb⟩; refine ⟨_, rfl, ?_⟩; have n0_ := Aside0.mk (Kd.R_lower ho0 (below_size (by repeat (first | (with_reducible first | exact HB.out | apply below_alloc | apply pw_below_drewN | apply below_drew1) | exact HB.out)))); have n1_ := Aside0.mk (below_step (by repeat (first | (with_reducible first | exact HB.out | apply below_alloc | apply pw_below_drewN | apply below_drew1) | exact HB.out)) hb); clear HB; have HO176 := n0_; have HB := n1_; clear n0_ n1_; (try clear hb); (try clear hb2); (try clear hk); (try clear hi); (try clear ho0); obtain ⟨Ao8, co8, eo8⟩ := Kd.R_slice HO176.out; subst eo8))
        go_ret
        exact ⟨by first | rfl | (simp [errW_none, errW_some] <;> rfl) | (simp [*, errW_none, errW_some] <;> rfl), by repeat (first | (with_reducible first | exact HB.out | apply below_alloc | apply pw_below_drewN | apply below_drew1) | exact HB.out)⟩
      · rw [if_neg c5] at H
        have c5b0 : (t171 == (-1)) = false := beq_eq_false_iff_ne.mpr c5
        have c5b1 : (t171 != (-1)) = true := bne_iff_ne.mpr c5
        obtain rfl := Option.some.inj H
        go_enter Tryd.func20, Tryd.ntmps20
        go_wp2_with (first | ((with_reducible refine gate_callee (f := 17) rfl ?_); refine goesL_ (some 6) rfl rfl Tryd.func17 (by kernel_rfl) rfl #[.string (⟨#[49, 46, 49]⟩ : ByteArray), .string (⟨#[49, 46, 50]⟩ : ByteArray)] rfl (by (try simp only [List.map_toArray, List.map_cons, List.map_nil]); first | done | rfl | (simp only [List.length_drop, List.length_take]; rfl)) ?_; (with_reducible refine (impl_CRANCompare.calls (⟨#[49, 46, 49]⟩ : ByteArray) (⟨#[49, 46, 50]⟩ : ByteArray) t171 true _ ?side1 A1.out).mono ?_); (case side1 => first | exact HG.out | exact GW.below HG.out (by repeat (first | (with_reducible first | exact HB.out | exact Below.refl _ _ | apply below_alloc | apply pw_below_drewN | apply below_drew1 | apply below_drew | refine below_set ?_ (Aside0.out (by assumption))) | exact HB.out))); rintro e w9 ⟨rfl, hb⟩; refine ⟨_, rfl, ?_⟩; have n0_ := Aside0.mk (below_step (by repeat (first | (with_reducible first | exact HB.out | apply below_alloc | apply pw_below_drewN | apply below_drew1) | exact HB.out)) hb); clear HB; have HB := n0_; clear n0_; (try clear hb); (try clear hb2); (try clear hk); (try clear hi)) | ((with_reducible refine gate_callee (f := 13) rfl ?_); refine goesL_ (some 10) rfl rfl Tryd.func13 (by kernel_rfl) rfl #[.string (⟨#[49, 46, 50]⟩ : ByteArray)] rfl (by (try simp only [List.map_toArray, List.map_cons, List.map_nil]); first | done | rfl | (simp only [List.length_drop, List.length_take]; rfl)) ?_; (with_reducible refine (impl_CRANParse.calls (⟨#[49, 46, 50]⟩ : ByteArray) t173 true _ ?side1 A2.out).mono ?_); (case side1 => first | exact HG.out | exact GW.below HG.out (by repeat (first | (with_reducible first | exact HB.out | exact Below.refl _ _ | apply below_alloc | apply pw_below_drewN | apply below_drew1 | apply below_drew | refine below_set ?_ (Aside0.out (by assumption))) | exact HB.out))); rintro e w10 ⟨v175, rfl, ho0, hb⟩; refine ⟨_, rfl, ?_⟩; have n0_ := Aside0.mk (Kd.R_lower ho0 (below_size (by repeat (first | (with_reducible first | exact HB.out | apply below_alloc | apply pw_below_drewN | apply below_drew1) | exact HB.out)))); have n1_ := Aside0.mk (below_step (by repeat (first | (with_reducible first | exact HB.out | apply below_alloc | apply pw_below_drewN | apply below_drew1) | exact HB.out)) hb); clear HB; have HO176 := n0_; have HB := n1_; clear n0_ n1_; (try clear hb); (try clear hb2); (try clear hk); (try clear hi); (try clear ho0)))
        go_ret
        exact ⟨by first | rfl | (simp [errW_none, errW_some] <;> rfl) | (simp [*, errW_none, errW_some] <;> rfl), by repeat (first | (with_reducible first | exact HB.out | apply below_alloc | apply pw_below_drewN | apply below_drew1) | exact HB.out)⟩
    · replace c4 := Bool.eq_false_iff.mpr c4
      subst c4
      have H1 : (some false) = some r := by rw [if_neg (show ¬ (false = true) by decide)] at H; exact H
      clear H
      have H := H1
      clear H1
      obtain rfl := Option.some.inj H
      go_enter Tryd.func20, Tryd.ntmps20
      go_wp2_with (first | ((with_reducible refine gate_callee (f := 17) rfl ?_); refine goesL_ (some 6) rfl rfl Tryd.func17 (by kernel_rfl) rfl #[.string (⟨#[49, 46, 49]⟩ : ByteArray), .string (⟨#[49, 46, 50]⟩ : ByteArray)] rfl (by (try simp only [List.map_toArray, List.map_cons, List.map_nil]); first | done | rfl | (simp only [List.length_drop, List.length_take]; rfl)) ?_; (with_reducible refine (impl_CRANCompare.calls (⟨#[49, 46, 49]⟩ : ByteArray) (⟨#[49, 46, 50]⟩ : ByteArray) t171 true _ ?side1 A1.out).mono ?_); (case side1 => first | exact HG.out | exact GW.below HG.out (by repeat (first | (with_reducible first | exact HB.out | exact Below.refl _ _ | apply below_alloc | apply pw_below_drewN | apply below_drew1 | apply below_drew | refine below_set ?_ (Aside0.out (by assumption))) | exact HB.out))); rintro e w11 ⟨rfl, hb⟩; refine ⟨_, rfl, ?_⟩; have n0_ := Aside0.mk (below_step (by repeat (first | (with_reducible first | exact HB.out | apply below_alloc | apply pw_below_drewN | apply below_drew1) | exact HB.out)) hb); clear HB; have HB := n0_; clear n0_; (try clear hb); (try clear hb2); (try clear hk); (try clear hi)) | ((with_reducible refine gate_callee (f := 13) rfl ?_); refine goesL_ (some 10) rfl rfl Tryd.func13 (by kernel_rfl) rfl #[.string (⟨#[49, 46, 50]⟩ : ByteArray)] rfl (by (try simp only [List.map_toArray, List.map_cons, List.map_nil]); first | done | rfl | (simp only [List.length_drop, List.length_take]; rfl)) ?_; (with_reducible refine (impl_CRANParse.calls (⟨#[49, 46, 50]⟩ : ByteArray) t173 false _ ?side1 A2.out).mono ?_); (case side1 => first | exact HG.out | exact GW.below HG.out (by repeat (first | (with_reducible first | exact HB.out | exact Below.refl _ _ | apply below_alloc | apply pw_below_drewN | apply below_drew1 | apply below_drew | refine below_set ?_ (Aside0.out (by assumption))) | exact HB.out))); rintro e w12 ⟨v175, rfl, ho0, hb⟩; refine ⟨_, rfl, ?_⟩; have n0_ := Aside0.mk (Kd.R_lower ho0 (below_size (by repeat (first | (with_reducible first | exact HB.out | apply below_alloc | apply pw_below_drewN | apply below_drew1) | exact HB.out)))); have n1_ := Aside0.mk (below_step (by repeat (first | (with_reducible first | exact HB.out | apply below_alloc | apply pw_below_drewN | apply below_drew1) | exact HB.out)) hb); clear HB; have HO176 := n0_; have HB := n1_; clear n0_ n1_; (try clear hb); (try clear hb2); (try clear hk); (try clear hi); (try clear ho0)))
      go_ret
      exact ⟨by first | rfl | (simp [errW_none, errW_some] <;> rfl) | (simp [*, errW_none, errW_some] <;> rfl), by repeat (first | (with_reducible first | exact HB.out | apply below_alloc | apply pw_below_drewN | apply below_drew1) | exact HB.out)⟩
  · replace c3 := Bool.eq_false_iff.mpr c3
    subst c3
    have H1 : (some false) = some r := by rw [if_neg (show ¬ (false = true) by decide)] at H; exact H
    clear H
    have H := H1
    clear H1
    obtain rfl := Option.some.inj H
    go_enter Tryd.func20, Tryd.ntmps20
    go_wp2_with (first | ((with_reducible refine gate_callee (f := 17) rfl ?_); refine goesL_ (some 6) rfl rfl Tryd.func17 (by kernel_rfl) rfl #[.string (⟨#[49, 46, 49]⟩ : ByteArray), .string (⟨#[49, 46, 50]⟩ : ByteArray)] rfl (by (try simp only [List.map_toArray, List.map_cons, List.map_nil]); first | done | rfl | (simp only [List.length_drop, List.length_take]; rfl)) ?_; (with_reducible refine (impl_CRANCompare.calls (⟨#[49, 46, 49]⟩ : ByteArray) (⟨#[49, 46, 50]⟩ : ByteArray) t171 false _ ?side1 A1.out).mono ?_); (case side1 => first | exact HG.out | exact GW.below HG.out (by repeat (first | (with_reducible first | exact HB.out | exact Below.refl _ _ | apply below_alloc | apply pw_below_drewN | apply below_drew1 | apply below_drew | refine below_set ?_ (Aside0.out (by assumption))) | exact HB.out))); rintro e w13 ⟨rfl, hb⟩; refine ⟨_, rfl, ?_⟩; have n0_ := Aside0.mk (below_step (by repeat (first | (with_reducible first | exact HB.out | apply below_alloc | apply pw_below_drewN | apply below_drew1) | exact HB.out)) hb); clear HB; have HB := n0_; clear n0_; (try clear hb); (try clear hb2); (try clear hk); (try clear hi)) | ((with_reducible refine gate_callee (f := 13) rfl ?_); refine goesL_ (some 10) rfl rfl Tryd.func13 (by kernel_rfl) rfl #[.string (⟨#[49, 46, 50]⟩ : ByteArray)] rfl (by (try simp only [List.map_toArray, List.map_cons, List.map_nil]); first | done | rfl | (simp only [List.length_drop, List.length_take]; rfl)) ?_; (with_reducible refine (impl_CRANParse.calls (⟨#[49, 46, 50]⟩ : ByteArray) t173 t174 _ ?side1 A2.out).mono ?_); (case side1 => first | exact HG.out | exact GW.below HG.out (by repeat (first | (with_reducible first | exact HB.out | exact Below.refl _ _ | apply below_alloc | apply pw_below_drewN | apply below_drew1 | apply below_drew | refine below_set ?_ (Aside0.out (by assumption))) | exact HB.out))); rintro e w14 ⟨v175, rfl, ho0, hb⟩; refine ⟨_, rfl, ?_⟩; have n0_ := Aside0.mk (Kd.R_lower ho0 (below_size (by repeat (first | (with_reducible first | exact HB.out | apply below_alloc | apply pw_below_drewN | apply below_drew1) | exact HB.out)))); have n1_ := Aside0.mk (below_step (by repeat (first | (with_reducible first | exact HB.out | apply below_alloc | apply pw_below_drewN | apply below_drew1) | exact HB.out)) hb); clear HB; have HO176 := n0_; have HB := n1_; clear n0_ n1_; (try clear hb); (try clear hb2); (try clear hk); (try clear hi); (try clear ho0)))
    go_ret
    exact ⟨by first | rfl | (simp [errW_none, errW_some] <;> rfl) | (simp [*, errW_none, errW_some] <;> rfl), by repeat (first | (with_reducible first | exact HB.out | apply below_alloc | apply pw_below_drewN | apply below_drew1) | exact HB.out)⟩

/-! ### laws_chained: function 21 -/
def laws_chained.j0 : Nat → Int → Int → Int → Bool → Option (Bool)
  | 0, _, _, _, _ => none
  | k + 1, x0, x1, x2, x27 => if x27 = true then (some false) else (if x0 ≥ 0 then (if x1 ≥ 0 then (if x2 < 0 then (some false) else (if x0 = 0 then (if ((x2 == 0) != (x1 == 0)) = true then (some false) else (some true)) else (if ((x2 == 0) != false) = true then (some false) else (some true)))) else (some true)) else (some true))
def laws_chained.f (k : Nat) (a0 : Int) (a1 : Int) (a2 : Int) : Option (Bool) := if a0 ≤ 0 then (if a1 ≤ 0 then (if a2 > 0 then (laws_chained.j0 k a0 a1 a2 true) else (if a0 = 0 then (laws_chained.j0 k a0 a1 a2 ((a2 == 0) != (a1 == 0))) else (laws_chained.j0 k a0 a1 a2 ((a2 == 0) != false)))) else (laws_chained.j0 k a0 a1 a2 false)) else (laws_chained.j0 k a0 a1 a2 false)
theorem laws_chained.mono_l : ∀ k, (∀ y0 y1 y2 y3, LeO (laws_chained.j0 k y0 y1 y2 y3) (laws_chained.j0 (k + 1) y0 y1 y2 y3))
  | 0 => fun _ _ _ _ r h => by simp [laws_chained.j0] at h
  | k + 1 => by
    have ih0 := laws_chained.mono_l k
    · intro y0 y1 y2 y3
      unfold laws_chained.j0
      repeat' first
      | (with_reducible exact ih0 _ _ _ _)
      | (with_reducible exact LeO.refl _)
      | (with_reducible exact LeO.none _)
      | (with_reducible refine LeO.ite ?_ ?_)
      | (with_reducible refine LeO.bind ?_ (fun _ => ?_))
      | exact ih0 _ _ _ _
      | exact LeO.none _
      | refine LeO.ite ?_ ?_
      | refine LeO.bind ?_ (fun _ => ?_)
theorem laws_chained.mono : ∀ a0 a1 a2 k, LeO (laws_chained.f k a0 a1 a2) (laws_chained.f (k + 1) a0 a1 a2) := by
  intro a0 a1 a2 k
  have ih0 := laws_chained.mono_l k
  unfold laws_chained.f
  repeat' first
      | (with_reducible exact ih0 _ _ _ _)
      | (with_reducible exact LeO.refl _)
      | (with_reducible exact LeO.none _)
      | (with_reducible refine LeO.ite ?_ ?_)
      | (with_reducible refine LeO.bind ?_ (fun _ => ?_))
      | exact ih0 _ _ _ _
      | exact LeO.none _
      | refine LeO.ite ?_ ?_
      | refine LeO.bind ?_ (fun _ => ?_)
set_option maxHeartbeats 8000000 in
set_option maxRecDepth 100000 in
theorem laws_chained.calls (k : Nat) (a0 : Int) (a1 : Int) (a2 : Int) (r : Bool) (w : World) (h : laws_chained.f k a0 a1 a2 = some r) :
    Calls Tryd.prog 21 #[.int .i64 a0, .int .i64 a1, .int .i64 a2] w fun e w' => e = .returned (.bool r) ∧ Drawn0 w w' := by
  have H : (if a0 ≤ 0 then (if a1 ≤ 0 then (if a2 > 0 then (laws_chained.j0 k a0 a1 a2 true) else (if a0 = 0 then (laws_chained.j0 k a0 a1 a2 ((a2 == 0) != (a1 == 0))) else (laws_chained.j0 k a0 a1 a2 ((a2 == 0) != false)))) else (laws_chained.j0 k a0 a1 a2 false)) else (laws_chained.j0 k a0 a1 a2 false)) = some r := h
  clear h
  have HC4 := Aside0.mk H
  clear H
  go_enter Tryd.func21, Tryd.ntmps21
  go_upto_region 1 with (fail)
  go_cut [27] (fun v27 wc => ∃ (kq : Nat) (x27_3 : Bool), v27 = .bool x27_3 ∧ Aside0 (laws_chained.j0 kq a0 a1 a2 x27_3 = some r) ∧ Aside0 (kq ≤ k) ∧ Drawn0 w wc)
  case first =>
    have H := HC4.out
    clear HC4
    by_cases c5 : a0 ≤ 0
    · rw [if_pos c5] at H
      have c5b0 : decide (a0 ≤ 0) = true := decide_eq_true c5
      clear c5
      (first | rw [c5b0] | (simp only [i64_w, i32_w]; rw [c5b0]) | skip)
      by_cases c6 : a1 ≤ 0
      · rw [if_pos c6] at H
        have c6b0 : decide (a1 ≤ 0) = true := decide_eq_true c6
        clear c6
        by_cases c7 : a2 > 0
        · rw [if_pos c7] at H
          have c7b0 : decide (0 < a2) = true := decide_eq_true c7
          clear c7
          have H' := Aside0.mk H
          clear H
          go_wp2
          go_meet
          case rel => exact ⟨_, (true), (by first | rfl | (simp; done) | (simp [*]; done)), H', ⟨by first | omega | exact Nat.le_refl _⟩, by repeat (first | exact Drawn0.refl _ | apply Drawn0.step)⟩
        · rw [if_neg c7] at H
          have c7b0 : decide (0 < a2) = false := decide_eq_false c7
          clear c7
          by_cases c8 : a0 = 0
          · rw [if_pos c8] at H
            have c8b0 : (a0 == 0) = true := beq_iff_eq.mpr c8
            have c8b1 : (a0 != 0) = false := bne_eq_false_iff_eq.mpr c8
            clear c8
            have H' := Aside0.mk H
            clear H
            go_wp2
            go_meet
            case rel => exact ⟨_, (((a2 == 0) != (a1 == 0))), (by first | rfl | (simp; done) | (simp [*]; done)), H', ⟨by first | omega | exact Nat.le_refl _⟩, by repeat (first | exact Drawn0.refl _ | apply Drawn0.step)⟩
          · rw [if_neg c8] at H
            have c8b0 : (a0 == 0) = false := beq_eq_false_iff_ne.mpr c8
            have c8b1 : (a0 != 0) = true := bne_iff_ne.mpr c8
            have H' := Aside0.mk H
            clear H
            go_wp2
            go_meet
            case rel => exact ⟨_, (((a2 == 0) != false)), (by first | rfl | (simp; done) | (simp [*]; done)), H', ⟨by first | omega | exact Nat.le_refl _⟩, by repeat (first | exact Drawn0.refl _ | apply Drawn0.step)⟩
      · rw [if_neg c6] at H
        have c6b0 : decide (a1 ≤ 0) = false := decide_eq_false c6
        clear c6
        have H' := Aside0.mk H
        clear H
        go_wp2
        go_meet
        case rel => exact ⟨_, (false), (by first | rfl | (simp; done) | (simp [*]; done)), H', ⟨by first | omega | exact Nat.le_refl _⟩, by repeat (first | exact Drawn0.refl _ | apply Drawn0.step)⟩
    · rw [if_neg c5] at H
      have c5b0 : decide (a0 ≤ 0) = false := decide_eq_false c5
      clear c5
      (first | rw [c5b0] | (simp only [i64_w, i32_w]; rw [c5b0]) | skip)
      have H' := Aside0.mk H
      clear H
      go_wp2
      go_meet
      case rel => exact ⟨_, (false), (by first | rfl | (simp; done) | (simp [*]; done)), H', ⟨by first | omega | exact Nat.le_refl _⟩, by repeat (first | exact Drawn0.refl _ | apply Drawn0.step)⟩
  case rest =>
    clear HC4
    try clear c2
    try clear p2
    try clear c5
    try clear c5b0
    try clear c6
    try clear c6b0
    try clear c7
    try clear c7b0
    try clear c8
    try clear c8b0
    try clear c8b1
    obtain ⟨kq, x27_3, rfl, HA, HJ3, ⟨mc3, rfl⟩⟩ := hcut
    cases kq with
    | zero => exact absurd HA.out (by simp [laws_chained.j0])
    | succ kj3 =>
      have H := HA.out
      clear HA
      simp only [laws_chained.j0] at H
      by_cases c9 : x27_3 = true
      · subst c9
        have H1 : (some false) = some r := by rw [if_pos rfl] at H; exact H
        clear H
        have H := H1
        clear H1
        obtain rfl := Option.some.inj H
        go_wp2
        go_ret
        exact ⟨by first | rfl | (simp; done) | (simp [*]; done), by repeat (first | exact Drawn0.refl _ | apply Drawn0.step)⟩
      · replace c9 := Bool.eq_false_iff.mpr c9
        subst c9
        have H1 : (if a0 ≥ 0 then (if a1 ≥ 0 then (if a2 < 0 then (some false) else (if a0 = 0 then (if ((a2 == 0) != (a1 == 0)) = true then (some false) else (some true)) else (if ((a2 == 0) != false) = true then (some false) else (some true)))) else (some true)) else (some true)) = some r := by rw [if_neg (show ¬ (false = true) by decide)] at H; exact H
        clear H
        have H := H1
        clear H1
        by_cases c10 : a0 ≥ 0
        · rw [if_pos c10] at H
          have c10b0 : decide (0 ≤ a0) = true := decide_eq_true c10
          clear c10
          by_cases c11 : a1 ≥ 0
          · rw [if_pos c11] at H
            have c11b0 : decide (0 ≤ a1) = true := decide_eq_true c11
            clear c11
            by_cases c12 : a2 < 0
            · rw [if_pos c12] at H
              have c12b0 : decide (a2 < 0) = true := decide_eq_true c12
              clear c12
              obtain rfl := Option.some.inj H
              go_wp2
              go_ret
              exact ⟨by first | rfl | (simp; done) | (simp [*]; done), by repeat (first | exact Drawn0.refl _ | apply Drawn0.step)⟩
            · rw [if_neg c12] at H
              have c12b0 : decide (a2 < 0) = false := decide_eq_false c12
              clear c12
              by_cases c13 : a0 = 0
              · rw [if_pos c13] at H
                have c13b0 : (a0 == 0) = true := beq_iff_eq.mpr c13
                have c13b1 : (a0 != 0) = false := bne_eq_false_iff_eq.mpr c13
                clear c13
                by_cases c14 : ((a2 == 0) != (a1 == 0)) = true
                · rw [if_pos c14] at H
                  have c14b0 : ((a2 == 0) != (a1 == 0)) = true := c14
                  (try (have c14b1 : decide ((a2 == 0) = (a1 == 0)) = false := by simpa using c14))
                  (try (have c14b2 : ((a2 == 0) == (a1 == 0)) = false := by simpa using c14))
                  (try (have c14b3 : ¬ ((a2 == 0) = (a1 == 0)) := by simpa using c14))
                  clear c14
                  obtain rfl := Option.some.inj H
                  go_wp2
                  go_ret
                  exact ⟨by first | rfl | (simp; done) | (simp [*]; done), by repeat (first | exact Drawn0.refl _ | apply Drawn0.step)⟩
                · rw [if_neg c14] at H
                  have c14b0 : ((a2 == 0) != (a1 == 0)) = false := by simpa using c14
                  (try (have c14b1 : decide ((a2 == 0) = (a1 == 0)) = true := by simpa using c14))
                  (try (have c14b2 : ((a2 == 0) == (a1 == 0)) = true := by simpa using c14))
                  clear c14
                  obtain rfl := Option.some.inj H
                  go_wp2
                  go_ret
                  exact ⟨by first | rfl | (simp; done) | (simp [*]; done), by repeat (first | exact Drawn0.refl _ | apply Drawn0.step)⟩
              · rw [if_neg c13] at H
                have c13b0 : (a0 == 0) = false := beq_eq_false_iff_ne.mpr c13
                have c13b1 : (a0 != 0) = true := bne_iff_ne.mpr c13
                by_cases c15 : ((a2 == 0) != false) = true
                · rw [if_pos c15] at H
                  have c15b0 : ((a2 == 0) != false) = true := c15
                  (try (have c15b1 : decide ((a2 == 0) = false) = false := by simpa using c15))
                  (try (have c15b2 : ((a2 == 0) == false) = false := by simpa using c15))
                  (try (have c15b3 : ¬ ((a2 == 0) = false) := by simpa using c15))
                  clear c15
                  obtain rfl := Option.some.inj H
                  go_wp2
                  go_ret
                  exact ⟨by first | rfl | (simp; done) | (simp [*]; done), by repeat (first | exact Drawn0.refl _ | apply Drawn0.step)⟩
                · rw [if_neg c15] at H
                  have c15b0 : ((a2 == 0) != false) = false := by simpa using c15
                  (try (have c15b1 : decide ((a2 == 0) = false) = true := by simpa using c15))
                  (try (have c15b2 : ((a2 == 0) == false) = true := by simpa using c15))
                  clear c15
                  obtain rfl := Option.some.inj H
                  go_wp2
                  go_ret
                  exact ⟨by first | rfl | (simp; done) | (simp [*]; done), by repeat (first | exact Drawn0.refl _ | apply Drawn0.step)⟩
          · rw [if_neg c11] at H
            have c11b0 : decide (0 ≤ a1) = false := decide_eq_false c11
            clear c11
            obtain rfl := Option.some.inj H
            go_wp2
            go_ret
            exact ⟨by first | rfl | (simp; done) | (simp [*]; done), by repeat (first | exact Drawn0.refl _ | apply Drawn0.step)⟩
        · rw [if_neg c10] at H
          have c10b0 : decide (0 ≤ a0) = false := decide_eq_false c10
          clear c10
          obtain rfl := Option.some.inj H
          go_wp2
          go_ret
          exact ⟨by first | rfl | (simp; done) | (simp [*]; done), by repeat (first | exact Drawn0.refl _ | apply Drawn0.step)⟩

end Go.Proofs.YtmhlmkefnmdbcaaDoor.Z
