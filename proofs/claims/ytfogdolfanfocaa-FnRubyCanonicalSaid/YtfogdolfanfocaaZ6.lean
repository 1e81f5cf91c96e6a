-- Written by a program of this session (myprint.py).
import Derived.Test.YtfogdolfanfocaaZ0
import Derived.Test.YtfogdolfanfocaaZ1
import Derived.Test.YtfogdolfanfocaaZ5
namespace Go.Proofs.Ytfogdolfanfocaa.Z
open Go.RowKit Go.Proofs.YtfogdolfanfocaaW.PrintWords Go.Proofs.YtfogdolfanfocaaW.PrintLast Go.Proofs.YtfogdolfanfocaaW.PrintMore
attribute [local go_sem] max2_int min2_int max_two min_two max_three min_three max_four min_four   -- for this text's walks alone
set_option linter.unusedVariables false
set_option linter.unusedSimpArgs false

/-! ### spec_PackagistKnown: function 23 -/
def spec_PackagistKnown.l0 : Nat → List ByteArray → Int → Option (Bool)
  | 0, _, _ => none
  | k + 1, x0, x3 => if x3 < (x0.length : Int) then (if 0 ≤ x3 then ((spec_allDigits.f k (rdOf ByteArray.empty x0 x3)).bind fun t175 => (if t175 = true then (if ((rdOf ByteArray.empty x0 x3).size : Int) > 18 then (some false) else (if ((rdOf ByteArray.empty x0 x3).size : Int) > 1 then (if 0 < ((rdOf ByteArray.empty x0 x3).size : Int) then (if (bt (rdOf ByteArray.empty x0 x3) 0) = 45 then (if 1 ≤ ((rdOf ByteArray.empty x0 x3).size : Int) then ((spec_allDigits.f k ((rdOf ByteArray.empty x0 x3).extract 1 (rdOf ByteArray.empty x0 x3).size)).bind fun t176 => (if t176 = true then (some false) else (spec_PackagistKnown.l0 k x0 (wrap64 (x3 + 1))))) else (none)) else (if (bt (rdOf ByteArray.empty x0 x3) 0) = 43 then (if 1 ≤ ((rdOf ByteArray.empty x0 x3).size : Int) then ((spec_allDigits.f k ((rdOf ByteArray.empty x0 x3).extract 1 (rdOf ByteArray.empty x0 x3).size)).bind fun t177 => (if t177 = true then (some false) else (spec_PackagistKnown.l0 k x0 (wrap64 (x3 + 1))))) else (none)) else (spec_PackagistKnown.l0 k x0 (wrap64 (x3 + 1))))) else (none)) else (spec_PackagistKnown.l0 k x0 (wrap64 (x3 + 1))))) else (if ((rdOf ByteArray.empty x0 x3).size : Int) > 1 then (if 0 < ((rdOf ByteArray.empty x0 x3).size : Int) then (if (bt (rdOf ByteArray.empty x0 x3) 0) = 45 then (if 1 ≤ ((rdOf ByteArray.empty x0 x3).size : Int) then ((spec_allDigits.f k ((rdOf ByteArray.empty x0 x3).extract 1 (rdOf ByteArray.empty x0 x3).size)).bind fun t178 => (if t178 = true then (some false) else (spec_PackagistKnown.l0 k x0 (wrap64 (x3 + 1))))) else (none)) else (if (bt (rdOf ByteArray.empty x0 x3) 0) = 43 then (if 1 ≤ ((rdOf ByteArray.empty x0 x3).size : Int) then ((spec_allDigits.f k ((rdOf ByteArray.empty x0 x3).extract 1 (rdOf ByteArray.empty x0 x3).size)).bind fun t179 => (if t179 = true then (some false) else (spec_PackagistKnown.l0 k x0 (wrap64 (x3 + 1))))) else (none)) else (spec_PackagistKnown.l0 k x0 (wrap64 (x3 + 1))))) else (none)) else (spec_PackagistKnown.l0 k x0 (wrap64 (x3 + 1)))))) else (none)) else (some true)
def spec_PackagistKnown.f (k : Nat) (l0 : List ByteArray) : Option (Bool) := spec_PackagistKnown.l0 k l0 0
theorem spec_PackagistKnown.mono_l : ∀ k, (∀ y0 y1, LeO (spec_PackagistKnown.l0 k y0 y1) (spec_PackagistKnown.l0 (k + 1) y0 y1))
  | 0 => fun _ _ r h => by simp [spec_PackagistKnown.l0] at h
  | k + 1 => by
    have ih0 := spec_PackagistKnown.mono_l k
    · intro y0 y1
      unfold spec_PackagistKnown.l0
      repeat' first
      | (with_reducible exact ih0 _ _)
      | (with_reducible exact spec_allDigits.mono _ _)
      | (with_reducible exact LeO.refl _)
      | (with_reducible exact LeO.none _)
      | (with_reducible refine LeO.ite ?_ ?_)
      | (with_reducible refine LeO.bind ?_ (fun _ => ?_))
      | exact ih0 _ _
      | exact spec_allDigits.mono _ _
      | exact LeO.none _
      | refine LeO.ite ?_ ?_
      | refine LeO.bind ?_ (fun _ => ?_)
theorem spec_PackagistKnown.mono : ∀ a0 k, LeO (spec_PackagistKnown.f k a0) (spec_PackagistKnown.f (k + 1) a0) := by
  intro a0 k
  have ih0 := spec_PackagistKnown.mono_l k
  unfold spec_PackagistKnown.f
  repeat' first
      | (with_reducible exact ih0 _ _)
      | (with_reducible exact spec_allDigits.mono _ _)
      | (with_reducible exact LeO.refl _)
      | (with_reducible exact LeO.none _)
      | (with_reducible refine LeO.ite ?_ ?_)
      | (with_reducible refine LeO.bind ?_ (fun _ => ?_))
      | exact ih0 _ _
      | exact spec_allDigits.mono _ _
      | exact LeO.none _
      | refine LeO.ite ?_ ?_
      | refine LeO.bind ?_ (fun _ => ?_)
set_option maxHeartbeats 8000000 in
set_option maxRecDepth 100000 in
theorem spec_PackagistKnown.calls (k : Nat) (A0 : Option Addr) (c0 : Nat) (l0 : List ByteArray) (r : Bool) (w : World) (hr0 : Kd.C Kd.string w A0 l0.length l0) (hc0 : l0.length ≤ c0) (h : spec_PackagistKnown.f k l0 = some r) :
    Calls Try.prog 23 #[.slice A0 l0.length c0] w fun e w' => e = .returned (.bool r) ∧ Drawn0 w w' := by
  have HR0 := Aside0.mk hr0
  have HC0 := Aside0.mk hc0
  clear hr0 hc0
  have H : (spec_PackagistKnown.l0 k l0 0) = some r := h
  clear h
  have H' := Aside0.mk H
  clear H
  go_enter Try.func23, Try.ntmps23
  go_wp2
  go_loopg [3] k (fun kq v3 w' => ∃ (x3_1 : Int), v3 = .int .i64 x3_1 ∧ Aside0 (spec_PackagistKnown.l0 kq l0 x3_1 = some r) ∧ Aside0 (kq ≤ k) ∧ Drawn0 w w')
  case atStart => exact ⟨(0), (by first | rfl | (simp; done) | (simp [*]; done)), H', ⟨Nat.le_refl _⟩, by repeat (first | exact Drawn0.refl _ | apply Drawn0.step)⟩
  case round =>
    clear H'
    obtain ⟨x3_1, rfl, HA, HK1, ⟨m1, rfl⟩⟩ := hrel
    cases gk with
    | zero => exact absurd HA.out (by simp [spec_PackagistKnown.l0])
    | succ k1 =>
      have H := HA.out
      clear HA
      simp only [spec_PackagistKnown.l0] at H
      by_cases c2 : x3_1 < (l0.length : Int)
      · rw [if_pos c2] at H
        have c2b0 : decide (x3_1 < (l0.length : Int)) = true := decide_eq_true c2
        clear c2
        by_cases c3 : 0 ≤ x3_1
        · rw [if_pos c3] at H
          have c3b0 : decide (0 ≤ x3_1) = true := decide_eq_true c3
          clear c3
          replace H := Option.bind_eq_some_iff.mp H
          obtain ⟨t175, A40, H⟩ := H
          replace H : (if t175 = true then (if ((rdOf ByteArray.empty l0 x3_1).size : Int) > 18 then (some false) else (if ((rdOf ByteArray.empty l0 x3_1).size : Int) > 1 then (if 0 < ((rdOf ByteArray.empty l0 x3_1).size : Int) then (if (bt (rdOf ByteArray.empty l0 x3_1) 0) = 45 then (if 1 ≤ ((rdOf ByteArray.empty l0 x3_1).size : Int) then ((spec_allDigits.f k1 ((rdOf ByteArray.empty l0 x3_1).extract 1 (rdOf ByteArray.empty l0 x3_1).size)).bind fun t176 => (if t176 = true then (some false) else (spec_PackagistKnown.l0 k1 l0 (wrap64 (x3_1 + 1))))) else (none)) else (if (bt (rdOf ByteArray.empty l0 x3_1) 0) = 43 then (if 1 ≤ ((rdOf ByteArray.empty l0 x3_1).size : Int) then ((spec_allDigits.f k1 ((rdOf ByteArray.empty l0 x3_1).extract 1 (rdOf ByteArray.empty l0 x3_1).size)).bind fun t177 => (if t177 = true then (some false) else (spec_PackagistKnown.l0 k1 l0 (wrap64 (x3_1 + 1))))) else (none)) else (spec_PackagistKnown.l0 k1 l0 (wrap64 (x3_1 + 1))))) else (none)) else (spec_PackagistKnown.l0 k1 l0 (wrap64 (x3_1 + 1))))) else (if ((rdOf ByteArray.empty l0 x3_1).size : Int) > 1 then (if 0 < ((rdOf ByteArray.empty l0 x3_1).size : Int) then (if (bt (rdOf ByteArray.empty l0 x3_1) 0) = 45 then (if 1 ≤ ((rdOf ByteArray.empty l0 x3_1).size : Int) then ((spec_allDigits.f k1 ((rdOf ByteArray.empty l0 x3_1).extract 1 (rdOf ByteArray.empty l0 x3_1).size)).bind fun t178 => (if t178 = true then (some false) else (spec_PackagistKnown.l0 k1 l0 (wrap64 (x3_1 + 1))))) else (none)) else (if (bt (rdOf ByteArray.empty l0 x3_1) 0) = 43 then (if 1 ≤ ((rdOf ByteArray.empty l0 x3_1).size : Int) then ((spec_allDigits.f k1 ((rdOf ByteArray.empty l0 x3_1).extract 1 (rdOf ByteArray.empty l0 x3_1).size)).bind fun t179 => (if t179 = true then (some false) else (spec_PackagistKnown.l0 k1 l0 (wrap64 (x3_1 + 1))))) else (none)) else (spec_PackagistKnown.l0 k1 l0 (wrap64 (x3_1 + 1))))) else (none)) else (spec_PackagistKnown.l0 k1 l0 (wrap64 (x3_1 + 1))))) = some r := H
          have A4 := Aside0.mk A40
          clear A40
          by_cases c5 : t175 = true
          · subst c5
            have H1 : (if ((rdOf ByteArray.empty l0 x3_1).size : Int) > 18 then (some false) else (if ((rdOf ByteArray.empty l0 x3_1).size : Int) > 1 then (if 0 < ((rdOf ByteArray.empty l0 x3_1).size : Int) then (if (bt (rdOf ByteArray.empty l0 x3_1) 0) = 45 then (if 1 ≤ ((rdOf ByteArray.empty l0 x3_1).size : Int) then ((spec_allDigits.f k1 ((rdOf ByteArray.empty l0 x3_1).extract 1 (rdOf ByteArray.empty l0 x3_1).size)).bind fun t176 => (if t176 = true then (some false) else (spec_PackagistKnown.l0 k1 l0 (wrap64 (x3_1 + 1))))) else (none)) else (if (bt (rdOf ByteArray.empty l0 x3_1) 0) = 43 then (if 1 ≤ ((rdOf ByteArray.empty l0 x3_1).size : Int) then ((spec_allDigits.f k1 ((rdOf ByteArray.empty l0 x3_1).extract 1 (rdOf ByteArray.empty l0 x3_1).size)).bind fun t177 => (if t177 = true then (some false) else (spec_PackagistKnown.l0 k1 l0 (wrap64 (x3_1 + 1))))) else (none)) else (spec_PackagistKnown.l0 k1 l0 (wrap64 (x3_1 + 1))))) else (none)) else (spec_PackagistKnown.l0 k1 l0 (wrap64 (x3_1 + 1))))) = some r := by rw [if_pos rfl] at H; exact H
            clear H
            have H := H1
            clear H1
            by_cases c6 : ((rdOf ByteArray.empty l0 x3_1).size : Int) > 18
            · rw [if_pos c6] at H
              have c6b0 : decide (18 < ((rdOf ByteArray.empty l0 x3_1).size : Int)) = true := decide_eq_true c6
              have c6b1 : decide (18 < (rdOf ByteArray.empty l0 x3_1).size) = true := decide_eq_true (by omega)
              clear c6
              obtain rfl := Option.some.inj H
              have p174 : 0 ≤ (x3_1 : Int) := of_decide_eq_true (by first | (with_reducible assumption) | assumption)
              have q174 : x3_1 < (l0.length : Int) := of_decide_eq_true (by first | (with_reducible assumption) | assumption)
              obtain ⟨ad174, e174, hx174_0⟩ := Kd.at_string HR0.out x3_1 p174 q174
              cases e174
              replace p174 := eq_true p174
              replace q174 := eq_true q174
              go_wp2_with (first | ((with_reducible refine gate_callee (f := 34) rfl ?_); refine goesL_ (some 16) rfl rfl Try.func34 (by kernel_rfl) rfl #[.string (rdOf ByteArray.empty l0 x3_1)] rfl (by (try simp only [List.map_toArray, List.map_cons, List.map_nil]); first | done | rfl | (simp only [List.length_drop, List.length_take]; rfl)) ?_; (with_reducible refine (spec_allDigits.calls k1 (rdOf ByteArray.empty l0 x3_1) true _ A4.out).mono ?_); rintro e w' ⟨rfl, ⟨nd, rfl⟩⟩; refine ⟨_, rfl, ?_⟩))
              go_ret
              exact ⟨by first | rfl | (simp; done) | (simp [*]; done), by repeat (first | exact Drawn0.refl _ | apply Drawn0.step)⟩
            · rw [if_neg c6] at H
              have c6b0 : decide (18 < ((rdOf ByteArray.empty l0 x3_1).size : Int)) = false := decide_eq_false c6
              have c6b1 : decide (18 < (rdOf ByteArray.empty l0 x3_1).size) = false := decide_eq_false (by omega)
              clear c6
              by_cases c7 : ((rdOf ByteArray.empty l0 x3_1).size : Int) > 1
              · rw [if_pos c7] at H
                have c7b0 : decide (1 < ((rdOf ByteArray.empty l0 x3_1).size : Int)) = true := decide_eq_true c7
                have c7b1 : decide (1 < (rdOf ByteArray.empty l0 x3_1).size) = true := decide_eq_true (by omega)
                clear c7
                by_cases c8 : 0 < ((rdOf ByteArray.empty l0 x3_1).size : Int)
                · rw [if_pos c8] at H
                  have c8b0 : decide (0 < ((rdOf ByteArray.empty l0 x3_1).size : Int)) = true := decide_eq_true c8
                  have c8b1 : decide (0 < (rdOf ByteArray.empty l0 x3_1).size) = true := decide_eq_true (by omega)
                  clear c8
                  by_cases c10 : (bt (rdOf ByteArray.empty l0 x3_1) 0) = 45
                  · rw [if_pos c10] at H
                    have c10b0 : ((bt (rdOf ByteArray.empty l0 x3_1) 0) == 45) = true := beq_iff_eq.mpr c10
                    have c10b1 : ((bt (rdOf ByteArray.empty l0 x3_1) 0) != 45) = false := bne_eq_false_iff_eq.mpr c10
                    clear c10
                    by_cases c11 : 1 ≤ ((rdOf ByteArray.empty l0 x3_1).size : Int)
                    · rw [if_pos c11] at H
                      have c11b0 := eq_true c11
                      have c11b1 : decide (1 ≤ ((rdOf ByteArray.empty l0 x3_1).size : Int)) = true := decide_eq_true c11
                      clear c11
                      replace H := Option.bind_eq_some_iff.mp H
                      obtain ⟨t176, A120, H⟩ := H
                      replace H : (if t176 = true then (some false) else (spec_PackagistKnown.l0 k1 l0 (wrap64 (x3_1 + 1)))) = some r := H
                      have A12 := Aside0.mk A120
                      clear A120
                      by_cases c13 : t176 = true
                      · subst c13
                        have H1 : (some false) = some r := by rw [if_pos rfl] at H; exact H
                        clear H
                        have H := H1
                        clear H1
                        obtain rfl := Option.some.inj H
                        have p174 : 0 ≤ (x3_1 : Int) := of_decide_eq_true (by first | (with_reducible assumption) | assumption)
                        have q174 : x3_1 < (l0.length : Int) := of_decide_eq_true (by first | (with_reducible assumption) | assumption)
                        obtain ⟨ad174, e174, hx174_0⟩ := Kd.at_string HR0.out x3_1 p174 q174
                        cases e174
                        replace p174 := eq_true p174
                        replace q174 := eq_true q174
                        go_wp2_with (first | ((with_reducible refine gate_callee (f := 34) rfl ?_); refine goesL_ (some 16) rfl rfl Try.func34 (by kernel_rfl) rfl #[.string (rdOf ByteArray.empty l0 x3_1)] rfl (by (try simp only [List.map_toArray, List.map_cons, List.map_nil]); first | done | rfl | (simp only [List.length_drop, List.length_take]; rfl)) ?_; (with_reducible refine (spec_allDigits.calls k1 (rdOf ByteArray.empty l0 x3_1) true _ A4.out).mono ?_); rintro e w' ⟨rfl, ⟨nd, rfl⟩⟩; refine ⟨_, rfl, ?_⟩; have p9 : 0 ≤ (0 : Int) := (by omega); have q9 : 0 < (rdOf ByteArray.empty l0 x3_1).size := (by have : (0 : Int) < ((rdOf ByteArray.empty l0 x3_1).size : Int) := of_decide_eq_true (by first | (with_reducible assumption) | assumption); omega); have hx9 : ∀ h : 0 < (rdOf ByteArray.empty l0 x3_1).size, (((rdOf ByteArray.empty l0 x3_1)[0]'h).toNat : Int) = bt (rdOf ByteArray.empty l0 x3_1) 0 := bt_at (rdOf ByteArray.empty l0 x3_1) 0; clear p9; have qi9 : (0 < ((rdOf ByteArray.empty l0 x3_1).size : Int)) = True := eq_true (of_decide_eq_true (by first | (with_reducible assumption) | assumption)); replace q9 := eq_true q9) | (go_at_call 34; (with_reducible refine (spec_allDigits.calls k1 ((rdOf ByteArray.empty l0 x3_1).extract 1 (rdOf ByteArray.empty l0 x3_1).size) true _ A12.out).mono ?_); rintro e w' ⟨rfl, ⟨nd, rfl⟩⟩))
                        go_ret
                        exact ⟨by first | rfl | (simp; done) | (simp [*]; done), by repeat (first | exact Drawn0.refl _ | apply Drawn0.step)⟩
                      · replace c13 := Bool.eq_false_iff.mpr c13
                        subst c13
                        have H1 : (spec_PackagistKnown.l0 k1 l0 (wrap64 (x3_1 + 1))) = some r := by rw [if_neg (show ¬ (false = true) by decide)] at H; exact H
                        clear H
                        have H := H1
                        clear H1
                        have H' := Aside0.mk H
                        clear H
                        have p174 : 0 ≤ (x3_1 : Int) := of_decide_eq_true (by first | (with_reducible assumption) | assumption)
                        have q174 : x3_1 < (l0.length : Int) := of_decide_eq_true (by first | (with_reducible assumption) | assumption)
                        obtain ⟨ad174, e174, hx174_0⟩ := Kd.at_string HR0.out x3_1 p174 q174
                        cases e174
                        replace p174 := eq_true p174
                        replace q174 := eq_true q174
                        go_wp2_with (first | ((with_reducible refine gate_callee (f := 34) rfl ?_); refine goesL_ (some 16) rfl rfl Try.func34 (by kernel_rfl) rfl #[.string (rdOf ByteArray.empty l0 x3_1)] rfl (by (try simp only [List.map_toArray, List.map_cons, List.map_nil]); first | done | rfl | (simp only [List.length_drop, List.length_take]; rfl)) ?_; (with_reducible refine (spec_allDigits.calls k1 (rdOf ByteArray.empty l0 x3_1) true _ A4.out).mono ?_); rintro e w' ⟨rfl, ⟨nd, rfl⟩⟩; refine ⟨_, rfl, ?_⟩; have p9 : 0 ≤ (0 : Int) := (by omega); have q9 : 0 < (rdOf ByteArray.empty l0 x3_1).size := (by have : (0 : Int) < ((rdOf ByteArray.empty l0 x3_1).size : Int) := of_decide_eq_true (by first | (with_reducible assumption) | assumption); omega); have hx9 : ∀ h : 0 < (rdOf ByteArray.empty l0 x3_1).size, (((rdOf ByteArray.empty l0 x3_1)[0]'h).toNat : Int) = bt (rdOf ByteArray.empty l0 x3_1) 0 := bt_at (rdOf ByteArray.empty l0 x3_1) 0; clear p9; have qi9 : (0 < ((rdOf ByteArray.empty l0 x3_1).size : Int)) = True := eq_true (of_decide_eq_true (by first | (with_reducible assumption) | assumption)); replace q9 := eq_true q9) | (go_at_call 34; (with_reducible refine (spec_allDigits.calls k1 ((rdOf ByteArray.empty l0 x3_1).extract 1 (rdOf ByteArray.empty l0 x3_1).size) false _ A12.out).mono ?_); rintro e w' ⟨rfl, ⟨nd, rfl⟩⟩))
                        go_roundg k1
                        case measure => have := HK1.out; omega
                        case rel => exact ⟨(wrap64 (x3_1 + 1)), (by first | rfl | (simp; done) | (simp [*]; done)), H', ⟨by have := HK1.out; omega⟩, by repeat (first | exact Drawn0.refl _ | apply Drawn0.step)⟩
                    · rw [if_neg c11] at H
                      exact absurd H (by simp)
                  · rw [if_neg c10] at H
                    have c10b0 : ((bt (rdOf ByteArray.empty l0 x3_1) 0) == 45) = false := beq_eq_false_iff_ne.mpr c10
                    have c10b1 : ((bt (rdOf ByteArray.empty l0 x3_1) 0) != 45) = true := bne_iff_ne.mpr c10
                    by_cases c15 : (bt (rdOf ByteArray.empty l0 x3_1) 0) = 43
                    · rw [if_pos c15] at H
                      have c15b0 : ((bt (rdOf ByteArray.empty l0 x3_1) 0) == 43) = true := beq_iff_eq.mpr c15
                      have c15b1 : ((bt (rdOf ByteArray.empty l0 x3_1) 0) != 43) = false := bne_eq_false_iff_eq.mpr c15
                      clear c15
                      by_cases c16 : 1 ≤ ((rdOf ByteArray.empty l0 x3_1).size : Int)
                      · rw [if_pos c16] at H
                        have c16b0 := eq_true c16
                        have c16b1 : decide (1 ≤ ((rdOf ByteArray.empty l0 x3_1).size : Int)) = true := decide_eq_true c16
                        clear c16
                        replace H := Option.bind_eq_some_iff.mp H
                        obtain ⟨t177, A170, H⟩ := H
                        replace H : (if t177 = true then (some false) else (spec_PackagistKnown.l0 k1 l0 (wrap64 (x3_1 + 1)))) = some r := H
                        have A17 := Aside0.mk A170
                        clear A170
                        by_cases c18 : t177 = true
                        · subst c18
                          have H1 : (some false) = some r := by rw [if_pos rfl] at H; exact H
                          clear H
                          have H := H1
                          clear H1
                          obtain rfl := Option.some.inj H
                          have p174 : 0 ≤ (x3_1 : Int) := of_decide_eq_true (by first | (with_reducible assumption) | assumption)
                          have q174 : x3_1 < (l0.length : Int) := of_decide_eq_true (by first | (with_reducible assumption) | assumption)
                          obtain ⟨ad174, e174, hx174_0⟩ := Kd.at_string HR0.out x3_1 p174 q174
                          cases e174
                          replace p174 := eq_true p174
                          replace q174 := eq_true q174
                          go_wp2_with (first | ((with_reducible refine gate_callee (f := 34) rfl ?_); refine goesL_ (some 16) rfl rfl Try.func34 (by kernel_rfl) rfl #[.string (rdOf ByteArray.empty l0 x3_1)] rfl (by (try simp only [List.map_toArray, List.map_cons, List.map_nil]); first | done | rfl | (simp only [List.length_drop, List.length_take]; rfl)) ?_; (with_reducible refine (spec_allDigits.calls k1 (rdOf ByteArray.empty l0 x3_1) true _ A4.out).mono ?_); rintro e w' ⟨rfl, ⟨nd, rfl⟩⟩; refine ⟨_, rfl, ?_⟩; have p9 : 0 ≤ (0 : Int) := (by omega); have q9 : 0 < (rdOf ByteArray.empty l0 x3_1).size := (by have : (0 : Int) < ((rdOf ByteArray.empty l0 x3_1).size : Int) := of_decide_eq_true (by first | (with_reducible assumption) | assumption); omega); have hx9 : ∀ h : 0 < (rdOf ByteArray.empty l0 x3_1).size, (((rdOf ByteArray.empty l0 x3_1)[0]'h).toNat : Int) = bt (rdOf ByteArray.empty l0 x3_1) 0 := bt_at (rdOf ByteArray.empty l0 x3_1) 0; clear p9; have qi9 : (0 < ((rdOf ByteArray.empty l0 x3_1).size : Int)) = True := eq_true (of_decide_eq_true (by first | (with_reducible assumption) | assumption)); replace q9 := eq_true q9; have p14 : 0 ≤ (0 : Int) := (by omega); have q14 : 0 < (rdOf ByteArray.empty l0 x3_1).size := (by have : (0 : Int) < ((rdOf ByteArray.empty l0 x3_1).size : Int) := of_decide_eq_true (by first | (with_reducible assumption) | assumption); omega); have hx14 : ∀ h : 0 < (rdOf ByteArray.empty l0 x3_1).size, (((rdOf ByteArray.empty l0 x3_1)[0]'h).toNat : Int) = bt (rdOf ByteArray.empty l0 x3_1) 0 := bt_at (rdOf ByteArray.empty l0 x3_1) 0; clear p14; have qi14 : (0 < ((rdOf ByteArray.empty l0 x3_1).size : Int)) = True := eq_true (of_decide_eq_true (by first | (with_reducible assumption) | assumption)); replace q14 := eq_true q14) | (go_at_call 34; (with_reducible refine (spec_allDigits.calls k1 ((rdOf ByteArray.empty l0 x3_1).extract 1 (rdOf ByteArray.empty l0 x3_1).size) true _ A17.out).mono ?_); rintro e w' ⟨rfl, ⟨nd, rfl⟩⟩))
                          go_ret
                          exact ⟨by first | rfl | (simp; done) | (simp [*]; done), by repeat (first | exact Drawn0.refl _ | apply Drawn0.step)⟩
                        · replace c18 := Bool.eq_false_iff.mpr c18
                          subst c18
                          have H1 : (spec_PackagistKnown.l0 k1 l0 (wrap64 (x3_1 + 1))) = some r := by rw [if_neg (show ¬ (false = true) by decide)] at H; exact H
                          clear H
                          have H := H1
                          clear H1
                          have H' := Aside0.mk H
                          clear H
                          have p174 : 0 ≤ (x3_1 : Int) := of_decide_eq_true (by first | (with_reducible assumption) | assumption)
                          have q174 : x3_1 < (l0.length : Int) := of_decide_eq_true (by first | (with_reducible assumption) | assumption)
                          obtain ⟨ad174, e174, hx174_0⟩ := Kd.at_string HR0.out x3_1 p174 q174
                          cases e174
                          replace p174 := eq_true p174
                          replace q174 := eq_true q174
                          go_wp2_with (first | ((with_reducible refine gate_callee (f := 34) rfl ?_); refine goesL_ (some 16) rfl rfl Try.func34 (by kernel_rfl) rfl #[.string (rdOf ByteArray.empty l0 x3_1)] rfl (by (try simp only [List.map_toArray, List.map_cons, List.map_nil]); first | done | rfl | (simp only [List.length_drop, List.length_take]; rfl)) ?_; (with_reducible refine (spec_allDigits.calls k1 (rdOf ByteArray.empty l0 x3_1) true _ A4.out).mono ?_); rintro e w' ⟨rfl, ⟨nd, rfl⟩⟩; refine ⟨_, rfl, ?_⟩; have p9 : 0 ≤ (0 : Int) := (by omega); have q9 : 0 < (rdOf ByteArray.empty l0 x3_1).size := (by have : (0 : Int) < ((rdOf ByteArray.empty l0 x3_1).size : Int) := of_decide_eq_true (by first | (with_reducible assumption) | assumption); omega); have hx9 : ∀ h : 0 < (rdOf ByteArray.empty l0 x3_1).size, (((rdOf ByteArray.empty l0 x3_1)[0]'h).toNat : Int) = bt (rdOf ByteArray.empty l0 x3_1) 0 := bt_at (rdOf ByteArray.empty l0 x3_1) 0; clear p9; have qi9 : (0 < ((rdOf ByteArray.empty l0 x3_1).size : Int)) = True := eq_true (of_decide_eq_true (by first | (with_reducible assumption) | assumption)); replace q9 := eq_true q9; have p14 : 0 ≤ (0 : Int) := (by omega); have q14 : 0 < (rdOf ByteArray.empty l0 x3_1).size := (by have : (0 : Int) < ((rdOf ByteArray.empty l0 x3_1).size : Int) := of_decide_eq_true (by first | (with_reducible assumption) | assumption); omega); have hx14 : ∀ h : 0 < (rdOf ByteArray.empty l0 x3_1).size, (((rdOf ByteArray.empty l0 x3_1)[0]'h).toNat : Int) = bt (rdOf ByteArray.empty l0 x3_1) 0 := bt_at (rdOf ByteArray.empty l0 x3_1) 0; clear p14; have qi14 : (0 < ((rdOf ByteArray.empty l0 x3_1).size : Int)) = True := eq_true (of_decide_eq_true (by first | (with_reducible assumption) | assumption)); replace q14 := eq_true q14) | (go_at_call 34; (with_reducible refine (spec_allDigits.calls k1 ((rdOf ByteArray.empty l0 x3_1).extract 1 (rdOf ByteArray.empty l0 x3_1).size) false _ A17.out).mono ?_); rintro e w' ⟨rfl, ⟨nd, rfl⟩⟩))
                          go_roundg k1
                          case measure => have := HK1.out; omega
                          case rel => exact ⟨(wrap64 (x3_1 + 1)), (by first | rfl | (simp; done) | (simp [*]; done)), H', ⟨by have := HK1.out; omega⟩, by repeat (first | exact Drawn0.refl _ | apply Drawn0.step)⟩
                      · rw [if_neg c16] at H
                        exact absurd H (by simp)
                    · rw [if_neg c15] at H
                      have c15b0 : ((bt (rdOf ByteArray.empty l0 x3_1) 0) == 43) = false := beq_eq_false_iff_ne.mpr c15
                      have c15b1 : ((bt (rdOf ByteArray.empty l0 x3_1) 0) != 43) = true := bne_iff_ne.mpr c15
                      have H' := Aside0.mk H
                      clear H
                      have p174 : 0 ≤ (x3_1 : Int) := of_decide_eq_true (by first | (with_reducible assumption) | assumption)
                      have q174 : x3_1 < (l0.length : Int) := of_decide_eq_true (by first | (with_reducible assumption) | assumption)
                      obtain ⟨ad174, e174, hx174_0⟩ := Kd.at_string HR0.out x3_1 p174 q174
                      cases e174
                      replace p174 := eq_true p174
                      replace q174 := eq_true q174
                      go_wp2_with (first | ((with_reducible refine gate_callee (f := 34) rfl ?_); refine goesL_ (some 16) rfl rfl Try.func34 (by kernel_rfl) rfl #[.string (rdOf ByteArray.empty l0 x3_1)] rfl (by (try simp only [List.map_toArray, List.map_cons, List.map_nil]); first | done | rfl | (simp only [List.length_drop, List.length_take]; rfl)) ?_; (with_reducible refine (spec_allDigits.calls k1 (rdOf ByteArray.empty l0 x3_1) true _ A4.out).mono ?_); rintro e w' ⟨rfl, ⟨nd, rfl⟩⟩; refine ⟨_, rfl, ?_⟩; have p9 : 0 ≤ (0 : Int) := (by omega); have q9 : 0 < (rdOf ByteArray.empty l0 x3_1).size := (by have : (0 : Int) < ((rdOf ByteArray.empty l0 x3_1).size : Int) := of_decide_eq_true (by first | (with_reducible assumption) | assumption); omega); have hx9 : ∀ h : 0 < (rdOf ByteArray.empty l0 x3_1).size, (((rdOf ByteArray.empty l0 x3_1)[0]'h).toNat : Int) = bt (rdOf ByteArray.empty l0 x3_1) 0 := bt_at (rdOf ByteArray.empty l0 x3_1) 0; clear p9; have qi9 : (0 < ((rdOf ByteArray.empty l0 x3_1).size : Int)) = True := eq_true (of_decide_eq_true (by first | (with_reducible assumption) | assumption)); replace q9 := eq_true q9; have p14 : 0 ≤ (0 : Int) := (by omega); have q14 : 0 < (rdOf ByteArray.empty l0 x3_1).size := (by have : (0 : Int) < ((rdOf ByteArray.empty l0 x3_1).size : Int) := of_decide_eq_true (by first | (with_reducible assumption) | assumption); omega); have hx14 : ∀ h : 0 < (rdOf ByteArray.empty l0 x3_1).size, (((rdOf ByteArray.empty l0 x3_1)[0]'h).toNat : Int) = bt (rdOf ByteArray.empty l0 x3_1) 0 := bt_at (rdOf ByteArray.empty l0 x3_1) 0; clear p14; have qi14 : (0 < ((rdOf ByteArray.empty l0 x3_1).size : Int)) = True := eq_true (of_decide_eq_true (by first | (with_reducible assumption) | assumption)); replace q14 := eq_true q14))
                      go_roundg k1
                      case measure => have := HK1.out; omega
                      case rel => exact ⟨(wrap64 (x3_1 + 1)), (by first | rfl | (simp; done) | (simp [*]; done)), H', ⟨by have := HK1.out; omega⟩, by repeat (first | exact Drawn0.refl _ | apply Drawn0.step)⟩
                · rw [if_neg c8] at H
                  exact absurd H (by simp)
              · rw [if_neg c7] at H
                have c7b0 : decide (1 < ((rdOf ByteArray.empty l0 x3_1).size : Int)) = false := decide_eq_false c7
                have c7b1 : decide (1 < (rdOf ByteArray.empty l0 x3_1).size) = false := decide_eq_false (by omega)
                clear c7
                have H' := Aside0.mk H
                clear H
                have p174 : 0 ≤ (x3_1 : Int) := of_decide_eq_true (by first | (with_reducible assumption) | assumption)
                have q174 : x3_1 < (l0.length : Int) := of_decide_eq_true (by first | (with_reducible assumption) | assumption)
                obtain ⟨ad174, e174, hx174_0⟩ := Kd.at_string HR0.out x3_1 p174 q174
                cases e174
                replace p174 := eq_true p174
                replace q174 := eq_true q174
                go_wp2_with (first | ((with_reducible refine gate_callee (f := 34) rfl ?_); refine goesL_ (some 16) rfl rfl Try.func34 (by kernel_rfl) rfl #[.string (rdOf ByteArray.empty l0 x3_1)] rfl (by (try simp only [List.map_toArray, List.map_cons, List.map_nil]); first | done | rfl | (simp only [List.length_drop, List.length_take]; rfl)) ?_; (with_reducible refine (spec_allDigits.calls k1 (rdOf ByteArray.empty l0 x3_1) true _ A4.out).mono ?_); rintro e w' ⟨rfl, ⟨nd, rfl⟩⟩; refine ⟨_, rfl, ?_⟩))
                go_roundg k1
                case measure => have := HK1.out; omega
                case rel => exact ⟨(wrap64 (x3_1 + 1)), (by first | rfl | (simp; done) | (simp [*]; done)), H', ⟨by have := HK1.out; omega⟩, by repeat (first | exact Drawn0.refl _ | apply Drawn0.step)⟩
          · replace c5 := Bool.eq_false_iff.mpr c5
            subst c5
            have H1 : (if ((rdOf ByteArray.empty l0 x3_1).size : Int) > 1 then (if 0 < ((rdOf ByteArray.empty l0 x3_1).size : Int) then (if (bt (rdOf ByteArray.empty l0 x3_1) 0) = 45 then (if 1 ≤ ((rdOf ByteArray.empty l0 x3_1).size : Int) then ((spec_allDigits.f k1 ((rdOf ByteArray.empty l0 x3_1).extract 1 (rdOf ByteArray.empty l0 x3_1).size)).bind fun t178 => (if t178 = true then (some false) else (spec_PackagistKnown.l0 k1 l0 (wrap64 (x3_1 + 1))))) else (none)) else (if (bt (rdOf ByteArray.empty l0 x3_1) 0) = 43 then (if 1 ≤ ((rdOf ByteArray.empty l0 x3_1).size : Int) then ((spec_allDigits.f k1 ((rdOf ByteArray.empty l0 x3_1).extract 1 (rdOf ByteArray.empty l0 x3_1).size)).bind fun t179 => (if t179 = true then (some false) else (spec_PackagistKnown.l0 k1 l0 (wrap64 (x3_1 + 1))))) else (none)) else (spec_PackagistKnown.l0 k1 l0 (wrap64 (x3_1 + 1))))) else (none)) else (spec_PackagistKnown.l0 k1 l0 (wrap64 (x3_1 + 1)))) = some r := by rw [if_neg (show ¬ (false = true) by decide)] at H; exact H
            clear H
            have H := H1
            clear H1
            by_cases c19 : ((rdOf ByteArray.empty l0 x3_1).size : Int) > 1
            · rw [if_pos c19] at H
              have c19b0 : decide (1 < ((rdOf ByteArray.empty l0 x3_1).size : Int)) = true := decide_eq_true c19
              have c19b1 : decide (1 < (rdOf ByteArray.empty l0 x3_1).size) = true := decide_eq_true (by omega)
              clear c19
              by_cases c20 : 0 < ((rdOf ByteArray.empty l0 x3_1).size : Int)
              · rw [if_pos c20] at H
                have c20b0 : decide (0 < ((rdOf ByteArray.empty l0 x3_1).size : Int)) = true := decide_eq_true c20
                have c20b1 : decide (0 < (rdOf ByteArray.empty l0 x3_1).size) = true := decide_eq_true (by omega)
                clear c20
                by_cases c22 : (bt (rdOf ByteArray.empty l0 x3_1) 0) = 45
                · rw [if_pos c22] at H
                  have c22b0 : ((bt (rdOf ByteArray.empty l0 x3_1) 0) == 45) = true := beq_iff_eq.mpr c22
                  have c22b1 : ((bt (rdOf ByteArray.empty l0 x3_1) 0) != 45) = false := bne_eq_false_iff_eq.mpr c22
                  clear c22
                  by_cases c23 : 1 ≤ ((rdOf ByteArray.empty l0 x3_1).size : Int)
                  · rw [if_pos c23] at H
                    have c23b0 := eq_true c23
                    have c23b1 : decide (1 ≤ ((rdOf ByteArray.empty l0 x3_1).size : Int)) = true := decide_eq_true c23
                    clear c23
                    replace H := Option.bind_eq_some_iff.mp H
                    obtain ⟨t178, A240, H⟩ := H
                    replace H : (if t178 = true then (some false) else (spec_PackagistKnown.l0 k1 l0 (wrap64 (x3_1 + 1)))) = some r := H
                    have A24 := Aside0.mk A240
                    clear A240
                    by_cases c25 : t178 = true
                    · subst c25
                      have H1 : (some false) = some r := by rw [if_pos rfl] at H; exact H
                      clear H
                      have H := H1
                      clear H1
                      obtain rfl := Option.some.inj H
                      have p174 : 0 ≤ (x3_1 : Int) := of_decide_eq_true (by first | (with_reducible assumption) | assumption)
                      have q174 : x3_1 < (l0.length : Int) := of_decide_eq_true (by first | (with_reducible assumption) | assumption)
                      obtain ⟨ad174, e174, hx174_0⟩ := Kd.at_string HR0.out x3_1 p174 q174
                      cases e174
                      replace p174 := eq_true p174
                      replace q174 := eq_true q174
                      go_wp2_with (first | ((with_reducible refine gate_callee (f := 34) rfl ?_); refine goesL_ (some 16) rfl rfl Try.func34 (by kernel_rfl) rfl #[.string (rdOf ByteArray.empty l0 x3_1)] rfl (by (try simp only [List.map_toArray, List.map_cons, List.map_nil]); first | done | rfl | (simp only [List.length_drop, List.length_take]; rfl)) ?_; (with_reducible refine (spec_allDigits.calls k1 (rdOf ByteArray.empty l0 x3_1) false _ A4.out).mono ?_); rintro e w' ⟨rfl, ⟨nd, rfl⟩⟩; refine ⟨_, rfl, ?_⟩; have p21 : 0 ≤ (0 : Int) := (by omega); have q21 : 0 < (rdOf ByteArray.empty l0 x3_1).size := (by have : (0 : Int) < ((rdOf ByteArray.empty l0 x3_1).size : Int) := of_decide_eq_true (by first | (with_reducible assumption) | assumption); omega); have hx21 : ∀ h : 0 < (rdOf ByteArray.empty l0 x3_1).size, (((rdOf ByteArray.empty l0 x3_1)[0]'h).toNat : Int) = bt (rdOf ByteArray.empty l0 x3_1) 0 := bt_at (rdOf ByteArray.empty l0 x3_1) 0; clear p21; have qi21 : (0 < ((rdOf ByteArray.empty l0 x3_1).size : Int)) = True := eq_true (of_decide_eq_true (by first | (with_reducible assumption) | assumption)); replace q21 := eq_true q21) | (go_at_call 34; (with_reducible refine (spec_allDigits.calls k1 ((rdOf ByteArray.empty l0 x3_1).extract 1 (rdOf ByteArray.empty l0 x3_1).size) true _ A24.out).mono ?_); rintro e w' ⟨rfl, ⟨nd, rfl⟩⟩))
                      go_ret
                      exact ⟨by first | rfl | (simp; done) | (simp [*]; done), by repeat (first | exact Drawn0.refl _ | apply Drawn0.step)⟩
                    · replace c25 := Bool.eq_false_iff.mpr c25
                      subst c25
                      have H1 : (spec_PackagistKnown.l0 k1 l0 (wrap64 (x3_1 + 1))) = some r := by rw [if_neg (show ¬ (false = true) by decide)] at H; exact H
                      clear H
                      have H := H1
                      clear H1
                      have H' := Aside0.mk H
                      clear H
                      have p174 : 0 ≤ (x3_1 : Int) := of_decide_eq_true (by first | (with_reducible assumption) | assumption)
                      have q174 : x3_1 < (l0.length : Int) := of_decide_eq_true (by first | (with_reducible assumption) | assumption)
                      obtain ⟨ad174, e174, hx174_0⟩ := Kd.at_string HR0.out x3_1 p174 q174
                      cases e174
                      replace p174 := eq_true p174
                      replace q174 := eq_true q174
                      go_wp2_with (first | ((with_reducible refine gate_callee (f := 34) rfl ?_); refine goesL_ (some 16) rfl rfl Try.func34 (by kernel_rfl) rfl #[.string (rdOf ByteArray.empty l0 x3_1)] rfl (by (try simp only [List.map_toArray, List.map_cons, List.map_nil]); first | done | rfl | (simp only [List.length_drop, List.length_take]; rfl)) ?_; (with_reducible refine (spec_allDigits.calls k1 (rdOf ByteArray.empty l0 x3_1) false _ A4.out).mono ?_); rintro e w' ⟨rfl, ⟨nd, rfl⟩⟩; refine ⟨_, rfl, ?_⟩; have p21 : 0 ≤ (0 : Int) := (by omega); have q21 : 0 < (rdOf ByteArray.empty l0 x3_1).size := (by have : (0 : Int) < ((rdOf ByteArray.empty l0 x3_1).size : Int) := of_decide_eq_true (by first | (with_reducible assumption) | assumption); omega); have hx21 : ∀ h : 0 < (rdOf ByteArray.empty l0 x3_1).size, (((rdOf ByteArray.empty l0 x3_1)[0]'h).toNat : Int) = bt (rdOf ByteArray.empty l0 x3_1) 0 := bt_at (rdOf ByteArray.empty l0 x3_1) 0; clear p21; have qi21 : (0 < ((rdOf ByteArray.empty l0 x3_1).size : Int)) = True := eq_true (of_decide_eq_true (by first | (with_reducible assumption) | assumption)); replace q21 := eq_true q21) | (go_at_call 34; (with_reducible refine (spec_allDigits.calls k1 ((rdOf ByteArray.empty l0 x3_1).extract 1 (rdOf ByteArray.empty l0 x3_1).size) false _ A24.out).mono ?_); rintro e w' ⟨rfl, ⟨nd, rfl⟩⟩))
                      go_roundg k1
                      case measure => have := HK1.out; omega
                      case rel => exact ⟨(wrap64 (x3_1 + 1)), (by first | rfl | (simp; done) | (simp [*]; done)), H', ⟨by have := HK1.out; omega⟩, by repeat (first | exact Drawn0.refl _ | apply Drawn0.step)⟩
                  · rw [if_neg c23] at H
                    exact absurd H (by simp)
                · rw [if_neg c22] at H
                  have c22b0 : ((bt (rdOf ByteArray.empty l0 x3_1) 0) == 45) = false := beq_eq_false_iff_ne.mpr c22
                  have c22b1 : ((bt (rdOf ByteArray.empty l0 x3_1) 0) != 45) = true := bne_iff_ne.mpr c22
                  by_cases c27 : (bt (rdOf ByteArray.empty l0 x3_1) 0) = 43
                  · rw [if_pos c27] at H
                    have c27b0 : ((bt (rdOf ByteArray.empty l0 x3_1) 0) == 43) = true := beq_iff_eq.mpr c27
                    have c27b1 : ((bt (rdOf ByteArray.empty l0 x3_1) 0) != 43) = false := bne_eq_false_iff_eq.mpr c27
                    clear c27
                    by_cases c28 : 1 ≤ ((rdOf ByteArray.empty l0 x3_1).size : Int)
                    · rw [if_pos c28] at H
                      have c28b0 := eq_true c28
                      have c28b1 : decide (1 ≤ ((rdOf ByteArray.empty l0 x3_1).size : Int)) = true := decide_eq_true c28
                      clear c28
                      replace H := Option.bind_eq_some_iff.mp H
                      obtain ⟨t179, A290, H⟩ := H
                      replace H : (if t179 = true then (some false) else (spec_PackagistKnown.l0 k1 l0 (wrap64 (x3_1 + 1)))) = some r := H
                      have A29 := Aside0.mk A290
                      clear A290
                      by_cases c30 : t179 = true
                      · subst c30
                        have H1 : (some false) = some r := by rw [if_pos rfl] at H; exact H
                        clear H
                        have H := H1
                        clear H1
                        obtain rfl := Option.some.inj H
                        have p174 : 0 ≤ (x3_1 : Int) := of_decide_eq_true (by first | (with_reducible assumption) | assumption)
                        have q174 : x3_1 < (l0.length : Int) := of_decide_eq_true (by first | (with_reducible assumption) | assumption)
                        obtain ⟨ad174, e174, hx174_0⟩ := Kd.at_string HR0.out x3_1 p174 q174
                        cases e174
                        replace p174 := eq_true p174
                        replace q174 := eq_true q174
                        go_wp2_with (first | ((with_reducible refine gate_callee (f := 34) rfl ?_); refine goesL_ (some 16) rfl rfl Try.func34 (by kernel_rfl) rfl #[.string (rdOf ByteArray.empty l0 x3_1)] rfl (by (try simp only [List.map_toArray, List.map_cons, List.map_nil]); first | done | rfl | (simp only [List.length_drop, List.length_take]; rfl)) ?_; (with_reducible refine (spec_allDigits.calls k1 (rdOf ByteArray.empty l0 x3_1) false _ A4.out).mono ?_); rintro e w' ⟨rfl, ⟨nd, rfl⟩⟩; refine ⟨_, rfl, ?_⟩; have p21 : 0 ≤ (0 : Int) := (by omega); have q21 : 0 < (rdOf ByteArray.empty l0 x3_1).size := (by have : (0 : Int) < ((rdOf ByteArray.empty l0 x3_1).size : Int) := of_decide_eq_true (by first | (with_reducible assumption) | assumption); omega); have hx21 : ∀ h : 0 < (rdOf ByteArray.empty l0 x3_1).size, (((rdOf ByteArray.empty l0 x3_1)[0]'h).toNat : Int) = bt (rdOf ByteArray.empty l0 x3_1) 0 := bt_at (rdOf ByteArray.empty l0 x3_1) 0; clear p21; have qi21 : (0 < ((rdOf ByteArray.empty l0 x3_1).size : Int)) = True := eq_true (of_decide_eq_true (by first | (with_reducible assumption) | assumption)); replace q21 := eq_true q21; have p26 : 0 ≤ (0 : Int) := (by omega); have q26 : 0 < (rdOf ByteArray.empty l0 x3_1).size := (by have : (0 : Int) < ((rdOf ByteArray.empty l0 x3_1).size : Int) := of_decide_eq_true (by first | (with_reducible assumption) | assumption); omega); have hx26 : ∀ h : 0 < (rdOf ByteArray.empty l0 x3_1).size, (((rdOf ByteArray.empty l0 x3_1)[0]'h).toNat : Int) = bt (rdOf ByteArray.empty l0 x3_1) 0 := bt_at (rdOf ByteArray.empty l0 x3_1) 0; clear p26; have qi26 : (0 < ((rdOf ByteArray.empty l0 x3_1).size : Int)) = True := eq_true (of_decide_eq_true (by first | (with_reducible assumption) | assumption)); replace q26 := eq_true q26) | (go_at_call 34; (with_reducible refine (spec_allDigits.calls k1 ((rdOf ByteArray.empty l0 x3_1).extract 1 (rdOf ByteArray.empty l0 x3_1).size) true _ A29.out).mono ?_); rintro e w' ⟨rfl, ⟨nd, rfl⟩⟩))
                        go_ret
                        exact ⟨by first | rfl | (simp; done) | (simp [*]; done), by repeat (first | exact Drawn0.refl _ | apply Drawn0.step)⟩
                      · replace c30 := Bool.eq_false_iff.mpr c30
                        subst c30
                        have H1 : (spec_PackagistKnown.l0 k1 l0 (wrap64 (x3_1 + 1))) = some r := by rw [if_neg (show ¬ (false = true) by decide)] at H; exact H
                        clear H
                        have H := H1
                        clear H1
                        have H' := Aside0.mk H
                        clear H
                        have p174 : 0 ≤ (x3_1 : Int) := of_decide_eq_true (by first | (with_reducible assumption) | assumption)
                        have q174 : x3_1 < (l0.length : Int) := of_decide_eq_true (by first | (with_reducible assumption) | assumption)
                        obtain ⟨ad174, e174, hx174_0⟩ := Kd.at_string HR0.out x3_1 p174 q174
                        cases e174
                        replace p174 := eq_true p174
                        replace q174 := eq_true q174
                        go_wp2_with (first | ((with_reducible refine gate_callee (f := 34) rfl ?_); refine goesL_ (some 16) rfl rfl Try.func34 (by kernel_rfl) rfl #[.string (rdOf ByteArray.empty l0 x3_1)] rfl (by (try simp only [List.map_toArray, List.map_cons, List.map_nil]); first | done | rfl | (simp only [List.length_drop, List.length_take]; rfl)) ?_; (with_reducible refine (spec_allDigits.calls k1 (rdOf ByteArray.empty l0 x3_1) false _ A4.out).mono ?_); rintro e w' ⟨rfl, ⟨nd, rfl⟩⟩; refine ⟨_, rfl, ?_⟩; have p21 : 0 ≤ (0 : Int) := (by omega); have q21 : 0 < (rdOf ByteArray.empty l0 x3_1).size := (by have : (0 : Int) < ((rdOf ByteArray.empty l0 x3_1).size : Int) := of_decide_eq_true (by first | (with_reducible assumption) | assumption); omega); have hx21 : ∀ h : 0 < (rdOf ByteArray.empty l0 x3_1).size, (((rdOf ByteArray.empty l0 x3_1)[0]'h).toNat : Int) = bt (rdOf ByteArray.empty l0 x3_1) 0 := bt_at (rdOf ByteArray.empty l0 x3_1) 0; clear p21; have qi21 : (0 < ((rdOf ByteArray.empty l0 x3_1).size : Int)) = True := eq_true (of_decide_eq_true (by first | (with_reducible assumption) | assumption)); replace q21 := eq_true q21; have p26 : 0 ≤ (0 : Int) := (by omega); have q26 : 0 < (rdOf ByteArray.empty l0 x3_1).size := (by have : (0 : Int) < ((rdOf ByteArray.empty l0 x3_1).size : Int) := of_decide_eq_true (by first | (with_reducible assumption) | assumption); omega); have hx26 : ∀ h : 0 < (rdOf ByteArray.empty l0 x3_1).size, (((rdOf ByteArray.empty l0 x3_1)[0]'h).toNat : Int) = bt (rdOf ByteArray.empty l0 x3_1) 0 := bt_at (rdOf ByteArray.empty l0 x3_1) 0; clear p26; have qi26 : (0 < ((rdOf ByteArray.empty l0 x3_1).size : Int)) = True := eq_true (of_decide_eq_true (by first | (with_reducible assumption) | assumption)); replace q26 := eq_true q26) | (go_at_call 34; (with_reducible refine (spec_allDigits.calls k1 ((rdOf ByteArray.empty l0 x3_1).extract 1 (rdOf ByteArray.empty l0 x3_1).size) false _ A29.out).mono ?_); rintro e w' ⟨rfl, ⟨nd, rfl⟩⟩))
                        go_roundg k1
                        case measure => have := HK1.out; omega
                        case rel => exact ⟨(wrap64 (x3_1 + 1)), (by first | rfl | (simp; done) | (simp [*]; done)), H', ⟨by have := HK1.out; omega⟩, by repeat (first | exact Drawn0.refl _ | apply Drawn0.step)⟩
                    · rw [if_neg c28] at H
                      exact absurd H (by simp)
                  · rw [if_neg c27] at H
                    have c27b0 : ((bt (rdOf ByteArray.empty l0 x3_1) 0) == 43) = false := beq_eq_false_iff_ne.mpr c27
                    have c27b1 : ((bt (rdOf ByteArray.empty l0 x3_1) 0) != 43) = true := bne_iff_ne.mpr c27
                    have H' := Aside0.mk H
                    clear H
                    have p174 : 0 ≤ (x3_1 : Int) := of_decide_eq_true (by first | (with_reducible assumption) | assumption)
                    have q174 : x3_1 < (l0.length : Int) := of_decide_eq_true (by first | (with_reducible assumption) | assumption)
                    obtain ⟨ad174, e174, hx174_0⟩ := Kd.at_string HR0.out x3_1 p174 q174
                    cases e174
                    replace p174 := eq_true p174
                    replace q174 := eq_true q174
                    go_wp2_with (first | ((with_reducible refine gate_callee (f := 34) rfl ?_); refine goesL_ (some 16) rfl rfl Try.func34 (by kernel_rfl) rfl #[.string (rdOf ByteArray.empty l0 x3_1)] rfl (by (try simp only [List.map_toArray, List.map_cons, List.map_nil]); first | done | rfl | (simp only [List.length_drop, List.length_take]; rfl)) ?_; (with_reducible refine (spec_allDigits.calls k1 (rdOf ByteArray.empty l0 x3_1) false _ A4.out).mono ?_); rintro e w' ⟨rfl, ⟨nd, rfl⟩⟩; refine ⟨_, rfl, ?_⟩; have p21 : 0 ≤ (0 : Int) := (by omega); have q21 : 0 < (rdOf ByteArray.empty l0 x3_1).size := (by have : (0 : Int) < ((rdOf ByteArray.empty l0 x3_1).size : Int) := of_decide_eq_true (by first | (with_reducible assumption) | assumption); omega); have hx21 : ∀ h : 0 < (rdOf ByteArray.empty l0 x3_1).size, (((rdOf ByteArray.empty l0 x3_1)[0]'h).toNat : Int) = bt (rdOf ByteArray.empty l0 x3_1) 0 := bt_at (rdOf ByteArray.empty l0 x3_1) 0; clear p21; have qi21 : (0 < ((rdOf ByteArray.empty l0 x3_1).size : Int)) = True := eq_true (of_decide_eq_true (by first | (with_reducible assumption) | assumption)); replace q21 := eq_true q21; have p26 : 0 ≤ (0 : Int) := (by omega); have q26 : 0 < (rdOf ByteArray.empty l0 x3_1).size := (by have : (0 : Int) < ((rdOf ByteArray.empty l0 x3_1).size : Int) := of_decide_eq_true (by first | (with_reducible assumption) | assumption); omega); have hx26 : ∀ h : 0 < (rdOf ByteArray.empty l0 x3_1).size, (((rdOf ByteArray.empty l0 x3_1)[0]'h).toNat : Int) = bt (rdOf ByteArray.empty l0 x3_1) 0 := bt_at (rdOf ByteArray.empty l0 x3_1) 0; clear p26; have qi26 : (0 < ((rdOf ByteArray.empty l0 x3_1).size : Int)) = True := eq_true (of_decide_eq_true (by first | (with_reducible assumption) | assumption)); replace q26 := eq_true q26))
                    go_roundg k1
                    case measure => have := HK1.out; omega
                    case rel => exact ⟨(wrap64 (x3_1 + 1)), (by first | rfl | (simp; done) | (simp [*]; done)), H', ⟨by have := HK1.out; omega⟩, by repeat (first | exact Drawn0.refl _ | apply Drawn0.step)⟩
              · rw [if_neg c20] at H
                exact absurd H (by simp)
            · rw [if_neg c19] at H
              have c19b0 : decide (1 < ((rdOf ByteArray.empty l0 x3_1).size : Int)) = false := decide_eq_false c19
              have c19b1 : decide (1 < (rdOf ByteArray.empty l0 x3_1).size) = false := decide_eq_false (by omega)
              clear c19
              have H' := Aside0.mk H
              clear H
              have p174 : 0 ≤ (x3_1 : Int) := of_decide_eq_true (by first | (with_reducible assumption) | assumption)
              have q174 : x3_1 < (l0.length : Int) := of_decide_eq_true (by first | (with_reducible assumption) | assumption)
              obtain ⟨ad174, e174, hx174_0⟩ := Kd.at_string HR0.out x3_1 p174 q174
              cases e174
              replace p174 := eq_true p174
              replace q174 := eq_true q174
              go_wp2_with (first | ((with_reducible refine gate_callee (f := 34) rfl ?_); refine goesL_ (some 16) rfl rfl Try.func34 (by kernel_rfl) rfl #[.string (rdOf ByteArray.empty l0 x3_1)] rfl (by (try simp only [List.map_toArray, List.map_cons, List.map_nil]); first | done | rfl | (simp only [List.length_drop, List.length_take]; rfl)) ?_; (with_reducible refine (spec_allDigits.calls k1 (rdOf ByteArray.empty l0 x3_1) false _ A4.out).mono ?_); rintro e w' ⟨rfl, ⟨nd, rfl⟩⟩; refine ⟨_, rfl, ?_⟩))
              go_roundg k1
              case measure => have := HK1.out; omega
              case rel => exact ⟨(wrap64 (x3_1 + 1)), (by first | rfl | (simp; done) | (simp [*]; done)), H', ⟨by have := HK1.out; omega⟩, by repeat (first | exact Drawn0.refl _ | apply Drawn0.step)⟩
        · rw [if_neg c3] at H
          exact absurd H (by simp)
      · rw [if_neg c2] at H
        have c2b0 : decide (x3_1 < (l0.length : Int)) = false := decide_eq_false c2
        clear c2
        obtain rfl := Option.some.inj H
        go_wp2
        go_ret
        exact ⟨by first | rfl | (simp; done) | (simp [*]; done), by repeat (first | exact Drawn0.refl _ | apply Drawn0.step)⟩

/-! ### laws_packagist: function 14 -/
def laws_packagist.l0 : Nat → List (List ByteArray) → Int → Int → Option (Bool)
  | 0, _, _, _ => none
  | k + 1, x5, x6, x7 => if x7 < x6 then (if 0 ≤ x7 then (if x7 < (x5.length : Int) then ((laws_short.f k (rd_L2 x5 x7)).bind fun t181 => (if t181 = true then ((spec_PackagistKnown.f k (rd_L2 x5 x7)).bind fun t182 => (if t182 = true then (laws_packagist.l0 k x5 x6 (wrap64 (x7 + 1))) else (some false))) else (some false))) else (none)) else (none)) else (some true)
def laws_packagist.f (k : Nat) (l0 : List (List ByteArray)) : Option (Bool) := laws_packagist.l0 k l0 (l0.length : Int) 0
theorem laws_packagist.mono_l : ∀ k, (∀ y0 y1 y2, LeO (laws_packagist.l0 k y0 y1 y2) (laws_packagist.l0 (k + 1) y0 y1 y2))
  | 0 => fun _ _ _ r h => by simp [laws_packagist.l0] at h
  | k + 1 => by
    have ih0 := laws_packagist.mono_l k
    · intro y0 y1 y2
      unfold laws_packagist.l0
      repeat' first
      | (with_reducible exact ih0 _ _ _)
      | (with_reducible exact laws_short.mono _ _)
      | (with_reducible exact spec_PackagistKnown.mono _ _)
      | (with_reducible exact LeO.refl _)
      | (with_reducible exact LeO.none _)
      | (with_reducible refine LeO.ite ?_ ?_)
      | (with_reducible refine LeO.bind ?_ (fun _ => ?_))
      | exact ih0 _ _ _
      | exact laws_short.mono _ _
      | exact spec_PackagistKnown.mono _ _
      | exact LeO.none _
      | refine LeO.ite ?_ ?_
      | refine LeO.bind ?_ (fun _ => ?_)
theorem laws_packagist.mono : ∀ a0 k, LeO (laws_packagist.f k a0) (laws_packagist.f (k + 1) a0) := by
  intro a0 k
  have ih0 := laws_packagist.mono_l k
  unfold laws_packagist.f
  repeat' first
      | (with_reducible exact ih0 _ _ _)
      | (with_reducible exact laws_short.mono _ _)
      | (with_reducible exact spec_PackagistKnown.mono _ _)
      | (with_reducible exact LeO.refl _)
      | (with_reducible exact LeO.none _)
      | (with_reducible refine LeO.ite ?_ ?_)
      | (with_reducible refine LeO.bind ?_ (fun _ => ?_))
      | exact ih0 _ _ _
      | exact laws_short.mono _ _
      | exact spec_PackagistKnown.mono _ _
      | exact LeO.none _
      | refine LeO.ite ?_ ?_
      | refine LeO.bind ?_ (fun _ => ?_)
set_option maxHeartbeats 8000000 in
set_option maxRecDepth 100000 in
theorem laws_packagist.calls (k : Nat) (A0 : Option Addr) (c0 : Nat) (l0 : List (List ByteArray)) (r : Bool) (w : World) (hr0 : Kd.C (Kd.slice 9 Kd.string) w A0 l0.length l0) (hc0 : l0.length ≤ c0) (h : laws_packagist.f k l0 = some r) :
    Calls Try.prog 14 #[.slice A0 l0.length c0] w fun e w' => e = .returned (.bool r) ∧ Drawn0 w w' := by
  have HR0 := Aside0.mk hr0
  have HC0 := Aside0.mk hc0
  clear hr0 hc0
  have H : (laws_packagist.l0 k l0 (l0.length : Int) 0) = some r := h
  clear h
  have H' := Aside0.mk H
  clear H
  go_enter Try.func14, Try.ntmps14
  go_wp2
  go_loopg [7] k (fun kq v7 w' => ∃ (x7_1 : Int), v7 = .int .i64 x7_1 ∧ Aside0 (laws_packagist.l0 kq l0 (l0.length : Int) x7_1 = some r) ∧ Aside0 (kq ≤ k) ∧ Drawn0 w w')
  case atStart => exact ⟨(0), (by first | rfl | (simp; done) | (simp [*]; done)), H', ⟨Nat.le_refl _⟩, by repeat (first | exact Drawn0.refl _ | apply Drawn0.step)⟩
  case round =>
    clear H'
    try clear c1
    obtain ⟨x7_1, rfl, HA, HK1, ⟨m1, rfl⟩⟩ := hrel
    cases gk with
    | zero => exact absurd HA.out (by simp [laws_packagist.l0])
    | succ k1 =>
      have H := HA.out
      clear HA
      simp only [laws_packagist.l0] at H
      by_cases c2 : x7_1 < (l0.length : Int)
      · rw [if_pos c2] at H
        have c2b0 : decide (x7_1 < (l0.length : Int)) = true := decide_eq_true c2
        clear c2
        by_cases c3 : 0 ≤ x7_1
        · rw [if_pos c3] at H
          have c3b0 : decide (0 ≤ x7_1) = true := decide_eq_true c3
          clear c3
          by_cases c4 : x7_1 < (l0.length : Int)
          · rw [if_pos c4] at H
            have c4b0 : decide (x7_1 < (l0.length : Int)) = true := decide_eq_true c4
            clear c4
            replace H := Option.bind_eq_some_iff.mp H
            obtain ⟨t181, A50, H⟩ := H
            replace H : (if t181 = true then ((spec_PackagistKnown.f k1 (rd_L2 l0 x7_1)).bind fun t182 => (if t182 = true then (laws_packagist.l0 k1 l0 (l0.length : Int) (wrap64 (x7_1 + 1))) else (some false))) else (some false)) = some r := H
            have A5 := Aside0.mk A50
            clear A50
            by_cases c6 : t181 = true
            · subst c6
              have H1 : ((spec_PackagistKnown.f k1 (rd_L2 l0 x7_1)).bind fun t182 => (if t182 = true then (laws_packagist.l0 k1 l0 (l0.length : Int) (wrap64 (x7_1 + 1))) else (some false))) = some r := by rw [if_pos rfl] at H; exact H
              clear H
              have H := H1
              clear H1
              replace H := Option.bind_eq_some_iff.mp H
              obtain ⟨t182, A70, H⟩ := H
              replace H : (if t182 = true then (laws_packagist.l0 k1 l0 (l0.length : Int) (wrap64 (x7_1 + 1))) else (some false)) = some r := H
              have A7 := Aside0.mk A70
              clear A70
              by_cases c8 : t182 = true
              · subst c8
                have H1 : (laws_packagist.l0 k1 l0 (l0.length : Int) (wrap64 (x7_1 + 1))) = some r := by rw [if_pos rfl] at H; exact H
                clear H
                have H := H1
                clear H1
                have H' := Aside0.mk H
                clear H
                have p180 : 0 ≤ (x7_1 : Int) := of_decide_eq_true (by first | (with_reducible assumption) | assumption)
                have q180 : x7_1 < (l0.length : Int) := of_decide_eq_true (by first | (with_reducible assumption) | assumption)
                obtain ⟨ad180, A180_0, c180_0, e180, hx180_0, hl180_0, hi180_0⟩ := at_L2 HR0.out x7_1 p180 q180
                cases e180
                have HR180_0 := Aside0.mk hi180_0
                have HC180_0 := Aside0.mk hl180_0
                clear hi180_0 hl180_0
                replace p180 := eq_true p180
                replace q180 := eq_true q180
                go_wp2_with (first | ((with_reducible refine gate_callee (f := 8) rfl ?_); refine goesL_ (some 12) rfl rfl Try.func8 (by kernel_rfl) rfl #[.slice A180_0 (rd_L2 l0 x7_1).length c180_0] rfl (by (try simp only [List.map_toArray, List.map_cons, List.map_nil]); first | done | rfl | (simp only [List.length_drop, List.length_take]; rfl)) ?_; (with_reducible refine (laws_short.calls k1 _ _ (rd_L2 l0 x7_1) true _ ?side1 ?side2 A5.out).mono ?_); (case side1 => repeat (first | exact HR180_0.out | (with_reducible refine Kd.C_alloc ?_ _) | (with_reducible refine Kd.C_drewN ?_ _) | (with_reducible refine Kd.C_drew ?_))); (case side2 => exact HC180_0.out); rintro e w' ⟨rfl, ⟨nd, rfl⟩⟩; refine ⟨_, rfl, ?_⟩) | (go_at_call 23; (with_reducible refine (spec_PackagistKnown.calls k1 _ _ (rd_L2 l0 x7_1) true _ ?side1 ?side2 A7.out).mono ?_); (case side1 => repeat (first | exact HR180_0.out | (with_reducible refine Kd.C_alloc ?_ _) | (with_reducible refine Kd.C_drewN ?_ _) | (with_reducible refine Kd.C_drew ?_))); (case side2 => exact HC180_0.out); rintro e w' ⟨rfl, ⟨nd, rfl⟩⟩))
                go_roundg k1
                case measure => have := HK1.out; omega
                case rel => exact ⟨(wrap64 (x7_1 + 1)), (by first | rfl | (simp; done) | (simp [*]; done)), H', ⟨by have := HK1.out; omega⟩, by repeat (first | exact Drawn0.refl _ | apply Drawn0.step)⟩
              · replace c8 := Bool.eq_false_iff.mpr c8
                subst c8
                have H1 : (some false) = some r := by rw [if_neg (show ¬ (false = true) by decide)] at H; exact H
                clear H
                have H := H1
                clear H1
                obtain rfl := Option.some.inj H
                have p180 : 0 ≤ (x7_1 : Int) := of_decide_eq_true (by first | (with_reducible assumption) | assumption)
                have q180 : x7_1 < (l0.length : Int) := of_decide_eq_true (by first | (with_reducible assumption) | assumption)
                obtain ⟨ad180, A180_0, c180_0, e180, hx180_0, hl180_0, hi180_0⟩ := at_L2 HR0.out x7_1 p180 q180
                cases e180
                have HR180_0 := Aside0.mk hi180_0
                have HC180_0 := Aside0.mk hl180_0
                clear hi180_0 hl180_0
                replace p180 := eq_true p180
                replace q180 := eq_true q180
                go_wp2_with (first | ((with_reducible refine gate_callee (f := 8) rfl ?_); refine goesL_ (some 12) rfl rfl Try.func8 (by kernel_rfl) rfl #[.slice A180_0 (rd_L2 l0 x7_1).length c180_0] rfl (by (try simp only [List.map_toArray, List.map_cons, List.map_nil]); first | done | rfl | (simp only [List.length_drop, List.length_take]; rfl)) ?_; (with_reducible refine (laws_short.calls k1 _ _ (rd_L2 l0 x7_1) true _ ?side1 ?side2 A5.out).mono ?_); (case side1 => repeat (first | exact HR180_0.out | (with_reducible refine Kd.C_alloc ?_ _) | (with_reducible refine Kd.C_drewN ?_ _) | (with_reducible refine Kd.C_drew ?_))); (case side2 => exact HC180_0.out); rintro e w' ⟨rfl, ⟨nd, rfl⟩⟩; refine ⟨_, rfl, ?_⟩) | (go_at_call 23; (with_reducible refine (spec_PackagistKnown.calls k1 _ _ (rd_L2 l0 x7_1) false _ ?side1 ?side2 A7.out).mono ?_); (case side1 => repeat (first | exact HR180_0.out | (with_reducible refine Kd.C_alloc ?_ _) | (with_reducible refine Kd.C_drewN ?_ _) | (with_reducible refine Kd.C_drew ?_))); (case side2 => exact HC180_0.out); rintro e w' ⟨rfl, ⟨nd, rfl⟩⟩))
                go_ret
                exact ⟨by first | rfl | (simp; done) | (simp [*]; done), by repeat (first | exact Drawn0.refl _ | apply Drawn0.step)⟩
            · replace c6 := Bool.eq_false_iff.mpr c6
              subst c6
              have H1 : (some false) = some r := by rw [if_neg (show ¬ (false = true) by decide)] at H; exact H
              clear H
              have H := H1
              clear H1
              obtain rfl := Option.some.inj H
              have p180 : 0 ≤ (x7_1 : Int) := of_decide_eq_true (by first | (with_reducible assumption) | assumption)
              have q180 : x7_1 < (l0.length : Int) := of_decide_eq_true (by first | (with_reducible assumption) | assumption)
              obtain ⟨ad180, A180_0, c180_0, e180, hx180_0, hl180_0, hi180_0⟩ := at_L2 HR0.out x7_1 p180 q180
              cases e180
              have HR180_0 := Aside0.mk hi180_0
              have HC180_0 := Aside0.mk hl180_0
              clear hi180_0 hl180_0
              replace p180 := eq_true p180
              replace q180 := eq_true q180
              go_wp2_with (first | ((with_reducible refine gate_callee (f := 8) rfl ?_); refine goesL_ (some 12) rfl rfl Try.func8 (by kernel_rfl) rfl #[.slice A180_0 (rd_L2 l0 x7_1).length c180_0] rfl (by (try simp only [List.map_toArray, List.map_cons, List.map_nil]); first | done | rfl | (simp only [List.length_drop, List.length_take]; rfl)) ?_; (with_reducible refine (laws_short.calls k1 _ _ (rd_L2 l0 x7_1) false _ ?side1 ?side2 A5.out).mono ?_); (case side1 => repeat (first | exact HR180_0.out | (with_reducible refine Kd.C_alloc ?_ _) | (with_reducible refine Kd.C_drewN ?_ _) | (with_reducible refine Kd.C_drew ?_))); (case side2 => exact HC180_0.out); rintro e w' ⟨rfl, ⟨nd, rfl⟩⟩; refine ⟨_, rfl, ?_⟩))
              go_ret
              exact ⟨by first | rfl | (simp; done) | (simp [*]; done), by repeat (first | exact Drawn0.refl _ | apply Drawn0.step)⟩
          · rw [if_neg c4] at H
            exact absurd H (by simp)
        · rw [if_neg c3] at H
          exact absurd H (by simp)
      · rw [if_neg c2] at H
        have c2b0 : decide (x7_1 < (l0.length : Int)) = false := decide_eq_false c2
        clear c2
        obtain rfl := Option.some.inj H
        go_wp2
        go_ret
        exact ⟨by first | rfl | (simp; done) | (simp [*]; done), by repeat (first | exact Drawn0.refl _ | apply Drawn0.step)⟩

/-! ### stringslite_HasPrefix: function 47 -/
def stringslite_HasPrefix.f (a0 : ByteArray) (a1 : ByteArray) : Option (Bool) := if (a0.size : Int) ≥ (a1.size : Int) then (if 0 ≤ (a1.size : Int) then (if (a1.size : Int) ≤ (a0.size : Int) then (some ((a0.extract 0 a1.size).toList == a1.toList)) else (none)) else (none)) else (some false)
set_option maxHeartbeats 8000000 in
set_option maxRecDepth 100000 in
theorem stringslite_HasPrefix.calls (a0 : ByteArray) (a1 : ByteArray) (r : Bool) (w : World) (h : stringslite_HasPrefix.f a0 a1 = some r) :
    Calls Try.prog 47 #[.string a0, .string a1] w fun e w' => e = .returned (.bool r) ∧ Drawn0 w w' := by
  have H : (if (a0.size : Int) ≥ (a1.size : Int) then (if 0 ≤ (a1.size : Int) then (if (a1.size : Int) ≤ (a0.size : Int) then (some ((a0.extract 0 a1.size).toList == a1.toList)) else (none)) else (none)) else (some false)) = some r := h
  clear h
  by_cases c3 : (a0.size : Int) ≥ (a1.size : Int)
  · rw [if_pos c3] at H
    have c3b0 : decide ((a1.size : Int) ≤ (a0.size : Int)) = true := decide_eq_true c3
    have c3b1 : decide (a1.size ≤ a0.size) = true := decide_eq_true (Int.ofNat_le.mp c3)
    clear c3
    by_cases c4 : 0 ≤ (a1.size : Int)
    · rw [if_pos c4] at H
      have c4b0 := eq_true c4
      have c4b1 : decide (0 ≤ (a1.size : Int)) = true := decide_eq_true c4
      clear c4
      by_cases c5 : (a1.size : Int) ≤ (a0.size : Int)
      · rw [if_pos c5] at H
        have c5b0 := eq_true c5
        have c5b1 : decide ((a1.size : Int) ≤ (a0.size : Int)) = true := decide_eq_true c5
        clear c5
        obtain rfl := Option.some.inj H
        go_enter Try.func47, Try.ntmps47
        go_wp2
        go_ret
        exact ⟨by first | rfl | (simp; done) | (simp [*]; done), by repeat (first | exact Drawn0.refl _ | apply Drawn0.step)⟩
      · rw [if_neg c5] at H
        exact absurd H (by simp)
    · rw [if_neg c4] at H
      exact absurd H (by simp)
  · rw [if_neg c3] at H
    have c3b0 : decide ((a1.size : Int) ≤ (a0.size : Int)) = false := decide_eq_false c3
    have c3b1 : decide (a1.size ≤ a0.size) = false := decide_eq_false (fun h => c3 (Int.ofNat_le.mpr h))
    clear c3
    obtain rfl := Option.some.inj H
    go_enter Try.func47, Try.ntmps47
    go_wp2
    go_ret
    exact ⟨by first | rfl | (simp; done) | (simp [*]; done), by repeat (first | exact Drawn0.refl _ | apply Drawn0.step)⟩

/-! ### strings_HasPrefix: function 44 -/
def strings_HasPrefix.f (a0 : ByteArray) (a1 : ByteArray) : Option (Bool) := (stringslite_HasPrefix.f a0 a1).bind fun t183 => (some t183)
set_option maxHeartbeats 8000000 in
set_option maxRecDepth 100000 in
theorem strings_HasPrefix.calls (a0 : ByteArray) (a1 : ByteArray) (r : Bool) (w : World) (h : strings_HasPrefix.f a0 a1 = some r) :
    Calls Try.prog 44 #[.string a0, .string a1] w fun e w' => e = .returned (.bool r) ∧ Drawn0 w w' := by
  have H : ((stringslite_HasPrefix.f a0 a1).bind fun t183 => (some t183)) = some r := h
  clear h
  replace H := Option.bind_eq_some_iff.mp H
  obtain ⟨t183, A30, H⟩ := H
  replace H : (some t183) = some r := H
  have A3 := Aside0.mk A30
  clear A30
  obtain rfl := Option.some.inj H
  go_enter Try.func44, Try.ntmps44
  go_wp2_with (first | ((with_reducible refine gate_callee (f := 47) rfl ?_); refine goesL_ (some 7) rfl rfl Try.func47 (by kernel_rfl) rfl #[.string a0, .string a1] rfl (by (try simp only [List.map_toArray, List.map_cons, List.map_nil]); first | done | rfl | (simp only [List.length_drop, List.length_take]; rfl)) ?_; (with_reducible refine (stringslite_HasPrefix.calls a0 a1 t183 _ A3.out).mono ?_); rintro e w' ⟨rfl, ⟨nd, rfl⟩⟩; refine ⟨_, rfl, ?_⟩))
  go_ret
  exact ⟨by first | rfl | (simp; done) | (simp [*]; done), by repeat (first | exact Drawn0.refl _ | apply Drawn0.step)⟩

/-! ### semantic_weighPackagistBuildCharacter: function 39 -/
def semantic_weighPackagistBuildCharacter.l0 : Nat → ByteArray → List ByteArray → Int → Int → Option (Int)
  | 0, _, _, _, _ => none
  | k + 1, x0, x9, x10, x11 => if x11 < x10 then (if 0 ≤ x11 then (if x11 < (x9.length : Int) then ((strings_HasPrefix.f x0 (rdOf ByteArray.empty x9 x11)).bind fun t189 => (if t189 = true then (some x11) else (semantic_weighPackagistBuildCharacter.l0 k x0 x9 x10 (wrap64 (x11 + 1))))) else (none)) else (none)) else (some 0)
def semantic_weighPackagistBuildCharacter.f (k : Nat) (a0 : ByteArray) : Option (Int) := (strings_HasPrefix.f a0 (⟨#[82, 67]⟩ : ByteArray)).bind fun t184 => (if t184 = true then (some 3) else ((some (([(⟨#[100, 101, 118]⟩ : ByteArray), (⟨#[97]⟩ : ByteArray), (⟨#[98]⟩ : ByteArray), (⟨#[114, 99]⟩ : ByteArray), (⟨#[35]⟩ : ByteArray), (⟨#[112]⟩ : ByteArray)] : List ByteArray) : List ByteArray)).bind fun y185 => (semantic_weighPackagistBuildCharacter.l0 k a0 y185 (y185.length : Int) 0)))
theorem semantic_weighPackagistBuildCharacter.mono_l : ∀ k, (∀ y0 y1 y2 y3, LeO (semantic_weighPackagistBuildCharacter.l0 k y0 y1 y2 y3) (semantic_weighPackagistBuildCharacter.l0 (k + 1) y0 y1 y2 y3))
  | 0 => fun _ _ _ _ r h => by simp [semantic_weighPackagistBuildCharacter.l0] at h
  | k + 1 => by
    have ih0 := semantic_weighPackagistBuildCharacter.mono_l k
    · intro y0 y1 y2 y3
      unfold semantic_weighPackagistBuildCharacter.l0
      repeat' first
      | (with_reducible exact ih0 _ _ _ _)
      | (with_reducible exact LeO.refl _)
      | (with_reducible exact LeO.none _)
      | (with_reducible refine LeO.ite ?_ ?_)
      | (with_reducible refine LeO.bind ?_ (fun _ => ?_))
      | exact ih0 _ _ _ _
      | exact LeO.none _
      | refine LeO.ite ?_ ?_
      | refine LeO.bind ?_ (fun _ => ?_)
theorem semantic_weighPackagistBuildCharacter.mono : ∀ a0 k, LeO (semantic_weighPackagistBuildCharacter.f k a0) (semantic_weighPackagistBuildCharacter.f (k + 1) a0) := by
  intro a0 k
  have ih0 := semantic_weighPackagistBuildCharacter.mono_l k
  unfold semantic_weighPackagistBuildCharacter.f
  repeat' first
      | (with_reducible exact ih0 _ _ _ _)
      | (with_reducible exact LeO.refl _)
      | (with_reducible exact LeO.none _)
      | (with_reducible refine LeO.ite ?_ ?_)
      | (with_reducible refine LeO.bind ?_ (fun _ => ?_))
      | exact ih0 _ _ _ _
      | exact LeO.none _
      | refine LeO.ite ?_ ?_
      | refine LeO.bind ?_ (fun _ => ?_)
set_option maxHeartbeats 8000000 in
set_option maxRecDepth 100000 in
theorem semantic_weighPackagistBuildCharacter.calls (k : Nat) (a0 : ByteArray) (r : Int) (w : World) (h : semantic_weighPackagistBuildCharacter.f k a0 = some r) :
    Calls Try.prog 39 #[.string a0] w fun e w' => e = .returned (.int .i64 r) ∧ Below w.heap.size w w' := by
  have HB := Aside0.mk (Below.refl w.heap.size w)
  have H : ((strings_HasPrefix.f a0 (⟨#[82, 67]⟩ : ByteArray)).bind fun t184 => (if t184 = true then (some 3) else ((some (([(⟨#[100, 101, 118]⟩ : ByteArray), (⟨#[97]⟩ : ByteArray), (⟨#[98]⟩ : ByteArray), (⟨#[114, 99]⟩ : ByteArray), (⟨#[35]⟩ : ByteArray), (⟨#[112]⟩ : ByteArray)] : List ByteArray) : List ByteArray)).bind fun y185 => (semantic_weighPackagistBuildCharacter.l0 k a0 y185 (y185.length : Int) 0)))) = some r := h
  clear h
  replace H := Option.bind_eq_some_iff.mp H
  obtain ⟨t184, A20, H⟩ := H
  replace H : (if t184 = true then (some 3) else ((some (([(⟨#[100, 101, 118]⟩ : ByteArray), (⟨#[97]⟩ : ByteArray), (⟨#[98]⟩ : ByteArray), (⟨#[114, 99]⟩ : ByteArray), (⟨#[35]⟩ : ByteArray), (⟨#[112]⟩ : ByteArray)] : List ByteArray) : List ByteArray)).bind fun y185 => (semantic_weighPackagistBuildCharacter.l0 k a0 y185 (y185.length : Int) 0))) = some r := H
  have A2 := Aside0.mk A20
  clear A20
  by_cases c3 : t184 = true
  · subst c3
    have H1 : (some 3) = some r := by rw [if_pos rfl] at H; exact H
    clear H
    have H := H1
    clear H1
    obtain rfl := Option.some.inj H
    go_enter Try.func39, Try.ntmps39
    go_wp2_with (first | ((with_reducible refine gate_callee (f := 44) rfl ?_); refine goesL_ (some 7) rfl rfl Try.func44 (by kernel_rfl) rfl #[.string a0, .string (⟨#[82, 67]⟩ : ByteArray)] rfl (by (try simp only [List.map_toArray, List.map_cons, List.map_nil]); first | done | rfl | (simp only [List.length_drop, List.length_take]; rfl)) ?_; (with_reducible refine (strings_HasPrefix.calls a0 (⟨#[82, 67]⟩ : ByteArray) true _ A2.out).mono ?_); rintro e w' ⟨rfl, ⟨nd, rfl⟩⟩; refine ⟨_, rfl, ?_⟩))
    go_ret
    exact ⟨by first | rfl | (simp [errW_none, errW_some] <;> rfl) | (simp [*, errW_none, errW_some] <;> rfl), by repeat (first | (with_reducible first | exact HB.out | apply below_alloc | apply pw_below_drewN | apply below_drew1) | exact HB.out)⟩
  · replace c3 := Bool.eq_false_iff.mpr c3
    subst c3
    have H1 : ((some (([(⟨#[100, 101, 118]⟩ : ByteArray), (⟨#[97]⟩ : ByteArray), (⟨#[98]⟩ : ByteArray), (⟨#[114, 99]⟩ : ByteArray), (⟨#[35]⟩ : ByteArray), (⟨#[112]⟩ : ByteArray)] : List ByteArray) : List ByteArray)).bind fun y185 => (semantic_weighPackagistBuildCharacter.l0 k a0 y185 (y185.length : Int) 0)) = some r := by rw [if_neg (show ¬ (false = true) by decide)] at H; exact H
    clear H
    have H := H1
    clear H1
    obtain ⟨y185, hy185⟩ : ∃ y_ : List ByteArray, y_ = (([(⟨#[100, 101, 118]⟩ : ByteArray), (⟨#[97]⟩ : ByteArray), (⟨#[98]⟩ : ByteArray), (⟨#[114, 99]⟩ : ByteArray), (⟨#[35]⟩ : ByteArray), (⟨#[112]⟩ : ByteArray)] : List ByteArray)) := ⟨_, rfl⟩
    replace H : (semantic_weighPackagistBuildCharacter.l0 k a0 y185 (y185.length : Int) 0) = some r := by first | (rw [hy185]; with_reducible exact H) | (have H2_ := (Option.bind_some _ _).symm.trans H; rw [hy185]; with_reducible exact H2_) | (have H2_ := (Option.bind_some _ _).symm.trans H; with_reducible exact H2_) | with_reducible exact H | (rw [hy185]; exact H) | exact H
    have Ny185 := Aside0.mk hy185
    clear hy185
    have H' := Aside0.mk H
    clear H
    go_enter Try.func39, Try.ntmps39
    go_wp2_with (first | ((with_reducible refine gate_callee (f := 44) rfl ?_); refine goesL_ (some 7) rfl rfl Try.func44 (by kernel_rfl) rfl #[.string a0, .string (⟨#[82, 67]⟩ : ByteArray)] rfl (by (try simp only [List.map_toArray, List.map_cons, List.map_nil]); first | done | rfl | (simp only [List.length_drop, List.length_take]; rfl)) ?_; (with_reducible refine (strings_HasPrefix.calls a0 (⟨#[82, 67]⟩ : ByteArray) false _ A2.out).mono ?_); rintro e w' ⟨rfl, ⟨nd, rfl⟩⟩; refine ⟨_, rfl, ?_⟩) | ((with_reducible refine gate_dst (N := 8) rfl ?_); refine Kd.R_lit Kd.string _ 9 ?hg (N := 8) ?hd (xs := ([(⟨#[100, 101, 118]⟩ : ByteArray), (⟨#[97]⟩ : ByteArray), (⟨#[98]⟩ : ByteArray), (⟨#[114, 99]⟩ : ByteArray), (⟨#[35]⟩ : ByteArray), (⟨#[112]⟩ : ByteArray)] : List ByteArray)) (inner := [.string (⟨#[100, 101, 118]⟩ : ByteArray), .string (⟨#[97]⟩ : ByteArray), .string (⟨#[98]⟩ : ByteArray), .string (⟨#[114, 99]⟩ : ByteArray), .string (⟨#[35]⟩ : ByteArray), .string (⟨#[112]⟩ : ByteArray)]) (ok := fun _ => True) (okp := fun _ => True) ?hr ?hp (fun _ hk => hk) trivial (Below.refl _ _) (Nat.le_refl _) (by simp) ?_; (case hd => rfl); (case hg => rfl); (case hr => first | (go_simp; done) | (go_simp; rfl)); (case hp => exact (Reps.one (show Kd.M Kd.string _ _ _ (⟨#[100, 101, 118]⟩ : ByteArray) [.string (⟨#[100, 101, 118]⟩ : ByteArray)] from rfl) (Reps.one (show Kd.M Kd.string _ _ _ (⟨#[97]⟩ : ByteArray) [.string (⟨#[97]⟩ : ByteArray)] from rfl) (Reps.one (show Kd.M Kd.string _ _ _ (⟨#[98]⟩ : ByteArray) [.string (⟨#[98]⟩ : ByteArray)] from rfl) (Reps.one (show Kd.M Kd.string _ _ _ (⟨#[114, 99]⟩ : ByteArray) [.string (⟨#[114, 99]⟩ : ByteArray)] from rfl) (Reps.one (show Kd.M Kd.string _ _ _ (⟨#[35]⟩ : ByteArray) [.string (⟨#[35]⟩ : ByteArray)] from rfl) (Reps.one (show Kd.M Kd.string _ _ _ (⟨#[112]⟩ : ByteArray) [.string (⟨#[112]⟩ : ByteArray)] from rfl) (Reps.none _ _)))))))); intro v186 w4 ho5 hb hg_ hnew_; clear hg_ hnew_; (first | rw [← Ny185.out] at ho5 | (simp only [Int.reduceToNat] at ho5; rw [← Ny185.out] at ho5)); have n0_ := Aside0.mk (Kd.R_lower ho5 (below_size (by repeat (first | (with_reducible first | exact HB.out | apply below_alloc | apply pw_below_drewN | apply below_drew1) | exact HB.out)))); have n1_ := Aside0.mk (below_step (by repeat (first | (with_reducible first | exact HB.out | apply below_alloc | apply pw_below_drewN | apply below_drew1) | exact HB.out)) hb); clear HB; have HO187 := n0_; have HB := n1_; clear n0_ n1_; clear hb ho5; obtain ⟨Ao6, co6, eo6⟩ := Kd.R_slice HO187.out; subst eo6))
    go_loopg [11] k (fun kq v11 w' => ∃ (x11_1 : Int), v11 = .int .i64 x11_1 ∧ Aside0 (semantic_weighPackagistBuildCharacter.l0 kq a0 y185 (y185.length : Int) x11_1 = some r) ∧ Aside0 (kq ≤ k) ∧ Aside0 (Kd.R Kd.string 9 w' w.heap.size (fun _ => True) (.slice Ao6 y185.length co6) y185) ∧ Aside0 (Below w.heap.size w w'))
    case atStart => exact ⟨(0), (by first | rfl | (simp; done) | (simp [*]; done)), H', ⟨Nat.le_refl _⟩, ⟨by (with_reducible repeat (first | apply Kd.R_alloc | apply Kd.R_drewN | apply Kd.R_drew)); exact HO187.out⟩, ⟨by repeat (first | (with_reducible first | exact HB.out | apply below_alloc | apply pw_below_drewN | apply below_drew1) | exact HB.out)⟩⟩
    case round =>
      clear H'
      try clear p2
      try clear c3
      try clear c4
      obtain ⟨x11_1, rfl, HA, HK1, HO_9, HB⟩ := hrel
      cases gk with
      | zero => exact absurd HA.out (by simp [semantic_weighPackagistBuildCharacter.l0])
      | succ k1 =>
        have H := HA.out
        clear HA
        simp only [semantic_weighPackagistBuildCharacter.l0] at H
        by_cases c7 : x11_1 < (y185.length : Int)
        · rw [if_pos c7] at H
          have c7b0 : decide (x11_1 < (y185.length : Int)) = true := decide_eq_true c7
          clear c7
          by_cases c8 : 0 ≤ x11_1
          · rw [if_pos c8] at H
            have c8b0 : decide (0 ≤ x11_1) = true := decide_eq_true c8
            clear c8
            by_cases c9 : x11_1 < (y185.length : Int)
            · rw [if_pos c9] at H
              have c9b0 : decide (x11_1 < (y185.length : Int)) = true := decide_eq_true c9
              clear c9
              replace H := Option.bind_eq_some_iff.mp H
              obtain ⟨t189, A100, H⟩ := H
              replace H : (if t189 = true then (some x11_1) else (semantic_weighPackagistBuildCharacter.l0 k1 a0 y185 (y185.length : Int) (wrap64 (x11_1 + 1)))) = some r := H
              have A10 := Aside0.mk A100
              clear A100
              by_cases c11 : t189 = true
              · subst c11
                have H1 : (some x11_1) = some r := by rw [if_pos rfl] at H; exact H
                clear H
                have H := H1
                clear H1
                obtain rfl := Option.some.inj H
                have p188 : 0 ≤ (x11_1 : Int) := of_decide_eq_true (by first | (with_reducible assumption) | assumption)
                have q188 : x11_1 < (y185.length : Int) := of_decide_eq_true (by first | (with_reducible assumption) | assumption)
                obtain ⟨ad188, e188, hx188_0⟩ := Kd.at_string (Kd.R_reads' HO_9.out).2.2 x11_1 p188 q188
                cases e188
                replace p188 := eq_true p188
                replace q188 := eq_true q188
                go_wp2_with (first | ((with_reducible refine gate_callee (f := 44) rfl ?_); refine goesL_ (some 18) rfl rfl Try.func44 (by kernel_rfl) rfl #[.string a0, .string (rdOf ByteArray.empty y185 x11_1)] rfl (by (try simp only [List.map_toArray, List.map_cons, List.map_nil]); first | done | rfl | (simp only [List.length_drop, List.length_take]; rfl)) ?_; (with_reducible refine (strings_HasPrefix.calls a0 (rdOf ByteArray.empty y185 x11_1) true _ A10.out).mono ?_); rintro e w' ⟨rfl, ⟨nd, rfl⟩⟩; refine ⟨_, rfl, ?_⟩))
                go_ret
                exact ⟨by first | rfl | (simp [errW_none, errW_some] <;> rfl) | (simp [*, errW_none, errW_some] <;> rfl), by repeat (first | (with_reducible first | exact HB.out | apply below_alloc | apply pw_below_drewN | apply below_drew1) | exact HB.out)⟩
              · replace c11 := Bool.eq_false_iff.mpr c11
                subst c11
                have H1 : (semantic_weighPackagistBuildCharacter.l0 k1 a0 y185 (y185.length : Int) (wrap64 (x11_1 + 1))) = some r := by rw [if_neg (show ¬ (false = true) by decide)] at H; exact H
                clear H
                have H := H1
                clear H1
                have H' := Aside0.mk H
                clear H
                have p188 : 0 ≤ (x11_1 : Int) := of_decide_eq_true (by first | (with_reducible assumption) | assumption)
                have q188 : x11_1 < (y185.length : Int) := of_decide_eq_true (by first | (with_reducible assumption) | assumption)
                obtain ⟨ad188, e188, hx188_0⟩ := Kd.at_string (Kd.R_reads' HO_9.out).2.2 x11_1 p188 q188
                cases e188
                replace p188 := eq_true p188
                replace q188 := eq_true q188
                go_wp2_with (first | ((with_reducible refine gate_callee (f := 44) rfl ?_); refine goesL_ (some 18) rfl rfl Try.func44 (by kernel_rfl) rfl #[.string a0, .string (rdOf ByteArray.empty y185 x11_1)] rfl (by (try simp only [List.map_toArray, List.map_cons, List.map_nil]); first | done | rfl | (simp only [List.length_drop, List.length_take]; rfl)) ?_; (with_reducible refine (strings_HasPrefix.calls a0 (rdOf ByteArray.empty y185 x11_1) false _ A10.out).mono ?_); rintro e w' ⟨rfl, ⟨nd, rfl⟩⟩; refine ⟨_, rfl, ?_⟩))
                go_roundg k1
                case measure => have := HK1.out; omega
                case rel => exact ⟨(wrap64 (x11_1 + 1)), (by first | rfl | (simp; done) | (simp [*]; done)), H', ⟨by have := HK1.out; omega⟩, ⟨by (with_reducible repeat (first | apply Kd.R_alloc | apply Kd.R_drewN | apply Kd.R_drew)); exact HO_9.out⟩, ⟨by repeat (first | (with_reducible first | exact HB.out | apply below_alloc | apply pw_below_drewN | apply below_drew1) | exact HB.out)⟩⟩
            · rw [if_neg c9] at H
              exact absurd H (by simp)
          · rw [if_neg c8] at H
            exact absurd H (by simp)
        · rw [if_neg c7] at H
          have c7b0 : decide (x11_1 < (y185.length : Int)) = false := decide_eq_false c7
          clear c7
          obtain rfl := Option.some.inj H
          go_wp2
          go_ret
          exact ⟨by first | rfl | (simp [errW_none, errW_some] <;> rfl) | (simp [*, errW_none, errW_some] <;> rfl), by repeat (first | (with_reducible first | exact HB.out | apply below_alloc | apply pw_below_drewN | apply below_drew1) | exact HB.out)⟩

/-! ### semantic_comparePackagistSpecialVersions: function 35 -/
def semantic_comparePackagistSpecialVersions.f (k : Nat) (a0 : ByteArray) (a1 : ByteArray) : Option (Int) := (semantic_weighPackagistBuildCharacter.f k a0).bind fun t190 => ((semantic_weighPackagistBuildCharacter.f k a1).bind fun t191 => (if t190 > t191 then (some 1) else (if t190 < t191 then (some (-1)) else (some 0))))
theorem semantic_comparePackagistSpecialVersions.mono : ∀ a0 a1 k, LeO (semantic_comparePackagistSpecialVersions.f k a0 a1) (semantic_comparePackagistSpecialVersions.f (k + 1) a0 a1) := by
  intro a0 a1 k
  unfold semantic_comparePackagistSpecialVersions.f
  repeat' first
      | (with_reducible exact semantic_weighPackagistBuildCharacter.mono _ _)
      | (with_reducible exact LeO.refl _)
      | (with_reducible exact LeO.none _)
      | (with_reducible refine LeO.ite ?_ ?_)
      | (with_reducible refine LeO.bind ?_ (fun _ => ?_))
      | exact semantic_weighPackagistBuildCharacter.mono _ _
      | exact LeO.none _
      | refine LeO.ite ?_ ?_
      | refine LeO.bind ?_ (fun _ => ?_)
set_option maxHeartbeats 8000000 in
set_option maxRecDepth 100000 in
theorem semantic_comparePackagistSpecialVersions.calls (k : Nat) (a0 : ByteArray) (a1 : ByteArray) (r : Int) (w : World) (h : semantic_comparePackagistSpecialVersions.f k a0 a1 = some r) :
    Calls Try.prog 35 #[.string a0, .string a1] w fun e w' => e = .returned (.int .i64 r) ∧ Below w.heap.size w w' := by
  have HB := Aside0.mk (Below.refl w.heap.size w)
  have H : ((semantic_weighPackagistBuildCharacter.f k a0).bind fun t190 => ((semantic_weighPackagistBuildCharacter.f k a1).bind fun t191 => (if t190 > t191 then (some 1) else (if t190 < t191 then (some (-1)) else (some 0))))) = some r := h
  clear h
  replace H := Option.bind_eq_some_iff.mp H
  obtain ⟨t190, A30, H⟩ := H
  replace H : ((semantic_weighPackagistBuildCharacter.f k a1).bind fun t191 => (if t190 > t191 then (some 1) else (if t190 < t191 then (some (-1)) else (some 0)))) = some r := H
  have A3 := Aside0.mk A30
  clear A30
  replace H := Option.bind_eq_some_iff.mp H
  obtain ⟨t191, A40, H⟩ := H
  replace H : (if t190 > t191 then (some 1) else (if t190 < t191 then (some (-1)) else (some 0))) = some r := H
  have A4 := Aside0.mk A40
  clear A40
  by_cases c5 : t190 > t191
  · rw [if_pos c5] at H
    have c5b0 : decide (t191 < t190) = true := decide_eq_true c5
    clear c5
    obtain rfl := Option.some.inj H
    go_enter Try.func35, Try.ntmps35
    go_wp2_with (first | ((with_reducible refine gate_callee (f := 39) rfl ?_); refine goesL_ (some 8) rfl rfl Try.func39 (by kernel_rfl) rfl #[.string a0] rfl (by (try simp only [List.map_toArray, List.map_cons, List.map_nil]); first | done | rfl | (simp only [List.length_drop, List.length_take]; rfl)) ?_; (with_reducible refine (semantic_weighPackagistBuildCharacter.calls k a0 t190 _ A3.out).mono ?_); rintro e w6 ⟨rfl, hb⟩; refine ⟨_, rfl, ?_⟩; have n0_ := Aside0.mk (below_step (by repeat (first | (with_reducible first | exact HB.out | apply below_alloc | apply pw_below_drewN | apply below_drew1) | exact HB.out)) hb); clear HB; have HB := n0_; clear n0_; (try clear hb); (try clear hb2); (try clear hk); (try clear hi)) | ((with_reducible refine gate_callee (f := 39) rfl ?_); refine goesL_ (some 10) rfl rfl Try.func39 (by kernel_rfl) rfl #[.string a1] rfl (by (try simp only [List.map_toArray, List.map_cons, List.map_nil]); first | done | rfl | (simp only [List.length_drop, List.length_take]; rfl)) ?_; (with_reducible refine (semantic_weighPackagistBuildCharacter.calls k a1 t191 _ A4.out).mono ?_); rintro e w7 ⟨rfl, hb⟩; refine ⟨_, rfl, ?_⟩; have n0_ := Aside0.mk (below_step (by repeat (first | (with_reducible first | exact HB.out | apply below_alloc | apply pw_below_drewN | apply below_drew1) | exact HB.out)) hb); clear HB; have HB := n0_; clear n0_; (try clear hb); (try clear hb2); (try clear hk); (try clear hi)))
    go_ret
    exact ⟨by first | rfl | (simp [errW_none, errW_some] <;> rfl) | (simp [*, errW_none, errW_some] <;> rfl), by repeat (first | (with_reducible first | exact HB.out | apply below_alloc | apply pw_below_drewN | apply below_drew1) | exact HB.out)⟩
  · rw [if_neg c5] at H
    have c5b0 : decide (t191 < t190) = false := decide_eq_false c5
    clear c5
    by_cases c8 : t190 < t191
    · rw [if_pos c8] at H
      have c8b0 : decide (t190 < t191) = true := decide_eq_true c8
      clear c8
      obtain rfl := Option.some.inj H
      go_enter Try.func35, Try.ntmps35
      go_wp2_with (first | ((with_reducible refine gate_callee (f := 39) rfl ?_); refine goesL_ (some 8) rfl rfl Try.func39 (by kernel_rfl) rfl #[.string a0] rfl (by (try simp only [List.map_toArray, List.map_cons, List.map_nil]); first | done | rfl | (simp only [List.length_drop, List.length_take]; rfl)) ?_; (with_reducible refine (semantic_weighPackagistBuildCharacter.calls k a0 t190 _ A3.out).mono ?_); rintro e w9 ⟨rfl, hb⟩; refine ⟨_, rfl, ?_⟩; have n0_ := Aside0.mk (below_step (by repeat (first | (with_reducible first | exact HB.out | apply below_alloc | apply pw_below_drewN | apply below_drew1) | exact HB.out)) hb); clear HB; have HB := n0_; clear n0_; (try clear hb); (try clear hb2); (try clear hk); (try clear hi)) | ((with_reducible refine gate_callee (f := 39) rfl ?_); refine goesL_ (some 10) rfl rfl Try.func39 (by kernel_rfl) rfl #[.string a1] rfl (by (try simp only [List.map_toArray, List.map_cons, List.map_nil]); first | done | rfl | (simp only [List.length_drop, List.length_take]; rfl)) ?_; (with_reducible refine (semantic_weighPackagistBuildCharacter.calls k a1 t191 _ A4.out).mono ?_); rintro e w10 ⟨rfl, hb⟩; refine ⟨_, rfl, ?_⟩; have n0_ := Aside0.mk (below_step (by repeat (first | (with_reducible first | exact HB.out | apply below_alloc | apply pw_below_drewN | apply below_drew1) | exact HB.out)) hb); clear HB; have HB := n0_; clear n0_; (try clear hb); (try clear hb2); (try clear hk); (try clear hi)))
      go_ret
      exact ⟨by first | rfl | (simp [errW_none, errW_some] <;> rfl) | (simp [*, errW_none, errW_some] <;> rfl), by repeat (first | (with_reducible first | exact HB.out | apply below_alloc | apply pw_below_drewN | apply below_drew1) | exact HB.out)⟩
    · rw [if_neg c8] at H
      have c8b0 : decide (t190 < t191) = false := decide_eq_false c8
      clear c8
      obtain rfl := Option.some.inj H
      go_enter Try.func35, Try.ntmps35
      go_wp2_with (first | ((with_reducible refine gate_callee (f := 39) rfl ?_); refine goesL_ (some 8) rfl rfl Try.func39 (by kernel_rfl) rfl #[.string a0] rfl (by (try simp only [List.map_toArray, List.map_cons, List.map_nil]); first | done | rfl | (simp only [List.length_drop, List.length_take]; rfl)) ?_; (with_reducible refine (semantic_weighPackagistBuildCharacter.calls k a0 t190 _ A3.out).mono ?_); rintro e w11 ⟨rfl, hb⟩; refine ⟨_, rfl, ?_⟩; have n0_ := Aside0.mk (below_step (by repeat (first | (with_reducible first | exact HB.out | apply below_alloc | apply pw_below_drewN | apply below_drew1) | exact HB.out)) hb); clear HB; have HB := n0_; clear n0_; (try clear hb); (try clear hb2); (try clear hk); (try clear hi)) | ((with_reducible refine gate_callee (f := 39) rfl ?_); refine goesL_ (some 10) rfl rfl Try.func39 (by kernel_rfl) rfl #[.string a1] rfl (by (try simp only [List.map_toArray, List.map_cons, List.map_nil]); first | done | rfl | (simp only [List.length_drop, List.length_take]; rfl)) ?_; (with_reducible refine (semantic_weighPackagistBuildCharacter.calls k a1 t191 _ A4.out).mono ?_); rintro e w12 ⟨rfl, hb⟩; refine ⟨_, rfl, ?_⟩; have n0_ := Aside0.mk (below_step (by repeat (first | (with_reducible first | exact HB.out | apply below_alloc | apply pw_below_drewN | apply below_drew1) | exact HB.out)) hb); clear HB; have HB := n0_; clear n0_; (try clear hb); (try clear hb2); (try clear hk); (try clear hi)))
      go_ret
      exact ⟨by first | rfl | (simp [errW_none, errW_some] <;> rfl) | (simp [*, errW_none, errW_some] <;> rfl), by repeat (first | (with_reducible first | exact HB.out | apply below_alloc | apply pw_below_drewN | apply below_drew1) | exact HB.out)⟩

/-! ### semantic_ZZPackagistSpecial: function 24 -/
def semantic_ZZPackagistSpecial.f (k : Nat) (a0 : ByteArray) (a1 : ByteArray) : Option (Int) := (semantic_comparePackagistSpecialVersions.f k a0 a1).bind fun t192 => (some t192)
theorem semantic_ZZPackagistSpecial.mono : ∀ a0 a1 k, LeO (semantic_ZZPackagistSpecial.f k a0 a1) (semantic_ZZPackagistSpecial.f (k + 1) a0 a1) := by
  intro a0 a1 k
  unfold semantic_ZZPackagistSpecial.f
  repeat' first
      | (with_reducible exact semantic_comparePackagistSpecialVersions.mono _ _ _)
      | (with_reducible exact LeO.refl _)
      | (with_reducible exact LeO.none _)
      | (with_reducible refine LeO.ite ?_ ?_)
      | (with_reducible refine LeO.bind ?_ (fun _ => ?_))
      | exact semantic_comparePackagistSpecialVersions.mono _ _ _
      | exact LeO.none _
      | refine LeO.ite ?_ ?_
      | refine LeO.bind ?_ (fun _ => ?_)
set_option maxHeartbeats 8000000 in
set_option maxRecDepth 100000 in
theorem semantic_ZZPackagistSpecial.calls (k : Nat) (a0 : ByteArray) (a1 : ByteArray) (r : Int) (w : World) (h : semantic_ZZPackagistSpecial.f k a0 a1 = some r) :
    Calls Try.prog 24 #[.string a0, .string a1] w fun e w' => e = .returned (.int .i64 r) ∧ Below w.heap.size w w' := by
  have HB := Aside0.mk (Below.refl w.heap.size w)
  have H : ((semantic_comparePackagistSpecialVersions.f k a0 a1).bind fun t192 => (some t192)) = some r := h
  clear h
  replace H := Option.bind_eq_some_iff.mp H
  obtain ⟨t192, A30, H⟩ := H
  replace H : (some t192) = some r := H
  have A3 := Aside0.mk A30
  clear A30
  obtain rfl := Option.some.inj H
  go_enter Try.func24, Try.ntmps24
  go_wp2_with (first | ((with_reducible refine gate_callee (f := 35) rfl ?_); refine goesL_ (some 7) rfl rfl Try.func35 (by kernel_rfl) rfl #[.string a0, .string a1] rfl (by (try simp only [List.map_toArray, List.map_cons, List.map_nil]); first | done | rfl | (simp only [List.length_drop, List.length_take]; rfl)) ?_; (with_reducible refine (semantic_comparePackagistSpecialVersions.calls k a0 a1 t192 _ A3.out).mono ?_); rintro e w4 ⟨rfl, hb⟩; refine ⟨_, rfl, ?_⟩; have n0_ := Aside0.mk (below_step (by repeat (first | (with_reducible first | exact HB.out | apply below_alloc | apply pw_below_drewN | apply below_drew1) | exact HB.out)) hb); clear HB; have HB := n0_; clear n0_; (try clear hb); (try clear hb2); (try clear hk); (try clear hi)))
  go_ret
  exact ⟨by first | rfl | (simp [errW_none, errW_some] <;> rfl) | (simp [*, errW_none, errW_some] <;> rfl), by repeat (first | (with_reducible first | exact HB.out | apply below_alloc | apply pw_below_drewN | apply below_drew1) | exact HB.out)⟩

end Go.Proofs.Ytfogdolfanfocaa.Z
