-- Written by a program of this session (myprint.py).
import Derived.Test.YtmhlmkefnmdbcaaDoorZ0
import Derived.Test.YtmhlmkefnmdbcaaDoorZ1
import Derived.Test.YtmhlmkefnmdbcaaDoorGe
namespace Go.Proofs.YtmhlmkefnmdbcaaDoor.Z
open Go.Proofs.YtmhlmkefnmdbcaaDoor.Gw
open Go.RowKit Go.Proofs.YtmhlmkefnmdbcaaDoorW.PrintWords Go.Proofs.YtmhlmkefnmdbcaaDoorW.PrintLast Go.Proofs.YtmhlmkefnmdbcaaDoorW.PrintMore
attribute [local go_sem high] Go.Proofs.YtmhlmkefnmdbcaaDoor.Ge.gtr_str
attribute [local go_sem] max2_int min2_int max_two min_two max_three min_three max_four min_four   -- for this text's walks alone
set_option linter.unusedVariables false
set_option linter.unusedSimpArgs false

/-! ### spec_GemValid: function 22 -/
mutual
def spec_GemValid.l0 : Nat → ByteArray → List ByteArray → Int → Option (Bool)
 | 0, _, _, _ => none
 | k + 1, x0, x3, x4 => if x4 < (x3.length : Int) then (spec_GemValid.l1 k x0 x3 x4 0) else (if 0 < (x3.length : Int) then ((spec_allDigits.f k (rdOf ByteArray.empty x3 0)).bind fun t154 => (if t154 = true then ((spec_RubyKnown.f k x0).bind fun t155 => (some t155)) else (some false))) else (none))
def spec_GemValid.l1 : Nat → ByteArray → List ByteArray → Int → Int → Option (Bool)
 | 0, _, _, _, _ => none
 | k + 1, x0, x3, x4, x5 => if 0 ≤ x4 then (if x4 < (x3.length : Int) then (if x5 < ((rdOf ByteArray.empty x3 x4).size : Int) then (if 0 ≤ x5 then ((spec_isDigit.f (bt (rdOf ByteArray.empty x3 x4) x5)).bind fun t159 => (if t159 = true then (spec_GemValid.l1 k x0 x3 x4 (wrap64 (x5 + 1))) else ((spec_isLetter.f (bt (rdOf ByteArray.empty x3 x4) x5)).bind fun t161 => (if t161 = true then (spec_GemValid.l1 k x0 x3 x4 (wrap64 (x5 + 1))) else (some false))))) else (none)) else (if (rdOf ByteArray.empty x3 x4).toList = ([] : List UInt8) then (some false) else (spec_GemValid.l0 k x0 x3 (wrap64 (x4 + 1))))) else (none)) else (none)
end
def spec_GemValid.f (k : Nat) (a0 : ByteArray) : Option (Bool) := (spec_cut_isPoint.f k a0 42).bind fun t150 => (spec_GemValid.l0 k a0 t150 0)
theorem spec_GemValid.mono_l : ∀ k, (∀ y0 y1 y2, LeO (spec_GemValid.l0 k y0 y1 y2) (spec_GemValid.l0 (k + 1) y0 y1 y2)) ∧ (∀ y0 y1 y2 y3, LeO (spec_GemValid.l1 k y0 y1 y2 y3) (spec_GemValid.l1 (k + 1) y0 y1 y2 y3))
 | 0 => ⟨fun _ _ _ r h => by simp [spec_GemValid.l0] at h, fun _ _ _ _ r h => by simp [spec_GemValid.l1] at h⟩
 | k + 1 => by
  obtain ⟨ih0, ih1⟩ := spec_GemValid.mono_l k
  refine ⟨?_, ?_⟩
  ·intro y0 y1 y2
   unfold spec_GemValid.l0
   repeat' first
   | (with_reducible exact ih0 _ _ _)
   | (with_reducible exact ih1 _ _ _ _)
   | (with_reducible exact spec_RubyKnown.mono _ _)
   | (with_reducible exact spec_allDigits.mono _ _)
   | (with_reducible exact spec_cut_isPoint.mono _ _ _)
   | (with_reducible exact LeO.refl _)
   | (with_reducible exact LeO.none _)
   | (with_reducible refine LeO.ite ?_ ?_)
   | (with_reducible refine LeO.bind ?_ (fun _ => ?_))
   | exact ih0 _ _ _
   | exact ih1 _ _ _ _
   | exact spec_RubyKnown.mono _ _
   | exact spec_allDigits.mono _ _
   | exact spec_cut_isPoint.mono _ _ _
   | exact LeO.none _
   | refine LeO.ite ?_ ?_
   | refine LeO.bind ?_ (fun _ => ?_)
  ·intro y0 y1 y2 y3
   unfold spec_GemValid.l1
   repeat' first
   | (with_reducible exact ih0 _ _ _)
   | (with_reducible exact ih1 _ _ _ _)
   | (with_reducible exact spec_RubyKnown.mono _ _)
   | (with_reducible exact spec_allDigits.mono _ _)
   | (with_reducible exact spec_cut_isPoint.mono _ _ _)
   | (with_reducible exact LeO.refl _)
   | (with_reducible exact LeO.none _)
   | (with_reducible refine LeO.ite ?_ ?_)
   | (with_reducible refine LeO.bind ?_ (fun _ => ?_))
   | exact ih0 _ _ _
   | exact ih1 _ _ _ _
   | exact spec_RubyKnown.mono _ _
   | exact spec_allDigits.mono _ _
   | exact spec_cut_isPoint.mono _ _ _
   | exact LeO.none _
   | refine LeO.ite ?_ ?_
   | refine LeO.bind ?_ (fun _ => ?_)
theorem spec_GemValid.mono : ∀ a0 k, LeO (spec_GemValid.f k a0) (spec_GemValid.f (k + 1) a0) := by
 intro a0 k
 obtain ⟨ih0, ih1⟩ := spec_GemValid.mono_l k
 unfold spec_GemValid.f
 repeat' first
   | (with_reducible exact ih0 _ _ _)
   | (with_reducible exact ih1 _ _ _ _)
   | (with_reducible exact spec_RubyKnown.mono _ _)
   | (with_reducible exact spec_allDigits.mono _ _)
   | (with_reducible exact spec_cut_isPoint.mono _ _ _)
   | (with_reducible exact LeO.refl _)
   | (with_reducible exact LeO.none _)
   | (with_reducible refine LeO.ite ?_ ?_)
   | (with_reducible refine LeO.bind ?_ (fun _ => ?_))
   | exact ih0 _ _ _
   | exact ih1 _ _ _ _
   | exact spec_RubyKnown.mono _ _
   | exact spec_allDigits.mono _ _
   | exact spec_cut_isPoint.mono _ _ _
   | exact LeO.none _
   | refine LeO.ite ?_ ?_
   | refine LeO.bind ?_ (fun _ => ?_)
set_option maxHeartbeats 8000000 in
set_option maxRecDepth 100000 in
theorem spec_GemValid.calls (k : Nat) (a0 : ByteArray) (r : Bool) (w : World) (h : spec_GemValid.f k a0 = some r) :
  Calls Tryd.prog 22 #[.string a0] w fun e w' => e = .returned (.bool r) ∧ Below w.heap.size w w' := by
 have HB := Aside0.mk (Below.refl w.heap.size w)
 have H : ((spec_cut_isPoint.f k a0 42).bind fun t150 => (spec_GemValid.l0 k a0 t150 0)) = some r := h
 clear h
 replace H := Option.bind_eq_some_iff.mp H
 obtain ⟨t150, A20, H⟩ := H
 replace H : (spec_GemValid.l0 k a0 t150 0) = some r := H
 have A2 := Aside0.mk A20
 clear A20
 have H' := Aside0.mk H
 clear H
 go_enter Tryd.func22, Tryd.ntmps22
 go_wp2_with (first | ((with_reducible refine gate_callee (f := 36) rfl ?_); refine goesL_ (some 7) rfl rfl Tryd.func36 (by kernel_rfl) rfl #[.string a0, .func (.func 42) #[] #[]] rfl (by (try simp only [List.map_toArray, List.map_cons, List.map_nil]); first | done | rfl | (simp only [List.length_drop, List.length_take]; rfl)) ?_; (with_reducible refine (spec_cut_isPoint.calls k a0 42 t150 _ A2.out).mono ?_); rintro e w3 ⟨v151, rfl, ho0, hb⟩; refine ⟨_, rfl, ?_⟩; have n0_ := Aside0.mk (Kd.R_lower ho0 (below_size (by repeat (first | (with_reducible first | exact HB.out | apply below_alloc | apply pw_below_drewN | apply below_drew1) | exact HB.out)))); have n1_ := Aside0.mk (below_step (by repeat (first | (with_reducible first | exact HB.out | apply below_alloc | apply pw_below_drewN | apply below_drew1) | exact HB.out)) hb); clear HB; have HO152 := n0_; have HB := n1_; clear n0_ n1_; (try clear hb); (try clear hb2); (try clear hk); (try clear hi); (try clear ho0)))
 go_loopg [4] k (fun kq v4 w' => ∃ (x4_1 : Int), v4 = .int .i64 x4_1 ∧ Aside0 (spec_GemValid.l0 kq a0 t150 x4_1 = some r) ∧ Aside0 (kq ≤ k) ∧ Aside0 (Kd.R Kd.string 9 w' w.heap.size (fun _ => True) v151 t150) ∧ Aside0 (Below w.heap.size w w'))
 case atStart => exact ⟨(0), (by first | rfl | (simp; done) | (simp [*]; done)), H', ⟨Nat.le_refl _⟩, ⟨by (with_reducible repeat (first | apply Kd.R_alloc | apply Kd.R_drewN | apply Kd.R_drew)); exact HO152.out⟩, ⟨by repeat (first | (with_reducible first | exact HB.out | apply below_alloc | apply pw_below_drewN | apply below_drew1) | exact HB.out)⟩⟩
 case round =>
  clear H'
  try clear c2
  try clear p2
  try clear c3
  obtain ⟨x4_1, rfl, HA, HK1, HO_3, HB⟩ := hrel
  cases gk with
  | zero => exact absurd HA.out (by simp [spec_GemValid.l0])
  | succ k1 =>
   have H := HA.out
   clear HA
   simp only [spec_GemValid.l0] at H
   by_cases c4 : x4_1 < (t150.length : Int)
   ·rw [if_pos c4] at H
    have c4b0 : decide (x4_1 < (t150.length : Int)) = true := decide_eq_true c4
    clear c4
    have H' := Aside0.mk H
    clear H
    obtain ⟨Ao5, co5, eo5⟩ := Kd.R_slice HO_3.out
    subst eo5
    go_wp2
    go_loopg [5] k1 (fun kq v5 w' => ∃ (x5_2 : Int), v5 = .int .i64 x5_2 ∧ Aside0 (spec_GemValid.l1 kq a0 t150 x4_1 x5_2 = some r) ∧ Aside0 (kq ≤ k1) ∧ Aside0 (Kd.R Kd.string 9 w' w.heap.size (fun _ => True) (.slice Ao5 t150.length co5) t150) ∧ Aside0 (Below w.heap.size w w'))
    case atStart => exact ⟨(0), (by first | rfl | (simp; done) | (simp [*]; done)), H', ⟨Nat.le_refl _⟩, ⟨by (with_reducible repeat (first | apply Kd.R_alloc | apply Kd.R_drewN | apply Kd.R_drew)); exact HO_3.out⟩, ⟨by repeat (first | (with_reducible first | exact HB.out | apply below_alloc | apply pw_below_drewN | apply below_drew1) | exact HB.out)⟩⟩
    case round =>
     clear H'
     try clear c2
     try clear p2
     try clear c3
     try clear c4
     try clear c4b0
     try clear p2
     obtain ⟨x5_2, rfl, HA, HK2, HO_3, HB⟩ := hrel
     cases gk with
     | zero => exact absurd HA.out (by simp [spec_GemValid.l1])
     | succ k2 =>
      have H := HA.out
      clear HA
      simp only [spec_GemValid.l1] at H
      by_cases c6 : 0 ≤ x4_1
      ·rw [if_pos c6] at H
       have c6b0 : decide (0 ≤ x4_1) = true := decide_eq_true c6
       clear c6
       by_cases c7 : x4_1 < (t150.length : Int)
       ·rw [if_pos c7] at H
        have c7b0 : decide (x4_1 < (t150.length : Int)) = true := decide_eq_true c7
        clear c7
        by_cases c8 : x5_2 < ((rdOf ByteArray.empty t150 x4_1).size : Int)
        ·rw [if_pos c8] at H
         have c8b0 : decide (x5_2 < ((rdOf ByteArray.empty t150 x4_1).size : Int)) = true := decide_eq_true c8
         clear c8
         by_cases c9 : 0 ≤ x5_2
         ·rw [if_pos c9] at H
          have c9b0 : decide (0 ≤ x5_2) = true := decide_eq_true c9
          clear c9
          replace H := Option.bind_eq_some_iff.mp H
          obtain ⟨t159, A110, H⟩ := H
          replace H : (if t159 = true then (spec_GemValid.l1 k2 a0 t150 x4_1 (wrap64 (x5_2 + 1))) else ((spec_isLetter.f (bt (rdOf ByteArray.empty t150 x4_1) x5_2)).bind fun t161 => (if t161 = true then (spec_GemValid.l1 k2 a0 t150 x4_1 (wrap64 (x5_2 + 1))) else (some false)))) = some r := H
          have A11 := Aside0.mk A110
          clear A110
          by_cases c12 : t159 = true
          ·subst c12
           have H1 : (spec_GemValid.l1 k2 a0 t150 x4_1 (wrap64 (x5_2 + 1))) = some r := by rw [if_pos rfl] at H; exact H
           clear H
           have H := H1
           clear H1
           have H' := Aside0.mk H
           clear H
           have p156 : 0 ≤ (x4_1 : Int) := of_decide_eq_true (by first | (with_reducible assumption) | assumption)
           have q156 : x4_1 < (t150.length : Int) := of_decide_eq_true (by first | (with_reducible assumption) | assumption)
           obtain ⟨ad156, e156, hx156_0⟩ := Kd.at_string (Kd.R_reads' HO_3.out).2.2 x4_1 p156 q156
           cases e156
           replace p156 := eq_true p156
           replace q156 := eq_true q156
           have p158 : 0 ≤ (x4_1 : Int) := of_decide_eq_true (by first | (with_reducible assumption) | assumption)
           have q158 : x4_1 < (t150.length : Int) := of_decide_eq_true (by first | (with_reducible assumption) | assumption)
           obtain ⟨ad158, e158, hx158_0⟩ := Kd.at_string (Kd.R_reads' HO_3.out).2.2 x4_1 p158 q158
           obtain rfl : ad156 = ad158 := (by injection e158)
           replace p158 := eq_true p158
           replace q158 := eq_true q158
           have p10 : 0 ≤ (x5_2 : Int) := of_decide_eq_true (by first | (with_reducible assumption) | assumption)
           have q10 : x5_2 < ((rdOf ByteArray.empty t150 x4_1).size : Int) := of_decide_eq_true (by first | (with_reducible assumption) | assumption)
           have hx10 := bt_at (rdOf ByteArray.empty t150 x4_1) x5_2
           replace p10 := eq_true p10
           replace q10 := eq_true q10
           go_wp2_with (first | ((with_reducible refine gate_callee (f := 43) rfl ?_); refine goesL_ (some 29) rfl rfl Tryd.func43 (by kernel_rfl) rfl #[.int .u8 (bt (rdOf ByteArray.empty t150 x4_1) x5_2)] rfl (by (try simp only [List.map_toArray, List.map_cons, List.map_nil]); first | done | rfl | (simp only [List.length_drop, List.length_take]; rfl)) ?_; (with_reducible refine (spec_isDigit.calls (bt (rdOf ByteArray.empty t150 x4_1) x5_2) true _ A11.out).mono ?_); rintro e w' ⟨rfl, ⟨nd, rfl⟩⟩; refine ⟨_, rfl, ?_⟩))
           go_roundg k2
           case measure => have := HK1.out; have := HK2.out; omega
           case rel => exact ⟨(wrap64 (x5_2 + 1)), (by first | rfl | (simp; done) | (simp [*]; done)), H', ⟨by have := HK1.out; have := HK2.out; omega⟩, ⟨by (with_reducible repeat (first | apply Kd.R_alloc | apply Kd.R_drewN | apply Kd.R_drew)); exact HO_3.out⟩, ⟨by repeat (first | (with_reducible first | exact HB.out | apply below_alloc | apply pw_below_drewN | apply below_drew1) | exact HB.out)⟩⟩
          ·replace c12 := Bool.eq_false_iff.mpr c12
           subst c12
           have H1 : ((spec_isLetter.f (bt (rdOf ByteArray.empty t150 x4_1) x5_2)).bind fun t161 => (if t161 = true then (spec_GemValid.l1 k2 a0 t150 x4_1 (wrap64 (x5_2 + 1))) else (some false))) = some r := by rw [if_neg (show ¬ (false = true) by decide)] at H; exact H
           clear H
           have H := H1
           clear H1
           replace H := Option.bind_eq_some_iff.mp H
           obtain ⟨t161, A140, H⟩ := H
           replace H : (if t161 = true then (spec_GemValid.l1 k2 a0 t150 x4_1 (wrap64 (x5_2 + 1))) else (some false)) = some r := H
           have A14 := Aside0.mk A140
           clear A140
           by_cases c15 : t161 = true
           ·subst c15
            have H1 : (spec_GemValid.l1 k2 a0 t150 x4_1 (wrap64 (x5_2 + 1))) = some r := by rw [if_pos rfl] at H; exact H
            clear H
            have H := H1
            clear H1
            have H' := Aside0.mk H
            clear H
            have p156 : 0 ≤ (x4_1 : Int) := of_decide_eq_true (by first | (with_reducible assumption) | assumption)
            have q156 : x4_1 < (t150.length : Int) := of_decide_eq_true (by first | (with_reducible assumption) | assumption)
            obtain ⟨ad156, e156, hx156_0⟩ := Kd.at_string (Kd.R_reads' HO_3.out).2.2 x4_1 p156 q156
            cases e156
            replace p156 := eq_true p156
            replace q156 := eq_true q156
            have p158 : 0 ≤ (x4_1 : Int) := of_decide_eq_true (by first | (with_reducible assumption) | assumption)
            have q158 : x4_1 < (t150.length : Int) := of_decide_eq_true (by first | (with_reducible assumption) | assumption)
            obtain ⟨ad158, e158, hx158_0⟩ := Kd.at_string (Kd.R_reads' HO_3.out).2.2 x4_1 p158 q158
            obtain rfl : ad156 = ad158 := (by injection e158)
            replace p158 := eq_true p158
            replace q158 := eq_true q158
            have p10 : 0 ≤ (x5_2 : Int) := of_decide_eq_true (by first | (with_reducible assumption) | assumption)
            have q10 : x5_2 < ((rdOf ByteArray.empty t150 x4_1).size : Int) := of_decide_eq_true (by first | (with_reducible assumption) | assumption)
            have hx10 := bt_at (rdOf ByteArray.empty t150 x4_1) x5_2
            replace p10 := eq_true p10
            replace q10 := eq_true q10
            go_wp2_with (first | ((with_reducible refine gate_callee (f := 43) rfl ?_); refine goesL_ (some 29) rfl rfl Tryd.func43 (by kernel_rfl) rfl #[.int .u8 (bt (rdOf ByteArray.empty t150 x4_1) x5_2)] rfl (by (try simp only [List.map_toArray, List.map_cons, List.map_nil]); first | done | rfl | (simp only [List.length_drop, List.length_take]; rfl)) ?_; (with_reducible refine (spec_isDigit.calls (bt (rdOf ByteArray.empty t150 x4_1) x5_2) false _ A11.out).mono ?_); rintro e w' ⟨rfl, ⟨nd, rfl⟩⟩; refine ⟨_, rfl, ?_⟩; have p160 : 0 ≤ (x4_1 : Int) := of_decide_eq_true (by first | (with_reducible assumption) | assumption); have q160 : x4_1 < (t150.length : Int) := of_decide_eq_true (by first | (with_reducible assumption) | assumption); obtain ⟨ad160, e160, hx160_0⟩ := Kd.at_string (Kd.R_reads' HO_3.out).2.2 x4_1 p160 q160; obtain rfl : ad156 = ad160 := (by injection e160); replace p160 := eq_true p160; replace q160 := eq_true q160; have p13 : 0 ≤ (x5_2 : Int) := of_decide_eq_true (by first | (with_reducible assumption) | assumption); have q13 : x5_2 < ((rdOf ByteArray.empty t150 x4_1).size : Int) := of_decide_eq_true (by first | (with_reducible assumption) | assumption); have hx13 := bt_at (rdOf ByteArray.empty t150 x4_1) x5_2; replace p13 := eq_true p13; replace q13 := eq_true q13) | (go_at_call 44; (with_reducible refine (spec_isLetter.calls (bt (rdOf ByteArray.empty t150 x4_1) x5_2) true _ A14.out).mono ?_); rintro e w' ⟨rfl, ⟨nd, rfl⟩⟩))
            go_roundg k2
            case measure => have := HK1.out; have := HK2.out; omega
            case rel => exact ⟨(wrap64 (x5_2 + 1)), (by first | rfl | (simp; done) | (simp [*]; done)), H', ⟨by have := HK1.out; have := HK2.out; omega⟩, ⟨by (with_reducible repeat (first | apply Kd.R_alloc | apply Kd.R_drewN | apply Kd.R_drew)); exact HO_3.out⟩, ⟨by repeat (first | (with_reducible first | exact HB.out | apply below_alloc | apply pw_below_drewN | apply below_drew1) | exact HB.out)⟩⟩
           ·replace c15 := Bool.eq_false_iff.mpr c15
            subst c15
            have H1 : (some false) = some r := by rw [if_neg (show ¬ (false = true) by decide)] at H; exact H
            clear H
            have H := H1
            clear H1
            obtain rfl := Option.some.inj H
            have p156 : 0 ≤ (x4_1 : Int) := of_decide_eq_true (by first | (with_reducible assumption) | assumption)
            have q156 : x4_1 < (t150.length : Int) := of_decide_eq_true (by first | (with_reducible assumption) | assumption)
            obtain ⟨ad156, e156, hx156_0⟩ := Kd.at_string (Kd.R_reads' HO_3.out).2.2 x4_1 p156 q156
            cases e156
            replace p156 := eq_true p156
            replace q156 := eq_true q156
            have p158 : 0 ≤ (x4_1 : Int) := of_decide_eq_true (by first | (with_reducible assumption) | assumption)
            have q158 : x4_1 < (t150.length : Int) := of_decide_eq_true (by first | (with_reducible assumption) | assumption)
            obtain ⟨ad158, e158, hx158_0⟩ := Kd.at_string (Kd.R_reads' HO_3.out).2.2 x4_1 p158 q158
            obtain rfl : ad156 = ad158 := (by injection e158)
            replace p158 := eq_true p158
            replace q158 := eq_true q158
            have p10 : 0 ≤ (x5_2 : Int) := of_decide_eq_true (by first | (with_reducible assumption) | assumption)
            have q10 : x5_2 < ((rdOf ByteArray.empty t150 x4_1).size : Int) := of_decide_eq_true (by first | (with_reducible assumption) | assumption)
            have hx10 := bt_at (rdOf ByteArray.empty t150 x4_1) x5_2
            replace p10 := eq_true p10
            replace q10 := eq_true q10
            go_wp2_with (first | ((with_reducible refine gate_callee (f := 43) rfl ?_); refine goesL_ (some 29) rfl rfl Tryd.func43 (by kernel_rfl) rfl #[.int .u8 (bt (rdOf ByteArray.empty t150 x4_1) x5_2)] rfl (by (try simp only [List.map_toArray, List.map_cons, List.map_nil]); first | done | rfl | (simp only [List.length_drop, List.length_take]; rfl)) ?_; (with_reducible refine (spec_isDigit.calls (bt (rdOf ByteArray.empty t150 x4_1) x5_2) false _ A11.out).mono ?_); rintro e w' ⟨rfl, ⟨nd, rfl⟩⟩; refine ⟨_, rfl, ?_⟩; have p160 : 0 ≤ (x4_1 : Int) := of_decide_eq_true (by first | (with_reducible assumption) | assumption); have q160 : x4_1 < (t150.length : Int) := of_decide_eq_true (by first | (with_reducible assumption) | assumption); obtain ⟨ad160, e160, hx160_0⟩ := Kd.at_string (Kd.R_reads' HO_3.out).2.2 x4_1 p160 q160; obtain rfl : ad156 = ad160 := (by injection e160); replace p160 := eq_true p160; replace q160 := eq_true q160; have p13 : 0 ≤ (x5_2 : Int) := of_decide_eq_true (by first | (with_reducible assumption) | assumption); have q13 : x5_2 < ((rdOf ByteArray.empty t150 x4_1).size : Int) := of_decide_eq_true (by first | (with_reducible assumption) | assumption); have hx13 := bt_at (rdOf ByteArray.empty t150 x4_1) x5_2; replace p13 := eq_true p13; replace q13 := eq_true q13) | (go_at_call 44; (with_reducible refine (spec_isLetter.calls (bt (rdOf ByteArray.empty t150 x4_1) x5_2) false _ A14.out).mono ?_); rintro e w' ⟨rfl, ⟨nd, rfl⟩⟩))
            go_ret
            exact ⟨by first | rfl | (simp [errW_none, errW_some] <;> rfl) | (simp [*, errW_none, errW_some] <;> rfl), by repeat (first | (with_reducible first | exact HB.out | apply below_alloc | apply pw_below_drewN | apply below_drew1) | exact HB.out)⟩
         ·rw [if_neg c9] at H
          exact absurd H (by simp)
        ·rw [if_neg c8] at H
         have c8b0 : decide (x5_2 < ((rdOf ByteArray.empty t150 x4_1).size : Int)) = false := decide_eq_false c8
         clear c8
         by_cases c16 : (rdOf ByteArray.empty t150 x4_1).toList = ([] : List UInt8)
         ·rw [if_pos c16] at H
          have c16b0 : ((rdOf ByteArray.empty t150 x4_1).toList == ([] : List UInt8)) = true := beq_iff_eq.mpr c16
          have c16b1 : ((rdOf ByteArray.empty t150 x4_1).toList != ([] : List UInt8)) = false := bne_eq_false_iff_eq.mpr c16
          clear c16
          obtain rfl := Option.some.inj H
          have p156 : 0 ≤ (x4_1 : Int) := of_decide_eq_true (by first | (with_reducible assumption) | assumption)
          have q156 : x4_1 < (t150.length : Int) := of_decide_eq_true (by first | (with_reducible assumption) | assumption)
          obtain ⟨ad156, e156, hx156_0⟩ := Kd.at_string (Kd.R_reads' HO_3.out).2.2 x4_1 p156 q156
          cases e156
          replace p156 := eq_true p156
          replace q156 := eq_true q156
          have p157 : 0 ≤ (x4_1 : Int) := of_decide_eq_true (by first | (with_reducible assumption) | assumption)
          have q157 : x4_1 < (t150.length : Int) := of_decide_eq_true (by first | (with_reducible assumption) | assumption)
          obtain ⟨ad157, e157, hx157_0⟩ := Kd.at_string (Kd.R_reads' HO_3.out).2.2 x4_1 p157 q157
          obtain rfl : ad156 = ad157 := (by injection e157)
          replace p157 := eq_true p157
          replace q157 := eq_true q157
          go_wp2
          go_ret
          exact ⟨by first | rfl | (simp [errW_none, errW_some] <;> rfl) | (simp [*, errW_none, errW_some] <;> rfl), by repeat (first | (with_reducible first | exact HB.out | apply below_alloc | apply pw_below_drewN | apply below_drew1) | exact HB.out)⟩
         ·rw [if_neg c16] at H
          have c16b0 : ((rdOf ByteArray.empty t150 x4_1).toList == ([] : List UInt8)) = false := beq_eq_false_iff_ne.mpr c16
          have c16b1 : ((rdOf ByteArray.empty t150 x4_1).toList != ([] : List UInt8)) = true := bne_iff_ne.mpr c16
          have H' := Aside0.mk H
          clear H
          have p156 : 0 ≤ (x4_1 : Int) := of_decide_eq_true (by first | (with_reducible assumption) | assumption)
          have q156 : x4_1 < (t150.length : Int) := of_decide_eq_true (by first | (with_reducible assumption) | assumption)
          obtain ⟨ad156, e156, hx156_0⟩ := Kd.at_string (Kd.R_reads' HO_3.out).2.2 x4_1 p156 q156
          cases e156
          replace p156 := eq_true p156
          replace q156 := eq_true q156
          have p157 : 0 ≤ (x4_1 : Int) := of_decide_eq_true (by first | (with_reducible assumption) | assumption)
          have q157 : x4_1 < (t150.length : Int) := of_decide_eq_true (by first | (with_reducible assumption) | assumption)
          obtain ⟨ad157, e157, hx157_0⟩ := Kd.at_string (Kd.R_reads' HO_3.out).2.2 x4_1 p157 q157
          obtain rfl : ad156 = ad157 := (by injection e157)
          replace p157 := eq_true p157
          replace q157 := eq_true q157
          go_wp2
          go_roundg k2
          case measure => have := HK1.out; have := HK2.out; omega
          case rel => exact ⟨(wrap64 (x4_1 + 1)), (by first | rfl | (simp; done) | (simp [*]; done)), H', ⟨by have := HK1.out; have := HK2.out; omega⟩, ⟨by (with_reducible repeat (first | apply Kd.R_alloc | apply Kd.R_drewN | apply Kd.R_drew)); exact HO_3.out⟩, ⟨by repeat (first | (with_reducible first | exact HB.out | apply below_alloc | apply pw_below_drewN | apply below_drew1) | exact HB.out)⟩⟩
       ·rw [if_neg c7] at H
        exact absurd H (by simp)
      ·rw [if_neg c6] at H
       exact absurd H (by simp)
   ·rw [if_neg c4] at H
    have c4b0 : decide (x4_1 < (t150.length : Int)) = false := decide_eq_false c4
    clear c4
    by_cases c17 : 0 < (t150.length : Int)
    ·rw [if_pos c17] at H
     have c17b0 : decide (0 < (t150.length : Int)) = true := decide_eq_true c17
     have c17b1 : decide (0 < t150.length) = true := decide_eq_true (by omega)
     clear c17
     replace H := Option.bind_eq_some_iff.mp H
     obtain ⟨t154, A180, H⟩ := H
     replace H : (if t154 = true then ((spec_RubyKnown.f k1 a0).bind fun t155 => (some t155)) else (some false)) = some r := H
     have A18 := Aside0.mk A180
     clear A180
     by_cases c19 : t154 = true
     ·subst c19
      have H1 : ((spec_RubyKnown.f k1 a0).bind fun t155 => (some t155)) = some r := by rw [if_pos rfl] at H; exact H
      clear H
      have H := H1
      clear H1
      replace H := Option.bind_eq_some_iff.mp H
      obtain ⟨t155, A200, H⟩ := H
      replace H : (some t155) = some r := H
      have A20 := Aside0.mk A200
      clear A200
      obtain rfl := Option.some.inj H
      obtain ⟨Ao21, co21, eo21⟩ := Kd.R_slice HO_3.out
      subst eo21
      have p153 : 0 ≤ (0 : Int) := (by omega)
      have q153 : 0 < (t150.length : Int) := of_decide_eq_true (by first | (with_reducible assumption) | assumption)
      obtain ⟨ad153, e153, hx153_0⟩ := Kd.at_string (Kd.R_reads' HO_3.out).2.2 0 p153 q153
      cases e153
      have qi153 : (0 < t150.length) = True := eq_true (by omega)
      (try rw [show ((0 : Int)).toNat = 0 from rfl] at hx153_0)
      (try rw [Addr.add_zero'] at hx153_0)
      replace p153 := eq_true p153
      replace q153 := eq_true q153
      go_wp2_with (first | ((with_reducible refine gate_callee (f := 45) rfl ?_); refine goesL_ (some 49) rfl rfl Tryd.func45 (by kernel_rfl) rfl #[.string (rdOf ByteArray.empty t150 0)] rfl (by (try simp only [List.map_toArray, List.map_cons, List.map_nil]); first | done | rfl | (simp only [List.length_drop, List.length_take]; rfl)) ?_; (with_reducible refine (spec_allDigits.calls k1 (rdOf ByteArray.empty t150 0) true _ A18.out).mono ?_); rintro e w' ⟨rfl, ⟨nd, rfl⟩⟩; refine ⟨_, rfl, ?_⟩) | (go_at_call 25; (with_reducible refine (spec_RubyKnown.calls k1 a0 t155 _ A20.out).mono ?_); rintro e w22 ⟨rfl, hb⟩; have n0_ := Aside0.mk (Kd.R_below (by (with_reducible repeat (first | apply Kd.R_alloc | apply Kd.R_drewN | apply Kd.R_drew)); exact HO_3.out) hb); have n1_ := Aside0.mk (below_step (by repeat (first | (with_reducible first | exact HB.out | apply below_alloc | apply pw_below_drewN | apply below_drew1) | exact HB.out)) hb); clear HO_3; clear HB; have HO_3 := n0_; have HB := n1_; clear n0_ n1_; (try clear hb); (try clear hb2); (try clear hk); (try clear hi)))
      go_ret
      exact ⟨by first | rfl | (simp [errW_none, errW_some] <;> rfl) | (simp [*, errW_none, errW_some] <;> rfl), by repeat (first | (with_reducible first | exact HB.out | apply below_alloc | apply pw_below_drewN | apply below_drew1) | exact HB.out)⟩
     ·replace c19 := Bool.eq_false_iff.mpr c19
      subst c19
      have H1 : (some false) = some r := by rw [if_neg (show ¬ (false = true) by decide)] at H; exact H
      clear H
      have H := H1
      clear H1
      obtain rfl := Option.some.inj H
      obtain ⟨Ao23, co23, eo23⟩ := Kd.R_slice HO_3.out
      subst eo23
      have p153 : 0 ≤ (0 : Int) := (by omega)
      have q153 : 0 < (t150.length : Int) := of_decide_eq_true (by first | (with_reducible assumption) | assumption)
      obtain ⟨ad153, e153, hx153_0⟩ := Kd.at_string (Kd.R_reads' HO_3.out).2.2 0 p153 q153
      cases e153
      have qi153 : (0 < t150.length) = True := eq_true (by omega)
      (try rw [show ((0 : Int)).toNat = 0 from rfl] at hx153_0)
      (try rw [Addr.add_zero'] at hx153_0)
      replace p153 := eq_true p153
      replace q153 := eq_true q153
      go_wp2_with (first | ((with_reducible refine gate_callee (f := 45) rfl ?_); refine goesL_ (some 49) rfl rfl Tryd.func45 (by kernel_rfl) rfl #[.string (rdOf ByteArray.empty t150 0)] rfl (by (try simp only [List.map_toArray, List.map_cons, List.map_nil]); first | done | rfl | (simp only [List.length_drop, List.length_take]; rfl)) ?_; (with_reducible refine (spec_allDigits.calls k1 (rdOf ByteArray.empty t150 0) false _ A18.out).mono ?_); rintro e w' ⟨rfl, ⟨nd, rfl⟩⟩; refine ⟨_, rfl, ?_⟩))
      go_ret
      exact ⟨by first | rfl | (simp [errW_none, errW_some] <;> rfl) | (simp [*, errW_none, errW_some] <;> rfl), by repeat (first | (with_reducible first | exact HB.out | apply below_alloc | apply pw_below_drewN | apply below_drew1) | exact HB.out)⟩
    ·rw [if_neg c17] at H
     exact absurd H (by simp)

/-! ### semantic_zzIndex: function 74 -/
def semantic_zzIndex.l0 : Nat → ByteArray → ByteArray → Int → Option (Int)
 | 0, _, _, _ => none
 | k + 1, x0, x1, x5 => if (wrap64 (x5 + (x1.size : Int))) ≤ (x0.size : Int) then (if 0 ≤ x5 then (if x5 ≤ (wrap64 (x5 + (x1.size : Int))) then (if (x0.extract (x5 : Int).toNat ((wrap64 (x5 + (x1.size : Int))) : Int).toNat).toList = x1.toList then (some x5) else (semantic_zzIndex.l0 k x0 x1 (wrap64 (x5 + 1)))) else (none)) else (none)) else (some (-1))
def semantic_zzIndex.f (k : Nat) (a0 : ByteArray) (a1 : ByteArray) : Option (Int) := semantic_zzIndex.l0 k a0 a1 0
theorem semantic_zzIndex.mono_l : ∀ k, (∀ y0 y1 y2, LeO (semantic_zzIndex.l0 k y0 y1 y2) (semantic_zzIndex.l0 (k + 1) y0 y1 y2))
 | 0 => fun _ _ _ r h => by simp [semantic_zzIndex.l0] at h
 | k + 1 => by
  have ih0 := semantic_zzIndex.mono_l k
  ·intro y0 y1 y2
   unfold semantic_zzIndex.l0
   repeat' first
   | (with_reducible exact ih0 _ _ _)
   | (with_reducible exact LeO.refl _)
   | (with_reducible exact LeO.none _)
   | (with_reducible refine LeO.ite ?_ ?_)
   | (with_reducible refine LeO.bind ?_ (fun _ => ?_))
   | exact ih0 _ _ _
   | exact LeO.none _
   | refine LeO.ite ?_ ?_
   | refine LeO.bind ?_ (fun _ => ?_)
theorem semantic_zzIndex.mono : ∀ a0 a1 k, LeO (semantic_zzIndex.f k a0 a1) (semantic_zzIndex.f (k + 1) a0 a1) := by
 intro a0 a1 k
 have ih0 := semantic_zzIndex.mono_l k
 unfold semantic_zzIndex.f
 repeat' first
   | (with_reducible exact ih0 _ _ _)
   | (with_reducible exact LeO.refl _)
   | (with_reducible exact LeO.none _)
   | (with_reducible refine LeO.ite ?_ ?_)
   | (with_reducible refine LeO.bind ?_ (fun _ => ?_))
   | exact ih0 _ _ _
   | exact LeO.none _
   | refine LeO.ite ?_ ?_
   | refine LeO.bind ?_ (fun _ => ?_)
set_option maxHeartbeats 8000000 in
set_option maxRecDepth 100000 in
theorem semantic_zzIndex.calls (k : Nat) (a0 : ByteArray) (a1 : ByteArray) (r : Int) (w : World) (h : semantic_zzIndex.f k a0 a1 = some r) :
  Calls Tryd.prog 74 #[.string a0, .string a1] w fun e w' => e = .returned (.int .i64 r) ∧ Drawn0 w w' := by
 have H : (semantic_zzIndex.l0 k a0 a1 0) = some r := h
 clear h
 have H' := Aside0.mk H
 clear H
 go_enter Tryd.func74, Tryd.ntmps74
 go_wp2
 go_loopg [5] k (fun kq v5 w' => ∃ (x5_1 : Int), v5 = .int .i64 x5_1 ∧ Aside0 (semantic_zzIndex.l0 kq a0 a1 x5_1 = some r) ∧ Aside0 (kq ≤ k) ∧ Drawn0 w w')
 case atStart => exact ⟨(0), (by first | rfl | (simp; done) | (simp [*]; done)), H', ⟨Nat.le_refl _⟩, by repeat (first | exact Drawn0.refl _ | apply Drawn0.step)⟩
 case round =>
  clear H'
  try clear p2
  obtain ⟨x5_1, rfl, HA, HK1, ⟨m1, rfl⟩⟩ := hrel
  cases gk with
  | zero => exact absurd HA.out (by simp [semantic_zzIndex.l0])
  | succ k1 =>
   have H := HA.out
   clear HA
   simp only [semantic_zzIndex.l0] at H
   by_cases c3 : (wrap64 (x5_1 + (a1.size : Int))) ≤ (a0.size : Int)
   ·rw [if_pos c3] at H
    have c3b0 : decide ((wrap64 (x5_1 + (a1.size : Int))) ≤ (a0.size : Int)) = true := decide_eq_true c3
    clear c3
    by_cases c4 : 0 ≤ x5_1
    ·rw [if_pos c4] at H
     have c4b0 := eq_true c4
     have c4b1 : decide (0 ≤ x5_1) = true := decide_eq_true c4
     clear c4
     by_cases c5 : x5_1 ≤ (wrap64 (x5_1 + (a1.size : Int)))
     ·rw [if_pos c5] at H
      have c5b0 := eq_true c5
      have c5b1 : decide (x5_1 ≤ (wrap64 (x5_1 + (a1.size : Int)))) = true := decide_eq_true c5
      have c6b0 := eq_true (of_decide_eq_true (by first | (with_reducible assumption) | assumption) : (wrap64 (x5_1 + (a1.size : Int))) ≤ (a0.size : Int))
      by_cases c7 : (a0.extract (x5_1 : Int).toNat ((wrap64 (x5_1 + (a1.size : Int))) : Int).toNat).toList = a1.toList
      ·rw [if_pos c7] at H
       have c7b0 : ((a0.extract (x5_1 : Int).toNat ((wrap64 (x5_1 + (a1.size : Int))) : Int).toNat).toList == a1.toList) = true := beq_iff_eq.mpr c7
       have c7b1 : ((a0.extract (x5_1 : Int).toNat ((wrap64 (x5_1 + (a1.size : Int))) : Int).toNat).toList != a1.toList) = false := bne_eq_false_iff_eq.mpr c7
       clear c7
       obtain rfl := Option.some.inj H
       go_wp2
       go_ret
       exact ⟨by first | rfl | (simp; done) | (simp [*]; done), by repeat (first | exact Drawn0.refl _ | apply Drawn0.step)⟩
      ·rw [if_neg c7] at H
       have c7b0 : ((a0.extract (x5_1 : Int).toNat ((wrap64 (x5_1 + (a1.size : Int))) : Int).toNat).toList == a1.toList) = false := beq_eq_false_iff_ne.mpr c7
       have c7b1 : ((a0.extract (x5_1 : Int).toNat ((wrap64 (x5_1 + (a1.size : Int))) : Int).toNat).toList != a1.toList) = true := bne_iff_ne.mpr c7
       have H' := Aside0.mk H
       clear H
       go_wp2
       go_roundg k1
       case measure => have := HK1.out; omega
       case rel => exact ⟨(wrap64 (x5_1 + 1)), (by first | rfl | (simp; done) | (simp [*]; done)), H', ⟨by have := HK1.out; omega⟩, by repeat (first | exact Drawn0.refl _ | apply Drawn0.step)⟩
     ·rw [if_neg c5] at H
      exact absurd H (by simp)
    ·rw [if_neg c4] at H
     exact absurd H (by simp)
   ·rw [if_neg c3] at H
    have c3b0 : decide ((wrap64 (x5_1 + (a1.size : Int))) ≤ (a0.size : Int)) = false := decide_eq_false c3
    clear c3
    obtain rfl := Option.some.inj H
    go_wp2
    go_ret
    exact ⟨by first | rfl | (simp; done) | (simp [*]; done), by repeat (first | exact Drawn0.refl _ | apply Drawn0.step)⟩

end Go.Proofs.YtmhlmkefnmdbcaaDoor.Z
