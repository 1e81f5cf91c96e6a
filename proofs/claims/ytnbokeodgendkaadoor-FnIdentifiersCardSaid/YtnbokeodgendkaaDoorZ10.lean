-- Written by a program of this session (myprint.py).
import Derived.Test.YtnbokeodgendkaaDoorZ0
import Derived.Test.YtnbokeodgendkaaDoorZ2
import Derived.Test.YtnbokeodgendkaaDoorZ6
import Derived.Test.YtnbokeodgendkaaDoorZ9
import Derived.Test.YtnbokeodgendkaaDoorGe
namespace Go.Proofs.YtnbokeodgendkaaDoor.Z
open Go.Proofs.YtnbokeodgendkaaDoor.Gw
open Go.RowKit Go.Proofs.YtnbokeodgendkaaDoorW.PrintWords Go.Proofs.YtnbokeodgendkaaDoorW.PrintLast Go.Proofs.YtnbokeodgendkaaDoorW.PrintMore
attribute [local go_sem high] Go.Proofs.YtnbokeodgendkaaDoor.Ge.gtr_str
attribute [local go_sem] max2_int min2_int max_two min_two max_three min_three max_four min_four   -- for this text's walks alone
set_option linter.unusedVariables false
set_option linter.unusedSimpArgs false

/-! ### laws_FnIdentifiers: function 4 -/
mutual
def laws_FnIdentifiers.j0 : Nat → List ByteArray → List ByteArray → Bool → Option (Bool)
  | 0, _, _, _ => none
  | k + 1, x0, x1, x13 => if x13 = true then (some true) else ((laws_short.f k x0).bind fun t155 => (if t155 = true then ((laws_short.f k x1).bind fun t156 => (if t156 = true then ((spec_IdentifiersKnown.f k x0).bind fun t157 => (if t157 = true then ((spec_IdentifiersKnown.f k x1).bind fun t158 => (laws_FnIdentifiers.j1 k x0 x1 (!t158))) else (laws_FnIdentifiers.j1 k x0 x1 true))) else (laws_FnIdentifiers.j1 k x0 x1 true))) else (laws_FnIdentifiers.j1 k x0 x1 true)))
def laws_FnIdentifiers.j1 : Nat → List ByteArray → List ByteArray → Bool → Option (Bool)
  | 0, _, _, _ => none
  | k + 1, x0, x1, x31 => if x31 = true then (some true) else ((impl_Identifiers.f x0 x1).bind fun t159 => ((spec_Identifiers.f k x0 x1).bind fun t160 => (if t159 = t160 then ((impl_Identifiers.f x1 x0).bind fun t161 => ((laws_turned.f t159 t161).bind fun t162 => (some t162))) else (some false))))
end
def laws_FnIdentifiers.f (k : Nat) (l0 : List ByteArray) (l1 : List ByteArray) : Option (Bool) := (laws_zzFits1.f k l0).bind fun t153 => (if t153 = true then ((laws_zzFits1.f k l1).bind fun t154 => (laws_FnIdentifiers.j0 k l0 l1 (!t154))) else (laws_FnIdentifiers.j0 k l0 l1 true))
theorem laws_FnIdentifiers.mono_l : ∀ k, (∀ y0 y1 y2, LeO (laws_FnIdentifiers.j0 k y0 y1 y2) (laws_FnIdentifiers.j0 (k + 1) y0 y1 y2)) ∧ (∀ y0 y1 y2, LeO (laws_FnIdentifiers.j1 k y0 y1 y2) (laws_FnIdentifiers.j1 (k + 1) y0 y1 y2))
  | 0 => ⟨fun _ _ _ r h => by simp [laws_FnIdentifiers.j0] at h, fun _ _ _ r h => by simp [laws_FnIdentifiers.j1] at h⟩
  | k + 1 => by
    obtain ⟨ih0, ih1⟩ := laws_FnIdentifiers.mono_l k
    refine ⟨?_, ?_⟩
    · intro y0 y1 y2
      unfold laws_FnIdentifiers.j0
      repeat' first
      | (with_reducible exact ih0 _ _ _)
      | (with_reducible exact ih1 _ _ _)
      | (with_reducible exact laws_short.mono _ _)
      | (with_reducible exact laws_zzFits1.mono _ _)
      | (with_reducible exact spec_Identifiers.mono _ _ _)
      | (with_reducible exact spec_IdentifiersKnown.mono _ _)
      | (with_reducible exact LeO.refl _)
      | (with_reducible exact LeO.none _)
      | (with_reducible refine LeO.ite ?_ ?_)
      | (with_reducible refine LeO.bind ?_ (fun _ => ?_))
      | exact ih0 _ _ _
      | exact ih1 _ _ _
      | exact laws_short.mono _ _
      | exact laws_zzFits1.mono _ _
      | exact spec_Identifiers.mono _ _ _
      | exact spec_IdentifiersKnown.mono _ _
      | exact LeO.none _
      | refine LeO.ite ?_ ?_
      | refine LeO.bind ?_ (fun _ => ?_)
    · intro y0 y1 y2
      unfold laws_FnIdentifiers.j1
      repeat' first
      | (with_reducible exact ih0 _ _ _)
      | (with_reducible exact ih1 _ _ _)
      | (with_reducible exact laws_short.mono _ _)
      | (with_reducible exact laws_zzFits1.mono _ _)
      | (with_reducible exact spec_Identifiers.mono _ _ _)
      | (with_reducible exact spec_IdentifiersKnown.mono _ _)
      | (with_reducible exact LeO.refl _)
      | (with_reducible exact LeO.none _)
      | (with_reducible refine LeO.ite ?_ ?_)
      | (with_reducible refine LeO.bind ?_ (fun _ => ?_))
      | exact ih0 _ _ _
      | exact ih1 _ _ _
      | exact laws_short.mono _ _
      | exact laws_zzFits1.mono _ _
      | exact spec_Identifiers.mono _ _ _
      | exact spec_IdentifiersKnown.mono _ _
      | exact LeO.none _
      | refine LeO.ite ?_ ?_
      | refine LeO.bind ?_ (fun _ => ?_)
theorem laws_FnIdentifiers.mono : ∀ a0 a1 k, LeO (laws_FnIdentifiers.f k a0 a1) (laws_FnIdentifiers.f (k + 1) a0 a1) := by
  intro a0 a1 k
  obtain ⟨ih0, ih1⟩ := laws_FnIdentifiers.mono_l k
  unfold laws_FnIdentifiers.f
  repeat' first
      | (with_reducible exact ih0 _ _ _)
      | (with_reducible exact ih1 _ _ _)
      | (with_reducible exact laws_short.mono _ _)
      | (with_reducible exact laws_zzFits1.mono _ _)
      | (with_reducible exact spec_Identifiers.mono _ _ _)
      | (with_reducible exact spec_IdentifiersKnown.mono _ _)
      | (with_reducible exact LeO.refl _)
      | (with_reducible exact LeO.none _)
      | (with_reducible refine LeO.ite ?_ ?_)
      | (with_reducible refine LeO.bind ?_ (fun _ => ?_))
      | exact ih0 _ _ _
      | exact ih1 _ _ _
      | exact laws_short.mono _ _
      | exact laws_zzFits1.mono _ _
      | exact spec_Identifiers.mono _ _ _
      | exact spec_IdentifiersKnown.mono _ _
      | exact LeO.none _
      | refine LeO.ite ?_ ?_
      | refine LeO.bind ?_ (fun _ => ?_)
set_option maxHeartbeats 8000000 in
set_option maxRecDepth 100000 in
theorem laws_FnIdentifiers.calls (k : Nat) (A0 : Option Addr) (c0 : Nat) (l0 : List ByteArray) (A1 : Option Addr) (c1 : Nat) (l1 : List ByteArray) (r : Bool) (w : World) (hr0 : Kd.C Kd.string w A0 l0.length l0) (hc0 : l0.length ≤ c0) (hr1 : Kd.C Kd.string w A1 l1.length l1) (hc1 : l1.length ≤ c1) (hG : GW w) (h : laws_FnIdentifiers.f k l0 l1 = some r) :
    Calls Tryd.prog 4 #[.slice A0 l0.length c0, .slice A1 l1.length c1] w fun e w' => e = .returned (.bool r) ∧ Below w.heap.size w w' := by
  have HG := Aside0.mk hG
  clear hG
  have HR0 := Aside0.mk hr0
  have HC0 := Aside0.mk hc0
  clear hr0 hc0
  have HR1 := Aside0.mk hr1
  have HC1 := Aside0.mk hc1
  clear hr1 hc1
  have HB := Aside0.mk (Below.refl w.heap.size w)
  have H : ((laws_zzFits1.f k l0).bind fun t153 => (if t153 = true then ((laws_zzFits1.f k l1).bind fun t154 => (laws_FnIdentifiers.j0 k l0 l1 (!t154))) else (laws_FnIdentifiers.j0 k l0 l1 true))) = some r := h
  clear h
  have HC3 := Aside0.mk H
  clear H
  go_enter Tryd.func4, Tryd.ntmps4
  go_upto_region 1 with (fail)
  go_cut [13] (fun v13 wc => ∃ (kq : Nat) (x13_2 : Bool), v13 = .bool x13_2 ∧ Aside0 (laws_FnIdentifiers.j0 kq l0 l1 x13_2 = some r) ∧ Aside0 (kq ≤ k) ∧ Aside0 (Below w.heap.size w wc))
  case first =>
    have H := HC3.out
    clear HC3
    replace H := Option.bind_eq_some_iff.mp H
    obtain ⟨t153, A40, H⟩ := H
    replace H : (if t153 = true then ((laws_zzFits1.f k l1).bind fun t154 => (laws_FnIdentifiers.j0 k l0 l1 (!t154))) else (laws_FnIdentifiers.j0 k l0 l1 true)) = some r := H
    have A4 := Aside0.mk A40
    clear A40
    by_cases c5 : t153 = true
    · subst c5
      have H1 : ((laws_zzFits1.f k l1).bind fun t154 => (laws_FnIdentifiers.j0 k l0 l1 (!t154))) = some r := by rw [if_pos rfl] at H; exact H
      clear H
      have H := H1
      clear H1
      replace H := Option.bind_eq_some_iff.mp H
      obtain ⟨t154, A60, H⟩ := H
      replace H : (laws_FnIdentifiers.j0 k l0 l1 (!t154)) = some r := H
      have A6 := Aside0.mk A60
      clear A60
      have H' := Aside0.mk H
      clear H
      go_wp2_with (first | ((with_reducible refine gate_callee (f := 11) rfl ?_); refine goesL_ (some 7) rfl rfl Tryd.func11 (by kernel_rfl) rfl #[.slice A0 l0.length c0] rfl (by (try simp only [List.map_toArray, List.map_cons, List.map_nil]); first | done | rfl | (simp only [List.length_drop, List.length_take]; rfl)) ?_; (with_reducible refine (laws_zzFits1.calls k _ _ l0 true _ ?side1 ?side2 A4.out).mono ?_); (case side1 => repeat (first | exact (Kd.C_below HR0.out HB.out) | (with_reducible refine Kd.C_alloc ?_ _) | (with_reducible refine Kd.C_drewN ?_ _) | (with_reducible refine Kd.C_drew ?_))); (case side2 => exact HC0.out); rintro e w' ⟨rfl, ⟨nd, rfl⟩⟩; refine ⟨_, rfl, ?_⟩) | (go_at_call 11; (with_reducible refine (laws_zzFits1.calls k _ _ l1 t154 _ ?side1 ?side2 A6.out).mono ?_); (case side1 => repeat (first | exact (Kd.C_below HR1.out (by repeat (first | (with_reducible first | exact HB.out | apply below_alloc | apply pw_below_drewN | apply below_drew1) | exact HB.out))) | (with_reducible refine Kd.C_alloc ?_ _) | (with_reducible refine Kd.C_drewN ?_ _) | (with_reducible refine Kd.C_drew ?_))); (case side2 => exact HC1.out); rintro e w' ⟨rfl, ⟨nd, rfl⟩⟩))
      go_meet
      case rel => exact ⟨_, (!t154), (by first | rfl | (simp; done) | (simp [*]; done)), H', ⟨by first | omega | exact Nat.le_refl _⟩, ⟨by repeat (first | (with_reducible first | exact HB.out | apply below_alloc | apply pw_below_drewN | apply below_drew1) | exact HB.out)⟩⟩
    · replace c5 := Bool.eq_false_iff.mpr c5
      subst c5
      have H1 : (laws_FnIdentifiers.j0 k l0 l1 true) = some r := by rw [if_neg (show ¬ (false = true) by decide)] at H; exact H
      clear H
      have H := H1
      clear H1
      have H' := Aside0.mk H
      clear H
      go_wp2_with (first | ((with_reducible refine gate_callee (f := 11) rfl ?_); refine goesL_ (some 7) rfl rfl Tryd.func11 (by kernel_rfl) rfl #[.slice A0 l0.length c0] rfl (by (try simp only [List.map_toArray, List.map_cons, List.map_nil]); first | done | rfl | (simp only [List.length_drop, List.length_take]; rfl)) ?_; (with_reducible refine (laws_zzFits1.calls k _ _ l0 false _ ?side1 ?side2 A4.out).mono ?_); (case side1 => repeat (first | exact (Kd.C_below HR0.out HB.out) | (with_reducible refine Kd.C_alloc ?_ _) | (with_reducible refine Kd.C_drewN ?_ _) | (with_reducible refine Kd.C_drew ?_))); (case side2 => exact HC0.out); rintro e w' ⟨rfl, ⟨nd, rfl⟩⟩; refine ⟨_, rfl, ?_⟩))
      go_meet
      case rel => exact ⟨_, (true), (by first | rfl | (simp; done) | (simp [*]; done)), H', ⟨by first | omega | exact Nat.le_refl _⟩, ⟨by repeat (first | (with_reducible first | exact HB.out | apply below_alloc | apply pw_below_drewN | apply below_drew1) | exact HB.out)⟩⟩
  case rest =>
    clear HC3
    try clear c1
    try clear p2
    try clear c4
    try clear c5
    obtain ⟨kq, x13_2, rfl, HA, HJ2, HB⟩ := hcut
    cases kq with
    | zero => exact absurd HA.out (by simp [laws_FnIdentifiers.j0])
    | succ kj2 =>
      have H := HA.out
      clear HA
      simp only [laws_FnIdentifiers.j0] at H
      by_cases c7 : x13_2 = true
      · subst c7
        have H1 : (some true) = some r := by rw [if_pos rfl] at H; exact H
        clear H
        have H := H1
        clear H1
        obtain rfl := Option.some.inj H
        go_wp2
        go_ret
        exact ⟨by first | rfl | (simp [errW_none, errW_some] <;> rfl) | (simp [*, errW_none, errW_some] <;> rfl), by repeat (first | (with_reducible first | exact HB.out | apply below_alloc | apply pw_below_drewN | apply below_drew1) | exact HB.out)⟩
      · replace c7 := Bool.eq_false_iff.mpr c7
        subst c7
        have H1 : ((laws_short.f kj2 l0).bind fun t155 => (if t155 = true then ((laws_short.f kj2 l1).bind fun t156 => (if t156 = true then ((spec_IdentifiersKnown.f kj2 l0).bind fun t157 => (if t157 = true then ((spec_IdentifiersKnown.f kj2 l1).bind fun t158 => (laws_FnIdentifiers.j1 kj2 l0 l1 (!t158))) else (laws_FnIdentifiers.j1 kj2 l0 l1 true))) else (laws_FnIdentifiers.j1 kj2 l0 l1 true))) else (laws_FnIdentifiers.j1 kj2 l0 l1 true))) = some r := by rw [if_neg (show ¬ (false = true) by decide)] at H; exact H
        clear H
        have H := H1
        clear H1
        have HC8 := Aside0.mk H
        clear H
        go_upto_region 3 with (fail)
        go_cut [31] (fun v31 wc => ∃ (kq : Nat) (x31_7 : Bool), v31 = .bool x31_7 ∧ Aside0 (laws_FnIdentifiers.j1 kq l0 l1 x31_7 = some r) ∧ Aside0 (kq ≤ kj2) ∧ Aside0 (Below w.heap.size w wc))
        case first =>
          have H := HC8.out
          clear HC8
          replace H := Option.bind_eq_some_iff.mp H
          obtain ⟨t155, A90, H⟩ := H
          replace H : (if t155 = true then ((laws_short.f kj2 l1).bind fun t156 => (if t156 = true then ((spec_IdentifiersKnown.f kj2 l0).bind fun t157 => (if t157 = true then ((spec_IdentifiersKnown.f kj2 l1).bind fun t158 => (laws_FnIdentifiers.j1 kj2 l0 l1 (!t158))) else (laws_FnIdentifiers.j1 kj2 l0 l1 true))) else (laws_FnIdentifiers.j1 kj2 l0 l1 true))) else (laws_FnIdentifiers.j1 kj2 l0 l1 true)) = some r := H
          have A9 := Aside0.mk A90
          clear A90
          by_cases c10 : t155 = true
          · subst c10
            have H1 : ((laws_short.f kj2 l1).bind fun t156 => (if t156 = true then ((spec_IdentifiersKnown.f kj2 l0).bind fun t157 => (if t157 = true then ((spec_IdentifiersKnown.f kj2 l1).bind fun t158 => (laws_FnIdentifiers.j1 kj2 l0 l1 (!t158))) else (laws_FnIdentifiers.j1 kj2 l0 l1 true))) else (laws_FnIdentifiers.j1 kj2 l0 l1 true))) = some r := by rw [if_pos rfl] at H; exact H
            clear H
            have H := H1
            clear H1
            replace H := Option.bind_eq_some_iff.mp H
            obtain ⟨t156, A110, H⟩ := H
            replace H : (if t156 = true then ((spec_IdentifiersKnown.f kj2 l0).bind fun t157 => (if t157 = true then ((spec_IdentifiersKnown.f kj2 l1).bind fun t158 => (laws_FnIdentifiers.j1 kj2 l0 l1 (!t158))) else (laws_FnIdentifiers.j1 kj2 l0 l1 true))) else (laws_FnIdentifiers.j1 kj2 l0 l1 true)) = some r := H
            have A11 := Aside0.mk A110
            clear A110
            by_cases c12 : t156 = true
            · subst c12
              have H1 : ((spec_IdentifiersKnown.f kj2 l0).bind fun t157 => (if t157 = true then ((spec_IdentifiersKnown.f kj2 l1).bind fun t158 => (laws_FnIdentifiers.j1 kj2 l0 l1 (!t158))) else (laws_FnIdentifiers.j1 kj2 l0 l1 true))) = some r := by rw [if_pos rfl] at H; exact H
              clear H
              have H := H1
              clear H1
              replace H := Option.bind_eq_some_iff.mp H
              obtain ⟨t157, A130, H⟩ := H
              replace H : (if t157 = true then ((spec_IdentifiersKnown.f kj2 l1).bind fun t158 => (laws_FnIdentifiers.j1 kj2 l0 l1 (!t158))) else (laws_FnIdentifiers.j1 kj2 l0 l1 true)) = some r := H
              have A13 := Aside0.mk A130
              clear A130
              by_cases c14 : t157 = true
              · subst c14
                have H1 : ((spec_IdentifiersKnown.f kj2 l1).bind fun t158 => (laws_FnIdentifiers.j1 kj2 l0 l1 (!t158))) = some r := by rw [if_pos rfl] at H; exact H
                clear H
                have H := H1
                clear H1
                replace H := Option.bind_eq_some_iff.mp H
                obtain ⟨t158, A150, H⟩ := H
                replace H : (laws_FnIdentifiers.j1 kj2 l0 l1 (!t158)) = some r := H
                have A15 := Aside0.mk A150
                clear A150
                have H' := Aside0.mk H
                clear H
                go_wp2_with (first | ((with_reducible refine gate_callee (f := 7) rfl ?_); refine goesL_ (some 15) rfl rfl Tryd.func7 (by kernel_rfl) rfl #[.slice A0 l0.length c0] rfl (by (try simp only [List.map_toArray, List.map_cons, List.map_nil]); first | done | rfl | (simp only [List.length_drop, List.length_take]; rfl)) ?_; (with_reducible refine (laws_short.calls kj2 _ _ l0 true _ ?side1 ?side2 A9.out).mono ?_); (case side1 => repeat (first | exact (Kd.C_below HR0.out HB.out) | (with_reducible refine Kd.C_alloc ?_ _) | (with_reducible refine Kd.C_drewN ?_ _) | (with_reducible refine Kd.C_drew ?_))); (case side2 => exact HC0.out); rintro e w' ⟨rfl, ⟨nd, rfl⟩⟩; refine ⟨_, rfl, ?_⟩) | (go_at_call 7; (with_reducible refine (laws_short.calls kj2 _ _ l1 true _ ?side1 ?side2 A11.out).mono ?_); (case side1 => repeat (first | exact (Kd.C_below HR1.out (by repeat (first | (with_reducible first | exact HB.out | apply below_alloc | apply pw_below_drewN | apply below_drew1) | exact HB.out))) | (with_reducible refine Kd.C_alloc ?_ _) | (with_reducible refine Kd.C_drewN ?_ _) | (with_reducible refine Kd.C_drew ?_))); (case side2 => exact HC1.out); rintro e w' ⟨rfl, ⟨nd, rfl⟩⟩) | (go_at_call 12; (with_reducible refine (spec_IdentifiersKnown.calls kj2 _ _ l0 true _ ?side1 ?side2 A13.out).mono ?_); (case side1 => repeat (first | exact (Kd.C_below HR0.out (by repeat (first | (with_reducible first | exact HB.out | apply below_alloc | apply pw_below_drewN | apply below_drew1) | exact HB.out))) | (with_reducible refine Kd.C_alloc ?_ _) | (with_reducible refine Kd.C_drewN ?_ _) | (with_reducible refine Kd.C_drew ?_))); (case side2 => exact HC0.out); rintro e w' ⟨rfl, ⟨nd, rfl⟩⟩) | (go_at_call 12; (with_reducible refine (spec_IdentifiersKnown.calls kj2 _ _ l1 t158 _ ?side1 ?side2 A15.out).mono ?_); (case side1 => repeat (first | exact (Kd.C_below HR1.out (by repeat (first | (with_reducible first | exact HB.out | apply below_alloc | apply pw_below_drewN | apply below_drew1) | exact HB.out))) | (with_reducible refine Kd.C_alloc ?_ _) | (with_reducible refine Kd.C_drewN ?_ _) | (with_reducible refine Kd.C_drew ?_))); (case side2 => exact HC1.out); rintro e w' ⟨rfl, ⟨nd, rfl⟩⟩))
                go_meet
                case rel => exact ⟨_, (!t158), (by first | rfl | (simp; done) | (simp [*]; done)), H', ⟨by have := HJ2.out; first | omega | exact Nat.le_refl _⟩, ⟨by repeat (first | (with_reducible first | exact HB.out | apply below_alloc | apply pw_below_drewN | apply below_drew1) | exact HB.out)⟩⟩
              · replace c14 := Bool.eq_false_iff.mpr c14
                subst c14
                have H1 : (laws_FnIdentifiers.j1 kj2 l0 l1 true) = some r := by rw [if_neg (show ¬ (false = true) by decide)] at H; exact H
                clear H
                have H := H1
                clear H1
                have H' := Aside0.mk H
                clear H
                go_wp2_with (first | ((with_reducible refine gate_callee (f := 7) rfl ?_); refine goesL_ (some 15) rfl rfl Tryd.func7 (by kernel_rfl) rfl #[.slice A0 l0.length c0] rfl (by (try simp only [List.map_toArray, List.map_cons, List.map_nil]); first | done | rfl | (simp only [List.length_drop, List.length_take]; rfl)) ?_; (with_reducible refine (laws_short.calls kj2 _ _ l0 true _ ?side1 ?side2 A9.out).mono ?_); (case side1 => repeat (first | exact (Kd.C_below HR0.out HB.out) | (with_reducible refine Kd.C_alloc ?_ _) | (with_reducible refine Kd.C_drewN ?_ _) | (with_reducible refine Kd.C_drew ?_))); (case side2 => exact HC0.out); rintro e w' ⟨rfl, ⟨nd, rfl⟩⟩; refine ⟨_, rfl, ?_⟩) | (go_at_call 7; (with_reducible refine (laws_short.calls kj2 _ _ l1 true _ ?side1 ?side2 A11.out).mono ?_); (case side1 => repeat (first | exact (Kd.C_below HR1.out (by repeat (first | (with_reducible first | exact HB.out | apply below_alloc | apply pw_below_drewN | apply below_drew1) | exact HB.out))) | (with_reducible refine Kd.C_alloc ?_ _) | (with_reducible refine Kd.C_drewN ?_ _) | (with_reducible refine Kd.C_drew ?_))); (case side2 => exact HC1.out); rintro e w' ⟨rfl, ⟨nd, rfl⟩⟩) | (go_at_call 12; (with_reducible refine (spec_IdentifiersKnown.calls kj2 _ _ l0 false _ ?side1 ?side2 A13.out).mono ?_); (case side1 => repeat (first | exact (Kd.C_below HR0.out (by repeat (first | (with_reducible first | exact HB.out | apply below_alloc | apply pw_below_drewN | apply below_drew1) | exact HB.out))) | (with_reducible refine Kd.C_alloc ?_ _) | (with_reducible refine Kd.C_drewN ?_ _) | (with_reducible refine Kd.C_drew ?_))); (case side2 => exact HC0.out); rintro e w' ⟨rfl, ⟨nd, rfl⟩⟩))
                go_meet
                case rel => exact ⟨_, (true), (by first | rfl | (simp; done) | (simp [*]; done)), H', ⟨by have := HJ2.out; first | omega | exact Nat.le_refl _⟩, ⟨by repeat (first | (with_reducible first | exact HB.out | apply below_alloc | apply pw_below_drewN | apply below_drew1) | exact HB.out)⟩⟩
            · replace c12 := Bool.eq_false_iff.mpr c12
              subst c12
              have H1 : (laws_FnIdentifiers.j1 kj2 l0 l1 true) = some r := by rw [if_neg (show ¬ (false = true) by decide)] at H; exact H
              clear H
              have H := H1
              clear H1
              have H' := Aside0.mk H
              clear H
              go_wp2_with (first | ((with_reducible refine gate_callee (f := 7) rfl ?_); refine goesL_ (some 15) rfl rfl Tryd.func7 (by kernel_rfl) rfl #[.slice A0 l0.length c0] rfl (by (try simp only [List.map_toArray, List.map_cons, List.map_nil]); first | done | rfl | (simp only [List.length_drop, List.length_take]; rfl)) ?_; (with_reducible refine (laws_short.calls kj2 _ _ l0 true _ ?side1 ?side2 A9.out).mono ?_); (case side1 => repeat (first | exact (Kd.C_below HR0.out HB.out) | (with_reducible refine Kd.C_alloc ?_ _) | (with_reducible refine Kd.C_drewN ?_ _) | (with_reducible refine Kd.C_drew ?_))); (case side2 => exact HC0.out); rintro e w' ⟨rfl, ⟨nd, rfl⟩⟩; refine ⟨_, rfl, ?_⟩) | (go_at_call 7; (with_reducible refine (laws_short.calls kj2 _ _ l1 false _ ?side1 ?side2 A11.out).mono ?_); (case side1 => repeat (first | exact (Kd.C_below HR1.out (by repeat (first | (with_reducible first | exact HB.out | apply below_alloc | apply pw_below_drewN | apply below_drew1) | exact HB.out))) | (with_reducible refine Kd.C_alloc ?_ _) | (with_reducible refine Kd.C_drewN ?_ _) | (with_reducible refine Kd.C_drew ?_))); (case side2 => exact HC1.out); rintro e w' ⟨rfl, ⟨nd, rfl⟩⟩))
              go_meet
              case rel => exact ⟨_, (true), (by first | rfl | (simp; done) | (simp [*]; done)), H', ⟨by have := HJ2.out; first | omega | exact Nat.le_refl _⟩, ⟨by repeat (first | (with_reducible first | exact HB.out | apply below_alloc | apply pw_below_drewN | apply below_drew1) | exact HB.out)⟩⟩
          · replace c10 := Bool.eq_false_iff.mpr c10
            subst c10
            have H1 : (laws_FnIdentifiers.j1 kj2 l0 l1 true) = some r := by rw [if_neg (show ¬ (false = true) by decide)] at H; exact H
            clear H
            have H := H1
            clear H1
            have H' := Aside0.mk H
            clear H
            go_wp2_with (first | ((with_reducible refine gate_callee (f := 7) rfl ?_); refine goesL_ (some 15) rfl rfl Tryd.func7 (by kernel_rfl) rfl #[.slice A0 l0.length c0] rfl (by (try simp only [List.map_toArray, List.map_cons, List.map_nil]); first | done | rfl | (simp only [List.length_drop, List.length_take]; rfl)) ?_; (with_reducible refine (laws_short.calls kj2 _ _ l0 false _ ?side1 ?side2 A9.out).mono ?_); (case side1 => repeat (first | exact (Kd.C_below HR0.out HB.out) | (with_reducible refine Kd.C_alloc ?_ _) | (with_reducible refine Kd.C_drewN ?_ _) | (with_reducible refine Kd.C_drew ?_))); (case side2 => exact HC0.out); rintro e w' ⟨rfl, ⟨nd, rfl⟩⟩; refine ⟨_, rfl, ?_⟩))
            go_meet
            case rel => exact ⟨_, (true), (by first | rfl | (simp; done) | (simp [*]; done)), H', ⟨by have := HJ2.out; first | omega | exact Nat.le_refl _⟩, ⟨by repeat (first | (with_reducible first | exact HB.out | apply below_alloc | apply pw_below_drewN | apply below_drew1) | exact HB.out)⟩⟩
        case rest =>
          clear HC8
          try clear c1
          try clear p2
          try clear c4
          try clear c5
          try clear c7
          try clear c10
          try clear c11
          try clear c12
          try clear c14
          try clear p2
          obtain ⟨kq, x31_7, rfl, HA, HJ7, HB⟩ := hcut
          cases kq with
          | zero => exact absurd HA.out (by simp [laws_FnIdentifiers.j1])
          | succ kj7 =>
            have H := HA.out
            clear HA
            simp only [laws_FnIdentifiers.j1] at H
            by_cases c16 : x31_7 = true
            · subst c16
              have H1 : (some true) = some r := by rw [if_pos rfl] at H; exact H
              clear H
              have H := H1
              clear H1
              obtain rfl := Option.some.inj H
              go_wp2
              go_ret
              exact ⟨by first | rfl | (simp [errW_none, errW_some] <;> rfl) | (simp [*, errW_none, errW_some] <;> rfl), by repeat (first | (with_reducible first | exact HB.out | apply below_alloc | apply pw_below_drewN | apply below_drew1) | exact HB.out)⟩
            · replace c16 := Bool.eq_false_iff.mpr c16
              subst c16
              have H1 : ((impl_Identifiers.f l0 l1).bind fun t159 => ((spec_Identifiers.f kj7 l0 l1).bind fun t160 => (if t159 = t160 then ((impl_Identifiers.f l1 l0).bind fun t161 => ((laws_turned.f t159 t161).bind fun t162 => (some t162))) else (some false)))) = some r := by rw [if_neg (show ¬ (false = true) by decide)] at H; exact H
              clear H
              have H := H1
              clear H1
              replace H := Option.bind_eq_some_iff.mp H
              obtain ⟨t159, A170, H⟩ := H
              replace H : ((spec_Identifiers.f kj7 l0 l1).bind fun t160 => (if t159 = t160 then ((impl_Identifiers.f l1 l0).bind fun t161 => ((laws_turned.f t159 t161).bind fun t162 => (some t162))) else (some false))) = some r := H
              have A17 := Aside0.mk A170
              clear A170
              replace H := Option.bind_eq_some_iff.mp H
              obtain ⟨t160, A180, H⟩ := H
              replace H : (if t159 = t160 then ((impl_Identifiers.f l1 l0).bind fun t161 => ((laws_turned.f t159 t161).bind fun t162 => (some t162))) else (some false)) = some r := H
              have A18 := Aside0.mk A180
              clear A180
              by_cases c19 : t159 = t160
              · rw [if_pos c19] at H
                have c19b0 : (t159 == t160) = true := beq_iff_eq.mpr c19
                have c19b1 : (t159 != t160) = false := bne_eq_false_iff_eq.mpr c19
                clear c19
                replace H := Option.bind_eq_some_iff.mp H
                obtain ⟨t161, A200, H⟩ := H
                replace H : ((laws_turned.f t159 t161).bind fun t162 => (some t162)) = some r := H
                have A20 := Aside0.mk A200
                clear A200
                replace H := Option.bind_eq_some_iff.mp H
                obtain ⟨t162, A210, H⟩ := H
                replace H : (some t162) = some r := H
                have A21 := Aside0.mk A210
                clear A210
                obtain rfl := Option.some.inj H
                go_wp2_with (first | ((with_reducible refine gate_callee (f := 13) rfl ?_); refine goesL_ (some 34) rfl rfl Tryd.func13 (by kernel_rfl) rfl #[.slice A0 l0.length c0, .slice A1 l1.length c1] rfl (by (try simp only [List.map_toArray, List.map_cons, List.map_nil]); first | done | rfl | (simp only [List.length_drop, List.length_take]; rfl)) ?_; (with_reducible refine (impl_Identifiers.calls _ _ l0 _ _ l1 t159 _ ?side1 ?side2 ?side3 ?side4 ?side5 A17.out).mono ?_); (case side1 => repeat (first | exact (Kd.C_below HR0.out HB.out) | (with_reducible refine Kd.C_alloc ?_ _) | (with_reducible refine Kd.C_drewN ?_ _) | (with_reducible refine Kd.C_drew ?_))); (case side2 => exact HC0.out); (case side3 => repeat (first | exact (Kd.C_below HR1.out HB.out) | (with_reducible refine Kd.C_alloc ?_ _) | (with_reducible refine Kd.C_drewN ?_ _) | (with_reducible refine Kd.C_drew ?_))); (case side4 => exact HC1.out); (case side5 => first | exact HG.out | exact GW.below HG.out (by repeat (first | (with_reducible first | exact HB.out | exact Below.refl _ _ | apply below_alloc | apply pw_below_drewN | apply below_drew1 | apply below_drew | refine below_set ?_ (Aside0.out (by assumption))) | exact HB.out))); rintro e w22 ⟨rfl, hb⟩; refine ⟨_, rfl, ?_⟩; have n0_ := Aside0.mk (below_step (by repeat (first | (with_reducible first | exact HB.out | apply below_alloc | apply pw_below_drewN | apply below_drew1) | exact HB.out)) hb); clear HB; have HB := n0_; clear n0_; (try clear hb); (try clear hb2); (try clear hk); (try clear hi)) | ((with_reducible refine gate_callee (f := 14) rfl ?_); refine goesL_ (some 38) rfl rfl Tryd.func14 (by kernel_rfl) rfl #[.slice A0 l0.length c0, .slice A1 l1.length c1] rfl (by (try simp only [List.map_toArray, List.map_cons, List.map_nil]); first | done | rfl | (simp only [List.length_drop, List.length_take]; rfl)) ?_; (with_reducible refine (spec_Identifiers.calls kj7 _ _ l0 _ _ l1 t160 _ ?side1 ?side2 ?side3 ?side4 A18.out).mono ?_); (case side1 => repeat (first | exact (Kd.C_below HR0.out HB.out) | (with_reducible refine Kd.C_alloc ?_ _) | (with_reducible refine Kd.C_drewN ?_ _) | (with_reducible refine Kd.C_drew ?_))); (case side2 => exact HC0.out); (case side3 => repeat (first | exact (Kd.C_below HR1.out HB.out) | (with_reducible refine Kd.C_alloc ?_ _) | (with_reducible refine Kd.C_drewN ?_ _) | (with_reducible refine Kd.C_drew ?_))); (case side4 => exact HC1.out); rintro e w' ⟨rfl, ⟨nd, rfl⟩⟩; refine ⟨_, rfl, ?_⟩) | (go_at_call 13; (with_reducible refine (impl_Identifiers.calls _ _ l1 _ _ l0 t161 _ ?side1 ?side2 ?side3 ?side4 ?side5 A20.out).mono ?_); (case side1 => repeat (first | exact (Kd.C_below HR1.out (by repeat (first | (with_reducible first | exact HB.out | apply below_alloc | apply pw_below_drewN | apply below_drew1) | exact HB.out))) | (with_reducible refine Kd.C_alloc ?_ _) | (with_reducible refine Kd.C_drewN ?_ _) | (with_reducible refine Kd.C_drew ?_))); (case side2 => exact HC1.out); (case side3 => repeat (first | exact (Kd.C_below HR0.out (by repeat (first | (with_reducible first | exact HB.out | apply below_alloc | apply pw_below_drewN | apply below_drew1) | exact HB.out))) | (with_reducible refine Kd.C_alloc ?_ _) | (with_reducible refine Kd.C_drewN ?_ _) | (with_reducible refine Kd.C_drew ?_))); (case side4 => exact HC0.out); (case side5 => first | exact HG.out | exact GW.below HG.out (by repeat (first | (with_reducible first | exact HB.out | exact Below.refl _ _ | apply below_alloc | apply pw_below_drewN | apply below_drew1 | apply below_drew | refine below_set ?_ (Aside0.out (by assumption))) | exact HB.out))); rintro e w23 ⟨rfl, hb⟩; have n0_ := Aside0.mk (below_step (by repeat (first | (with_reducible first | exact HB.out | apply below_alloc | apply pw_below_drewN | apply below_drew1) | exact HB.out)) hb); clear HB; have HB := n0_; clear n0_; (try clear hb); (try clear hb2); (try clear hk); (try clear hi)) | (go_at_call 15; (with_reducible refine (laws_turned.calls t159 t161 t162 _ A21.out).mono ?_); rintro e w' ⟨rfl, ⟨nd, rfl⟩⟩))
                go_ret
                exact ⟨by first | rfl | (simp [errW_none, errW_some] <;> rfl) | (simp [*, errW_none, errW_some] <;> rfl), by repeat (first | (with_reducible first | exact HB.out | apply below_alloc | apply pw_below_drewN | apply below_drew1) | exact HB.out)⟩
              · rw [if_neg c19] at H
                have c19b0 : (t159 == t160) = false := beq_eq_false_iff_ne.mpr c19
                have c19b1 : (t159 != t160) = true := bne_iff_ne.mpr c19
                obtain rfl := Option.some.inj H
                go_wp2_with (first | ((with_reducible refine gate_callee (f := 13) rfl ?_); refine goesL_ (some 34) rfl rfl Tryd.func13 (by kernel_rfl) rfl #[.slice A0 l0.length c0, .slice A1 l1.length c1] rfl (by (try simp only [List.map_toArray, List.map_cons, List.map_nil]); first | done | rfl | (simp only [List.length_drop, List.length_take]; rfl)) ?_; (with_reducible refine (impl_Identifiers.calls _ _ l0 _ _ l1 t159 _ ?side1 ?side2 ?side3 ?side4 ?side5 A17.out).mono ?_); (case side1 => repeat (first | exact (Kd.C_below HR0.out HB.out) | (with_reducible refine Kd.C_alloc ?_ _) | (with_reducible refine Kd.C_drewN ?_ _) | (with_reducible refine Kd.C_drew ?_))); (case side2 => exact HC0.out); (case side3 => repeat (first | exact (Kd.C_below HR1.out HB.out) | (with_reducible refine Kd.C_alloc ?_ _) | (with_reducible refine Kd.C_drewN ?_ _) | (with_reducible refine Kd.C_drew ?_))); (case side4 => exact HC1.out); (case side5 => first | exact HG.out | exact GW.below HG.out (by repeat (first | (with_reducible first | exact HB.out | exact Below.refl _ _ | apply below_alloc | apply pw_below_drewN | apply below_drew1 | apply below_drew | refine below_set ?_ (Aside0.out (by assumption))) | exact HB.out))); rintro e w24 ⟨rfl, hb⟩; refine ⟨_, rfl, ?_⟩; have n0_ := Aside0.mk (below_step (by repeat (first | (with_reducible first | exact HB.out | apply below_alloc | apply pw_below_drewN | apply below_drew1) | exact HB.out)) hb); clear HB; have HB := n0_; clear n0_; (try clear hb); (try clear hb2); (try clear hk); (try clear hi)) | ((with_reducible refine gate_callee (f := 14) rfl ?_); refine goesL_ (some 38) rfl rfl Tryd.func14 (by kernel_rfl) rfl #[.slice A0 l0.length c0, .slice A1 l1.length c1] rfl (by (try simp only [List.map_toArray, List.map_cons, List.map_nil]); first | done | rfl | (simp only [List.length_drop, List.length_take]; rfl)) ?_; (with_reducible refine (spec_Identifiers.calls kj7 _ _ l0 _ _ l1 t160 _ ?side1 ?side2 ?side3 ?side4 A18.out).mono ?_); (case side1 => repeat (first | exact (Kd.C_below HR0.out HB.out) | (with_reducible refine Kd.C_alloc ?_ _) | (with_reducible refine Kd.C_drewN ?_ _) | (with_reducible refine Kd.C_drew ?_))); (case side2 => exact HC0.out); (case side3 => repeat (first | exact (Kd.C_below HR1.out HB.out) | (with_reducible refine Kd.C_alloc ?_ _) | (with_reducible refine Kd.C_drewN ?_ _) | (with_reducible refine Kd.C_drew ?_))); (case side4 => exact HC1.out); rintro e w' ⟨rfl, ⟨nd, rfl⟩⟩; refine ⟨_, rfl, ?_⟩))
                go_ret
                exact ⟨by first | rfl | (simp [errW_none, errW_some] <;> rfl) | (simp [*, errW_none, errW_some] <;> rfl), by repeat (first | (with_reducible first | exact HB.out | apply below_alloc | apply pw_below_drewN | apply below_drew1) | exact HB.out)⟩

/-- THE ONE PURE STATEMENT of laws_FnIdentifiers. -/
def laws_FnIdentifiers.Pure : Prop := ∀ (l0 : List ByteArray) (l1 : List ByteArray), l0.length ≤ 9223372036854775807 → l1.length ≤ 9223372036854775807 → ∃ k, laws_FnIdentifiers.f k l0 l1 = some true
theorem laws_FnIdentifiers.walk (P : laws_FnIdentifiers.Pure) (A0 : Option Addr) (c0 : Nat) (l0 : List ByteArray) (A1 : Option Addr) (c1 : Nat) (l1 : List ByteArray) (w : World) (hm0 : l0.length ≤ 9223372036854775807) (hm1 : l1.length ≤ 9223372036854775807) (hr0 : Kd.C Kd.string w A0 l0.length l0) (hc0 : l0.length ≤ c0) (hr1 : Kd.C Kd.string w A1 l1.length l1) (hc1 : l1.length ≤ c1) (hG : GW w) :
    Calls Tryd.prog 4 #[.slice A0 l0.length c0, .slice A1 l1.length c1] w fun e w' => e = .returned (.bool true) ∧ Below w.heap.size w w' := by
  obtain ⟨k, h⟩ := P l0 l1 hm0 hm1
  refine (laws_FnIdentifiers.calls k _ _ l0 _ _ l1 true w hr0 hc0 hr1 hc1 hG h).mono ?_
  rintro e w' ⟨rfl, hd⟩
  exact ⟨rfl, hd⟩

end Go.Proofs.YtnbokeodgendkaaDoor.Z
