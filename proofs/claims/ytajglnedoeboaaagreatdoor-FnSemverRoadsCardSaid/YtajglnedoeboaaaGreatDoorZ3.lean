-- Written by a program of this session (myprint.py).
import Derived.Test.YtajglnedoeboaaaGreatDoorZ0
import Derived.Test.YtajglnedoeboaaaGreatDoorZ2
import Derived.Test.YtajglnedoeboaaaGreatDoorGe
namespace Go.Proofs.YtajglnedoeboaaaGreatDoor.Z
open Go.Proofs.YtajglnedoeboaaaGreatDoor.Gw
open Go.RowKit Go.Proofs.YtajglnedoeboaaaGreatDoorW.PrintWords Go.Proofs.YtajglnedoeboaaaGreatDoorW.PrintLast Go.Proofs.YtajglnedoeboaaaGreatDoorW.PrintMore
attribute [local go_sem high] Go.Proofs.YtajglnedoeboaaaGreatDoor.Ge.gtr_str
attribute [local go_sem] max2_int min2_int max_two min_two max_three min_three max_four min_four   -- for this text's walks alone
set_option linter.unusedVariables false
set_option linter.unusedSimpArgs false

/-! ### spec_likeIdentifiers: function 56 -/
mutual
def spec_likeIdentifiers.j0 : Nat → ByteArray → Option (List ByteArray)
  | 0, _ => none
  | k + 1, x0 => if x0.toList = ([] : List UInt8) then (spec_likeIdentifiers.j1 k x0 false) else (if 0 < (x0.size : Int) then (spec_likeIdentifiers.j1 k x0 ((bt x0 0) == 45)) else (none))
def spec_likeIdentifiers.j1 : Nat → ByteArray → Bool → Option (List ByteArray)
  | 0, _, _ => none
  | k + 1, x0, x17 => if x17 = true then (if 1 ≤ (x0.size : Int) then (if (x0.extract 1 x0.size).toList = ([] : List UInt8) then (some ([] : List ByteArray)) else ((spec_cut_isPoint.f k (x0.extract 1 x0.size) 72).bind fun t130 => (some t130))) else (none)) else (if x0.toList = ([] : List UInt8) then (some ([] : List ByteArray)) else ((spec_cut_isPoint.f k x0 72).bind fun t133 => (some t133)))
end
def spec_likeIdentifiers.f (k : Nat) (a0 : ByteArray) : Option (List ByteArray) := (spec_indexOf.f k a0 43).bind fun t129 => (if t129 ≥ 0 then (if 0 ≤ t129 then (if t129 ≤ (a0.size : Int) then (spec_likeIdentifiers.j0 k (a0.extract 0 (t129 : Int).toNat)) else (none)) else (none)) else (spec_likeIdentifiers.j0 k a0))
theorem spec_likeIdentifiers.mono_l : ∀ k, (∀ y0, LeO (spec_likeIdentifiers.j0 k y0) (spec_likeIdentifiers.j0 (k + 1) y0)) ∧ (∀ y0 y1, LeO (spec_likeIdentifiers.j1 k y0 y1) (spec_likeIdentifiers.j1 (k + 1) y0 y1))
  | 0 => ⟨fun _ r h => by simp [spec_likeIdentifiers.j0] at h, fun _ _ r h => by simp [spec_likeIdentifiers.j1] at h⟩
  | k + 1 => by
    obtain ⟨ih0, ih1⟩ := spec_likeIdentifiers.mono_l k
    refine ⟨?_, ?_⟩
    · intro y0
      unfold spec_likeIdentifiers.j0
      repeat' first
      | (with_reducible exact ih0 _)
      | (with_reducible exact ih1 _ _)
      | (with_reducible exact spec_cut_isPoint.mono _ _ _)
      | (with_reducible exact spec_indexOf.mono _ _ _)
      | (with_reducible exact LeO.refl _)
      | (with_reducible exact LeO.none _)
      | (with_reducible refine LeO.ite ?_ ?_)
      | (with_reducible refine LeO.bind ?_ (fun _ => ?_))
      | exact ih0 _
      | exact ih1 _ _
      | exact spec_cut_isPoint.mono _ _ _
      | exact spec_indexOf.mono _ _ _
      | exact LeO.none _
      | refine LeO.ite ?_ ?_
      | refine LeO.bind ?_ (fun _ => ?_)
    · intro y0 y1
      unfold spec_likeIdentifiers.j1
      repeat' first
      | (with_reducible exact ih0 _)
      | (with_reducible exact ih1 _ _)
      | (with_reducible exact spec_cut_isPoint.mono _ _ _)
      | (with_reducible exact spec_indexOf.mono _ _ _)
      | (with_reducible exact LeO.refl _)
      | (with_reducible exact LeO.none _)
      | (with_reducible refine LeO.ite ?_ ?_)
      | (with_reducible refine LeO.bind ?_ (fun _ => ?_))
      | exact ih0 _
      | exact ih1 _ _
      | exact spec_cut_isPoint.mono _ _ _
      | exact spec_indexOf.mono _ _ _
      | exact LeO.none _
      | refine LeO.ite ?_ ?_
      | refine LeO.bind ?_ (fun _ => ?_)
theorem spec_likeIdentifiers.mono : ∀ a0 k, LeO (spec_likeIdentifiers.f k a0) (spec_likeIdentifiers.f (k + 1) a0) := by
  intro a0 k
  obtain ⟨ih0, ih1⟩ := spec_likeIdentifiers.mono_l k
  unfold spec_likeIdentifiers.f
  repeat' first
      | (with_reducible exact ih0 _)
      | (with_reducible exact ih1 _ _)
      | (with_reducible exact spec_cut_isPoint.mono _ _ _)
      | (with_reducible exact spec_indexOf.mono _ _ _)
      | (with_reducible exact LeO.refl _)
      | (with_reducible exact LeO.none _)
      | (with_reducible refine LeO.ite ?_ ?_)
      | (with_reducible refine LeO.bind ?_ (fun _ => ?_))
      | exact ih0 _
      | exact ih1 _ _
      | exact spec_cut_isPoint.mono _ _ _
      | exact spec_indexOf.mono _ _ _
      | exact LeO.none _
      | refine LeO.ite ?_ ?_
      | refine LeO.bind ?_ (fun _ => ?_)
set_option maxHeartbeats 8000000 in
set_option maxRecDepth 100000 in
theorem spec_likeIdentifiers.calls (k : Nat) (a0 : ByteArray) (r : List ByteArray) (w : World) (h : spec_likeIdentifiers.f k a0 = some r) :
    Calls Tryz.prog 56 #[.string a0] w fun e w' => ∃ v0_ : Value, e = .returned (v0_) ∧ Kd.R Kd.string 9 w' w.heap.size (fun _ => True) v0_ r ∧ Below w.heap.size w w' := by
  have HB := Aside0.mk (Below.refl w.heap.size w)
  have H : ((spec_indexOf.f k a0 43).bind fun t129 => (if t129 ≥ 0 then (if 0 ≤ t129 then (if t129 ≤ (a0.size : Int) then (spec_likeIdentifiers.j0 k (a0.extract 0 (t129 : Int).toNat)) else (none)) else (none)) else (spec_likeIdentifiers.j0 k a0))) = some r := h
  clear h
  replace H := Option.bind_eq_some_iff.mp H
  obtain ⟨t129, A20, H⟩ := H
  replace H : (if t129 ≥ 0 then (if 0 ≤ t129 then (if t129 ≤ (a0.size : Int) then (spec_likeIdentifiers.j0 k (a0.extract 0 (t129 : Int).toNat)) else (none)) else (none)) else (spec_likeIdentifiers.j0 k a0)) = some r := H
  have A2 := Aside0.mk A20
  clear A20
  have HC3 := Aside0.mk H
  clear H
  go_enter Tryz.func56, Tryz.ntmps56
  go_upto_if 7 with (first | ((with_reducible refine gate_callee (f := 44) rfl ?_); refine goesL_ (some 5) rfl rfl Tryz.func44 (by kernel_rfl) rfl #[.string a0, .int .u8 43] rfl (by (try simp only [List.map_toArray, List.map_cons, List.map_nil]); first | done | rfl | (simp only [List.length_drop, List.length_take]; rfl)) ?_; (with_reducible refine (spec_indexOf.calls k a0 43 t129 _ A2.out).mono ?_); rintro e w' ⟨rfl, ⟨nd, rfl⟩⟩; refine ⟨_, rfl, ?_⟩))
  (try simp only [Act.put, List.setIfInBounds_toArray, List.set_cons_zero, List.set_cons_succ])
  go_cut [0] (fun v0 wc => ∃ (kq : Nat) (x0_2 : ByteArray), v0 = .string x0_2 ∧ Aside0 (spec_likeIdentifiers.j0 kq x0_2 = some r) ∧ Aside0 (kq ≤ k) ∧ Aside0 (Below w.heap.size w wc))
  case first =>
    have H := HC3.out
    clear HC3
    by_cases c4 : t129 ≥ 0
    · rw [if_pos c4] at H
      have c4b0 : decide (0 ≤ t129) = true := decide_eq_true c4
      clear c4
      (first | rw [c4b0] | (simp only [i64_w, i32_w]; rw [c4b0]) | skip)
      by_cases c5 : 0 ≤ t129
      · rw [if_pos c5] at H
        have c5b0 := eq_true c5
        have c5b1 : decide (0 ≤ t129) = true := decide_eq_true c5
        clear c5
        by_cases c6 : t129 ≤ (a0.size : Int)
        · rw [if_pos c6] at H
          have c6b0 := eq_true c6
          have c6b1 : decide (t129 ≤ (a0.size : Int)) = true := decide_eq_true c6
          clear c6
          have H' := Aside0.mk H
          clear H
          go_wp2
          go_meet
          case rel => exact ⟨_, (a0.extract 0 (t129 : Int).toNat), (by first | rfl | (simp; done) | (simp [*]; done)), H', ⟨by first | omega | exact Nat.le_refl _⟩, ⟨by repeat (first | (with_reducible first | exact HB.out | apply below_alloc | apply pw_below_drewN | apply below_drew1) | exact HB.out)⟩⟩
        · rw [if_neg c6] at H
          exact absurd H (by simp)
      · rw [if_neg c5] at H
        exact absurd H (by simp)
    · rw [if_neg c4] at H
      have c4b0 : decide (0 ≤ t129) = false := decide_eq_false c4
      clear c4
      (first | rw [c4b0] | (simp only [i64_w, i32_w]; rw [c4b0]) | skip)
      have H' := Aside0.mk H
      clear H
      go_wp2
      go_meet
      case rel => exact ⟨_, (a0), (by first | rfl | (simp; done) | (simp [*]; done)), H', ⟨by first | omega | exact Nat.le_refl _⟩, ⟨by repeat (first | (with_reducible first | exact HB.out | apply below_alloc | apply pw_below_drewN | apply below_drew1) | exact HB.out)⟩⟩
  case rest =>
    clear HC3
    try clear p2
    try clear c4
    try clear c4b0
    try clear c5
    try clear c5b0
    try clear c5b1
    try clear c6
    try clear c6b0
    try clear c6b1
    obtain ⟨kq, x0_2, rfl, HA, HJ2, HB⟩ := hcut
    cases kq with
    | zero => exact absurd HA.out (by simp [spec_likeIdentifiers.j0])
    | succ kj2 =>
      have H := HA.out
      clear HA
      simp only [spec_likeIdentifiers.j0] at H
      have HC7 := Aside0.mk H
      clear H
      go_upto_region 4 with (fail)
      go_cut [17] (fun v17 wc => ∃ (kq : Nat) (x17_6 : Bool), v17 = .bool x17_6 ∧ Aside0 (spec_likeIdentifiers.j1 kq x0_2 x17_6 = some r) ∧ Aside0 (kq ≤ kj2) ∧ Aside0 (Below w.heap.size w wc))
      case first =>
        have H := HC7.out
        clear HC7
        by_cases c8 : x0_2.toList = ([] : List UInt8)
        · rw [if_pos c8] at H
          have c8b0 : (x0_2.toList.isEmpty) = true := by simpa using c8
          have c8b1 : (!x0_2.toList.isEmpty) = false := by simpa using c8
          clear c8
          (first | rw [c8b0] | (simp only [i64_w, i32_w]; rw [c8b0]) | skip)
          have H' := Aside0.mk H
          clear H
          go_wp2
          go_meet
          case rel => exact ⟨_, (false), (by first | rfl | (simp; done) | (simp [*]; done)), H', ⟨by have := HJ2.out; first | omega | exact Nat.le_refl _⟩, ⟨by repeat (first | (with_reducible first | exact HB.out | apply below_alloc | apply pw_below_drewN | apply below_drew1) | exact HB.out)⟩⟩
        · rw [if_neg c8] at H
          have c8b0 : (x0_2.toList.isEmpty) = false := by simpa using c8
          have c8b1 : (!x0_2.toList.isEmpty) = true := by simpa using c8
          (first | rw [c8b0] | (simp only [i64_w, i32_w]; rw [c8b0]) | skip)
          by_cases c9 : 0 < (x0_2.size : Int)
          · rw [if_pos c9] at H
            have c9b0 : decide (0 < (x0_2.size : Int)) = true := decide_eq_true c9
            have c9b1 : decide (0 < x0_2.size) = true := decide_eq_true (by omega)
            clear c9
            have H' := Aside0.mk H
            clear H
            have p10 : 0 ≤ (0 : Int) := (by omega)
            have q10 : 0 < x0_2.size := (by have : (0 : Int) < (x0_2.size : Int) := of_decide_eq_true (by first | (with_reducible assumption) | assumption); omega)
            have hx10 : ∀ h : 0 < x0_2.size, ((x0_2[0]'h).toNat : Int) = bt x0_2 0 := bt_at x0_2 0
            clear p10
            have qi10 : (0 < (x0_2.size : Int)) = True := eq_true (of_decide_eq_true (by first | (with_reducible assumption) | assumption))
            replace q10 := eq_true q10
            go_wp2
            go_meet
            case rel => exact ⟨_, (((bt x0_2 0) == 45)), (by first | rfl | (simp; done) | (simp [*]; done)), H', ⟨by have := HJ2.out; first | omega | exact Nat.le_refl _⟩, ⟨by repeat (first | (with_reducible first | exact HB.out | apply below_alloc | apply pw_below_drewN | apply below_drew1) | exact HB.out)⟩⟩
          · rw [if_neg c9] at H
            exact absurd H (by simp)
      case rest =>
        clear HC7
        try clear p1
        try clear q1
        try clear hx1
        try clear qi1
        try clear p2
        try clear c4
        try clear c4b0
        try clear c5
        try clear c5b0
        try clear c5b1
        try clear c6
        try clear c6b0
        try clear c6b1
        try clear c8
        try clear c8b0
        try clear c8b1
        try clear c9
        try clear c9b0
        try clear c9b1
        try clear p10
        try clear q10
        try clear hx10
        try clear qi10
        try clear p10
        try clear p2
        try clear q10
        obtain ⟨kq, x17_6, rfl, HA, HJ6, HB⟩ := hcut
        cases kq with
        | zero => exact absurd HA.out (by simp [spec_likeIdentifiers.j1])
        | succ kj6 =>
          have H := HA.out
          clear HA
          simp only [spec_likeIdentifiers.j1] at H
          by_cases c11 : x17_6 = true
          · subst c11
            have H1 : (if 1 ≤ (x0_2.size : Int) then (if (x0_2.extract 1 x0_2.size).toList = ([] : List UInt8) then (some ([] : List ByteArray)) else ((spec_cut_isPoint.f kj6 (x0_2.extract 1 x0_2.size) 72).bind fun t130 => (some t130))) else (none)) = some r := by rw [if_pos rfl] at H; exact H
            clear H
            have H := H1
            clear H1
            by_cases c12 : 1 ≤ (x0_2.size : Int)
            · rw [if_pos c12] at H
              have c12b0 := eq_true c12
              have c12b1 : decide (1 ≤ (x0_2.size : Int)) = true := decide_eq_true c12
              clear c12
              by_cases c13 : (x0_2.extract 1 x0_2.size).toList = ([] : List UInt8)
              · rw [if_pos c13] at H
                have c13b0 : ((x0_2.extract 1 x0_2.size).toList == ([] : List UInt8)) = true := beq_iff_eq.mpr c13
                have c13b1 : ((x0_2.extract 1 x0_2.size).toList != ([] : List UInt8)) = false := bne_eq_false_iff_eq.mpr c13
                clear c13
                obtain rfl := Option.some.inj H
                go_wp2
                go_ret
                exact ⟨_, by first | rfl | (simp [errW_none, errW_some] <;> rfl) | (simp [*, errW_none, errW_some] <;> rfl), by first | exact Kd.R_nil _ _ _ _ _ | exact Kd.N_nil _ _ _ _ _ | exact Kd.V_nil _ _ _ _ _ | exact Kd.Q_nil _ _ _ _ _ | exact Kd.S_nil _ _ _ _ _, by repeat (first | (with_reducible first | exact HB.out | apply below_alloc | apply pw_below_drewN | apply below_drew1) | exact HB.out)⟩
              · rw [if_neg c13] at H
                have c13b0 : ((x0_2.extract 1 x0_2.size).toList == ([] : List UInt8)) = false := beq_eq_false_iff_ne.mpr c13
                have c13b1 : ((x0_2.extract 1 x0_2.size).toList != ([] : List UInt8)) = true := bne_iff_ne.mpr c13
                replace H := Option.bind_eq_some_iff.mp H
                obtain ⟨t130, A140, H⟩ := H
                replace H : (some t130) = some r := H
                have A14 := Aside0.mk A140
                clear A140
                obtain rfl := Option.some.inj H
                go_wp2_with (first | ((with_reducible refine gate_callee (f := 71) rfl ?_); refine goesL_ (some 23) rfl rfl Tryz.func71 (by kernel_rfl) rfl #[.string (x0_2.extract 1 x0_2.size), .func (.func 72) #[] #[]] rfl (by (try simp only [List.map_toArray, List.map_cons, List.map_nil]); first | done | rfl | (simp only [List.length_drop, List.length_take]; rfl)) ?_; (with_reducible refine (spec_cut_isPoint.calls kj6 (x0_2.extract 1 x0_2.size) 72 t130 _ A14.out).mono ?_); rintro e w15 ⟨v131, rfl, ho0, hb⟩; refine ⟨_, rfl, ?_⟩; have n0_ := Aside0.mk (Kd.R_lower ho0 (below_size (by repeat (first | (with_reducible first | exact HB.out | apply below_alloc | apply pw_below_drewN | apply below_drew1) | exact HB.out)))); have n1_ := Aside0.mk (below_step (by repeat (first | (with_reducible first | exact HB.out | apply below_alloc | apply pw_below_drewN | apply below_drew1) | exact HB.out)) hb); clear HB; have HO132 := n0_; have HB := n1_; clear n0_ n1_; (try clear hb); (try clear hb2); (try clear hk); (try clear hi); (try clear ho0)))
                go_ret
                exact ⟨_, by first | rfl | (simp [errW_none, errW_some] <;> rfl) | (simp [*, errW_none, errW_some] <;> rfl), by (with_reducible repeat (first | apply Kd.R_alloc | apply Kd.R_drewN | apply Kd.R_drew)); exact HO132.out, by repeat (first | (with_reducible first | exact HB.out | apply below_alloc | apply pw_below_drewN | apply below_drew1) | exact HB.out)⟩
            · rw [if_neg c12] at H
              exact absurd H (by simp)
          · replace c11 := Bool.eq_false_iff.mpr c11
            subst c11
            have H1 : (if x0_2.toList = ([] : List UInt8) then (some ([] : List ByteArray)) else ((spec_cut_isPoint.f kj6 x0_2 72).bind fun t133 => (some t133))) = some r := by rw [if_neg (show ¬ (false = true) by decide)] at H; exact H
            clear H
            have H := H1
            clear H1
            by_cases c16 : x0_2.toList = ([] : List UInt8)
            · rw [if_pos c16] at H
              have c16b0 : (x0_2.toList.isEmpty) = true := by simpa using c16
              have c16b1 : (!x0_2.toList.isEmpty) = false := by simpa using c16
              clear c16
              obtain rfl := Option.some.inj H
              go_wp2
              go_ret
              exact ⟨_, by first | rfl | (simp [errW_none, errW_some] <;> rfl) | (simp [*, errW_none, errW_some] <;> rfl), by first | exact Kd.R_nil _ _ _ _ _ | exact Kd.N_nil _ _ _ _ _ | exact Kd.V_nil _ _ _ _ _ | exact Kd.Q_nil _ _ _ _ _ | exact Kd.S_nil _ _ _ _ _, by repeat (first | (with_reducible first | exact HB.out | apply below_alloc | apply pw_below_drewN | apply below_drew1) | exact HB.out)⟩
            · rw [if_neg c16] at H
              have c16b0 : (x0_2.toList.isEmpty) = false := by simpa using c16
              have c16b1 : (!x0_2.toList.isEmpty) = true := by simpa using c16
              replace H := Option.bind_eq_some_iff.mp H
              obtain ⟨t133, A170, H⟩ := H
              replace H : (some t133) = some r := H
              have A17 := Aside0.mk A170
              clear A170
              obtain rfl := Option.some.inj H
              go_wp2_with (first | ((with_reducible refine gate_callee (f := 71) rfl ?_); refine goesL_ (some 23) rfl rfl Tryz.func71 (by kernel_rfl) rfl #[.string x0_2, .func (.func 72) #[] #[]] rfl (by (try simp only [List.map_toArray, List.map_cons, List.map_nil]); first | done | rfl | (simp only [List.length_drop, List.length_take]; rfl)) ?_; (with_reducible refine (spec_cut_isPoint.calls kj6 x0_2 72 t133 _ A17.out).mono ?_); rintro e w18 ⟨v134, rfl, ho0, hb⟩; refine ⟨_, rfl, ?_⟩; have n0_ := Aside0.mk (Kd.R_lower ho0 (below_size (by repeat (first | (with_reducible first | exact HB.out | apply below_alloc | apply pw_below_drewN | apply below_drew1) | exact HB.out)))); have n1_ := Aside0.mk (below_step (by repeat (first | (with_reducible first | exact HB.out | apply below_alloc | apply pw_below_drewN | apply below_drew1) | exact HB.out)) hb); clear HB; have HO135 := n0_; have HB := n1_; clear n0_ n1_; (try clear hb); (try clear hb2); (try clear hk); (try clear hi); (try clear ho0)))
              go_ret
              exact ⟨_, by first | rfl | (simp [errW_none, errW_some] <;> rfl) | (simp [*, errW_none, errW_some] <;> rfl), by (with_reducible repeat (first | apply Kd.R_alloc | apply Kd.R_drewN | apply Kd.R_drew)); exact HO135.out, by repeat (first | (with_reducible first | exact HB.out | apply below_alloc | apply pw_below_drewN | apply below_drew1) | exact HB.out)⟩

/-! ### spec_BuildKnown: function 40 -/
def spec_BuildKnown.f (k : Nat) (a0 : ByteArray) : Option (Bool) := (spec_Ascii.f k a0).bind fun t136 => (if t136 = true then ((spec_likeIdentifiers.f k a0).bind fun t137 => ((spec_IdentifiersKnown.f k t137).bind fun t140 => (some t140))) else (some false))
theorem spec_BuildKnown.mono : ∀ a0 k, LeO (spec_BuildKnown.f k a0) (spec_BuildKnown.f (k + 1) a0) := by
  intro a0 k
  unfold spec_BuildKnown.f
  repeat' first
      | (with_reducible exact spec_Ascii.mono _ _)
      | (with_reducible exact spec_IdentifiersKnown.mono _ _)
      | (with_reducible exact spec_likeIdentifiers.mono _ _)
      | (with_reducible exact LeO.refl _)
      | (with_reducible exact LeO.none _)
      | (with_reducible refine LeO.ite ?_ ?_)
      | (with_reducible refine LeO.bind ?_ (fun _ => ?_))
      | exact spec_Ascii.mono _ _
      | exact spec_IdentifiersKnown.mono _ _
      | exact spec_likeIdentifiers.mono _ _
      | exact LeO.none _
      | refine LeO.ite ?_ ?_
      | refine LeO.bind ?_ (fun _ => ?_)
set_option maxHeartbeats 8000000 in
set_option maxRecDepth 100000 in
theorem spec_BuildKnown.calls (k : Nat) (a0 : ByteArray) (r : Bool) (w : World) (h : spec_BuildKnown.f k a0 = some r) :
    Calls Tryz.prog 40 #[.string a0] w fun e w' => e = .returned (.bool r) ∧ Below w.heap.size w w' := by
  have HB := Aside0.mk (Below.refl w.heap.size w)
  have H : ((spec_Ascii.f k a0).bind fun t136 => (if t136 = true then ((spec_likeIdentifiers.f k a0).bind fun t137 => ((spec_IdentifiersKnown.f k t137).bind fun t140 => (some t140))) else (some false))) = some r := h
  clear h
  replace H := Option.bind_eq_some_iff.mp H
  obtain ⟨t136, A20, H⟩ := H
  replace H : (if t136 = true then ((spec_likeIdentifiers.f k a0).bind fun t137 => ((spec_IdentifiersKnown.f k t137).bind fun t140 => (some t140))) else (some false)) = some r := H
  have A2 := Aside0.mk A20
  clear A20
  by_cases c3 : t136 = true
  · subst c3
    have H1 : ((spec_likeIdentifiers.f k a0).bind fun t137 => ((spec_IdentifiersKnown.f k t137).bind fun t140 => (some t140))) = some r := by rw [if_pos rfl] at H; exact H
    clear H
    have H := H1
    clear H1
    replace H := Option.bind_eq_some_iff.mp H
    obtain ⟨t137, A40, H⟩ := H
    replace H : ((spec_IdentifiersKnown.f k t137).bind fun t140 => (some t140)) = some r := H
    have A4 := Aside0.mk A40
    clear A40
    replace H := Option.bind_eq_some_iff.mp H
    obtain ⟨t140, A50, H⟩ := H
    replace H : (some t140) = some r := H
    have A5 := Aside0.mk A50
    clear A50
    obtain rfl := Option.some.inj H
    go_enter Tryz.func40, Tryz.ntmps40
    go_wp2_with (first | ((with_reducible refine gate_callee (f := 54) rfl ?_); refine goesL_ (some 4) rfl rfl Tryz.func54 (by kernel_rfl) rfl #[.string a0] rfl (by (try simp only [List.map_toArray, List.map_cons, List.map_nil]); first | done | rfl | (simp only [List.length_drop, List.length_take]; rfl)) ?_; (with_reducible refine (spec_Ascii.calls k a0 true _ A2.out).mono ?_); rintro e w' ⟨rfl, ⟨nd, rfl⟩⟩; refine ⟨_, rfl, ?_⟩) | (go_at_call 56; (with_reducible refine (spec_likeIdentifiers.calls k a0 t137 _ A4.out).mono ?_); rintro e w6 ⟨v138, rfl, ho0, hb⟩; have n0_ := Aside0.mk (Kd.R_lower ho0 (below_size (by repeat (first | (with_reducible first | exact HB.out | apply below_alloc | apply pw_below_drewN | apply below_drew1) | exact HB.out)))); have n1_ := Aside0.mk (below_step (by repeat (first | (with_reducible first | exact HB.out | apply below_alloc | apply pw_below_drewN | apply below_drew1) | exact HB.out)) hb); clear HB; have HO139 := n0_; have HB := n1_; clear n0_ n1_; (try clear hb); (try clear hb2); (try clear hk); (try clear hi); (try clear ho0); obtain ⟨Ao7, co7, eo7⟩ := Kd.R_slice HO139.out; subst eo7) | (go_at_call 55; (with_reducible refine (spec_IdentifiersKnown.calls k _ _ t137 t140 _ ?side1 ?side2 A5.out).mono ?_); (case side1 => repeat (first | exact (Kd.R_reads' HO139.out).2.2 | (with_reducible refine Kd.C_alloc ?_ _) | (with_reducible refine Kd.C_drewN ?_ _) | (with_reducible refine Kd.C_drew ?_))); (case side2 => exact (Kd.R_reads' HO139.out).2.1); rintro e w' ⟨rfl, ⟨nd, rfl⟩⟩))
    go_ret
    exact ⟨by first | rfl | (simp [errW_none, errW_some] <;> rfl) | (simp [*, errW_none, errW_some] <;> rfl), by repeat (first | (with_reducible first | exact HB.out | apply below_alloc | apply pw_below_drewN | apply below_drew1) | exact HB.out)⟩
  · replace c3 := Bool.eq_false_iff.mpr c3
    subst c3
    have H1 : (some false) = some r := by rw [if_neg (show ¬ (false = true) by decide)] at H; exact H
    clear H
    have H := H1
    clear H1
    obtain rfl := Option.some.inj H
    go_enter Tryz.func40, Tryz.ntmps40
    go_wp2_with (first | ((with_reducible refine gate_callee (f := 54) rfl ?_); refine goesL_ (some 4) rfl rfl Tryz.func54 (by kernel_rfl) rfl #[.string a0] rfl (by (try simp only [List.map_toArray, List.map_cons, List.map_nil]); first | done | rfl | (simp only [List.length_drop, List.length_take]; rfl)) ?_; (with_reducible refine (spec_Ascii.calls k a0 false _ A2.out).mono ?_); rintro e w' ⟨rfl, ⟨nd, rfl⟩⟩; refine ⟨_, rfl, ?_⟩))
    go_ret
    exact ⟨by first | rfl | (simp [errW_none, errW_some] <;> rfl) | (simp [*, errW_none, errW_some] <;> rfl), by repeat (first | (with_reducible first | exact HB.out | apply below_alloc | apply pw_below_drewN | apply below_drew1) | exact HB.out)⟩

/-! ### spec_LikeOK: function 21 -/
def spec_LikeOK.l0 : Nat → Int → Bool → List (S66) → ByteArray → ByteArray → Option (Bool)
  | 0, _, _, _, _, _ => none
  | k + 1, x3, x142000, x142001, x142002, x142003 => if x3 < (x142001.length : Int) then (if 0 ≤ x3 then (if (rd_T66 x142001 x3).f0 = true then (some false) else (spec_LikeOK.l0 k (wrap64 (x3 + 1)) x142000 x142001 x142002 x142003)) else (none)) else ((spec_IntsOK.f k x142001).bind fun t143 => (if t143 = true then ((spec_BuildKnown.f k x142002).bind fun t144 => (if t144 = true then (if x142002.toList = ([] : List UInt8) then (some true) else (if 0 < (x142002.size : Int) then ((spec_isDigit.f (bt x142002 0)).bind fun t145 => (if t145 = true then (some false) else (some ((bt x142002 0) != 46)))) else (none))) else (some false))) else (some false)))
def spec_LikeOK.f (k : Nat) (a0_0 : Bool) (l0_1 : List (S66)) (a0_2 : ByteArray) (a0_3 : ByteArray) : Option (Bool) := spec_LikeOK.l0 k 0 a0_0 l0_1 a0_2 a0_3
theorem spec_LikeOK.mono_l : ∀ k, (∀ y0 y1 y2 y3 y4, LeO (spec_LikeOK.l0 k y0 y1 y2 y3 y4) (spec_LikeOK.l0 (k + 1) y0 y1 y2 y3 y4))
  | 0 => fun _ _ _ _ _ r h => by simp [spec_LikeOK.l0] at h
  | k + 1 => by
    have ih0 := spec_LikeOK.mono_l k
    · intro y0 y1 y2 y3 y4
      unfold spec_LikeOK.l0
      repeat' first
      | (with_reducible exact ih0 _ _ _ _ _)
      | (with_reducible exact spec_BuildKnown.mono _ _)
      | (with_reducible exact spec_IntsOK.mono _ _)
      | (with_reducible exact LeO.refl _)
      | (with_reducible exact LeO.none _)
      | (with_reducible refine LeO.ite ?_ ?_)
      | (with_reducible refine LeO.bind ?_ (fun _ => ?_))
      | exact ih0 _ _ _ _ _
      | exact spec_BuildKnown.mono _ _
      | exact spec_IntsOK.mono _ _
      | exact LeO.none _
      | refine LeO.ite ?_ ?_
      | refine LeO.bind ?_ (fun _ => ?_)
theorem spec_LikeOK.mono : ∀ a0 a1 a2 a3 k, LeO (spec_LikeOK.f k a0 a1 a2 a3) (spec_LikeOK.f (k + 1) a0 a1 a2 a3) := by
  intro a0 a1 a2 a3 k
  have ih0 := spec_LikeOK.mono_l k
  unfold spec_LikeOK.f
  repeat' first
      | (with_reducible exact ih0 _ _ _ _ _)
      | (with_reducible exact spec_BuildKnown.mono _ _)
      | (with_reducible exact spec_IntsOK.mono _ _)
      | (with_reducible exact LeO.refl _)
      | (with_reducible exact LeO.none _)
      | (with_reducible refine LeO.ite ?_ ?_)
      | (with_reducible refine LeO.bind ?_ (fun _ => ?_))
      | exact ih0 _ _ _ _ _
      | exact spec_BuildKnown.mono _ _
      | exact spec_IntsOK.mono _ _
      | exact LeO.none _
      | refine LeO.ite ?_ ?_
      | refine LeO.bind ?_ (fun _ => ?_)
set_option maxHeartbeats 8000000 in
set_option maxRecDepth 100000 in
theorem spec_LikeOK.calls (k : Nat) (a0_0 : Bool) (A0_1 : Option Addr) (c0_1 : Nat) (l0_1 : List (S66)) (a0_2 : ByteArray) (a0_3 : ByteArray) (r : Bool) (w : World) (hr0_1 : Kd.C k66 w A0_1 l0_1.length l0_1) (hc0_1 : l0_1.length ≤ c0_1) (h : spec_LikeOK.f k a0_0 l0_1 a0_2 a0_3 = some r) :
    Calls Tryz.prog 21 #[.agg #[.bool a0_0, .slice A0_1 l0_1.length c0_1, .string a0_2, .string a0_3]] w fun e w' => e = .returned (.bool r) ∧ Below w.heap.size w w' := by
  have hu24 := Tryz.underlying24
  have HR0_1 := Aside0.mk hr0_1
  have HC0_1 := Aside0.mk hc0_1
  clear hr0_1 hc0_1
  have HB := Aside0.mk (Below.refl w.heap.size w)
  have H : (spec_LikeOK.l0 k 0 a0_0 l0_1 a0_2 a0_3) = some r := h
  clear h
  have H' := Aside0.mk H
  clear H
  go_enter Tryz.func21, Tryz.ntmps21
  go_wp2_with (first | ((with_reducible refine gate_dst (N := 1) rfl ?_); refine box_event ?hg (N := 1) ?hd (cs := #[.bool a0_0, .slice A0_1 l0_1.length c0_1, .string a0_2, .string a0_3]) (t := 24) ?hr ?_; (case hd => rfl); (case hg => rfl); (case hr => first | (go_simp; done) | (go_simp; rfl)); intro gb141 hg w2 hbox hb; have n0_ := Aside0.mk (below_step (by repeat (first | (with_reducible first | exact HB.out | apply below_alloc | apply pw_below_drewN | apply below_drew1) | exact HB.out)) hb); have n1_ := Aside0.mk (hbox); have n2_ := Aside0.mk ((by rw [hg]; exact (below_size (by repeat (first | (with_reducible first | exact HB.out | apply below_alloc | apply pw_below_drewN | apply below_drew1) | exact HB.out))) : w.heap.size ≤ gb141)); have n3_ := Aside0.mk ((by rw [hg]; exact (below_size (by repeat (first | (with_reducible first | exact HB.out | apply below_alloc | apply pw_below_drewN | apply below_drew1) | exact HB.out))) : w.heap.size ≤ gb141)); clear HB; have HB := n0_; have BK141 := n1_; have GW141 := n2_; have GE141 := n3_; clear n0_ n1_ n2_ n3_; clear hb hbox hg))
  (try go_simp)
  go_loopg [3] k (fun kq v3 w' => ∃ (x3_1 : Int), v3 = .int .i64 x3_1 ∧ Aside0 (spec_LikeOK.l0 kq x3_1 a0_0 l0_1 a0_2 a0_3 = some r) ∧ Aside0 (kq ≤ k) ∧ Aside0 (w'.heap[gb141]? = some (.cells #[.bool a0_0, (.slice A0_1 l0_1.length c0_1), .string a0_2, .string a0_3] 24 (0, 0))) ∧ Aside0 (Below w.heap.size w w'))
  case atStart => exact ⟨(0), (by first | rfl | (simp; done) | (simp [*]; done)), H', ⟨Nat.le_refl _⟩, ⟨by (with_reducible repeat (first | refine blk_drewN ?_ _ | refine blk_drew ?_ | refine blk_alloc ?_ _)); exact BK141.out⟩, ⟨by repeat (first | (with_reducible first | exact HB.out | apply below_alloc | apply pw_below_drewN | apply below_drew1 | refine below_set ?_ GE141.out) | exact HB.out)⟩⟩
  case round =>
    clear H'
    try clear c2
    try clear p2
    obtain ⟨x3_1, rfl, HA, HK1, BK141, HB⟩ := hrel
    cases gk with
    | zero => exact absurd HA.out (by simp [spec_LikeOK.l0])
    | succ k1 =>
      have H := HA.out
      clear HA
      simp only [spec_LikeOK.l0] at H
      by_cases c3 : x3_1 < (l0_1.length : Int)
      · rw [if_pos c3] at H
        have c3b0 : decide (x3_1 < (l0_1.length : Int)) = true := decide_eq_true c3
        clear c3
        by_cases c4 : 0 ≤ x3_1
        · rw [if_pos c4] at H
          have c4b0 : decide (0 ≤ x3_1) = true := decide_eq_true c4
          clear c4
          obtain ⟨bq5, hbq5⟩ : ∃ b_ : Bool, b_ = ((rd_T66 l0_1 x3_1).f0) := ⟨_, rfl⟩
          replace H : (if bq5 = true then (some false) else (spec_LikeOK.l0 k1 (wrap64 (x3_1 + 1)) a0_0 l0_1 a0_2 a0_3)) = some r := by rw [← hbq5] at H; exact H
          have Nbq5 := Aside0.mk hbq5
          clear hbq5
          by_cases c6 : bq5 = true
          · subst c6
            have H1 : (some false) = some r := by rw [if_pos rfl] at H; exact H
            clear H
            have H := H1
            clear H1
            obtain rfl := Option.some.inj H
            have hcz7_0 : wr.cell? ⟨gb141, 0, none⟩ = some (.bool a0_0) := (blk_cell BK141.out 0).trans rfl
            have hcz7_1 : wr.cell? ⟨gb141, 1, none⟩ = some (.slice A0_1 l0_1.length c0_1) := (blk_cell BK141.out 1).trans rfl
            have hcz7_2 : wr.cell? ⟨gb141, 2, none⟩ = some (.string a0_2) := (blk_cell BK141.out 2).trans rfl
            have hcz7_3 : wr.cell? ⟨gb141, 3, none⟩ = some (.string a0_3) := (blk_cell BK141.out 3).trans rfl
            have hfz7_0 := blk_frozen BK141.out 0
            have hfz7_1 := blk_frozen BK141.out 1
            have hfz7_2 := blk_frozen BK141.out 2
            have hfz7_3 := blk_frozen BK141.out 3
            have p142 : 0 ≤ (x3_1 : Int) := of_decide_eq_true (by first | (with_reducible assumption) | assumption)
            have q142 : x3_1 < (l0_1.length : Int) := of_decide_eq_true (by first | (with_reducible assumption) | assumption)
            obtain ⟨ad142, e142, hx142_0, hx142_1⟩ := at_T66 HR0_1.out x3_1 p142 q142
            (try rw [← Nbq5.out] at hx142_0)
            cases e142
            replace hx142_0 := (HB.out.cell (World.block_lt_of_cell? w _ hx142_0)).trans hx142_0
            replace hx142_1 := (HB.out.cell (World.block_lt_of_cell? w _ hx142_1)).trans hx142_1
            replace p142 := eq_true p142
            replace q142 := eq_true q142
            go_wp2
            go_ret
            exact ⟨by first | rfl | (simp [errW_none, errW_some] <;> rfl) | (simp [*, errW_none, errW_some] <;> rfl), by repeat (first | (with_reducible first | exact HB.out | apply below_alloc | apply pw_below_drewN | apply below_drew1 | refine below_set ?_ GE141.out) | exact HB.out)⟩
          · replace c6 := Bool.eq_false_iff.mpr c6
            subst c6
            have H1 : (spec_LikeOK.l0 k1 (wrap64 (x3_1 + 1)) a0_0 l0_1 a0_2 a0_3) = some r := by rw [if_neg (show ¬ (false = true) by decide)] at H; exact H
            clear H
            have H := H1
            clear H1
            have H' := Aside0.mk H
            clear H
            have hcz8_0 : wr.cell? ⟨gb141, 0, none⟩ = some (.bool a0_0) := (blk_cell BK141.out 0).trans rfl
            have hcz8_1 : wr.cell? ⟨gb141, 1, none⟩ = some (.slice A0_1 l0_1.length c0_1) := (blk_cell BK141.out 1).trans rfl
            have hcz8_2 : wr.cell? ⟨gb141, 2, none⟩ = some (.string a0_2) := (blk_cell BK141.out 2).trans rfl
            have hcz8_3 : wr.cell? ⟨gb141, 3, none⟩ = some (.string a0_3) := (blk_cell BK141.out 3).trans rfl
            have hfz8_0 := blk_frozen BK141.out 0
            have hfz8_1 := blk_frozen BK141.out 1
            have hfz8_2 := blk_frozen BK141.out 2
            have hfz8_3 := blk_frozen BK141.out 3
            have p142 : 0 ≤ (x3_1 : Int) := of_decide_eq_true (by first | (with_reducible assumption) | assumption)
            have q142 : x3_1 < (l0_1.length : Int) := of_decide_eq_true (by first | (with_reducible assumption) | assumption)
            obtain ⟨ad142, e142, hx142_0, hx142_1⟩ := at_T66 HR0_1.out x3_1 p142 q142
            (try rw [← Nbq5.out] at hx142_0)
            cases e142
            replace hx142_0 := (HB.out.cell (World.block_lt_of_cell? w _ hx142_0)).trans hx142_0
            replace hx142_1 := (HB.out.cell (World.block_lt_of_cell? w _ hx142_1)).trans hx142_1
            replace p142 := eq_true p142
            replace q142 := eq_true q142
            go_wp2
            go_roundg k1
            case measure => have := HK1.out; omega
            case rel => exact ⟨(wrap64 (x3_1 + 1)), (by first | rfl | (simp; done) | (simp [*]; done)), H', ⟨by have := HK1.out; omega⟩, ⟨by (with_reducible repeat (first | refine blk_drewN ?_ _ | refine blk_drew ?_ | refine blk_alloc ?_ _)); exact BK141.out⟩, ⟨by repeat (first | (with_reducible first | exact HB.out | apply below_alloc | apply pw_below_drewN | apply below_drew1 | refine below_set ?_ GE141.out) | exact HB.out)⟩⟩
        · rw [if_neg c4] at H
          exact absurd H (by simp)
      · rw [if_neg c3] at H
        have c3b0 : decide (x3_1 < (l0_1.length : Int)) = false := decide_eq_false c3
        clear c3
        replace H := Option.bind_eq_some_iff.mp H
        obtain ⟨t143, A90, H⟩ := H
        replace H : (if t143 = true then ((spec_BuildKnown.f k1 a0_2).bind fun t144 => (if t144 = true then (if a0_2.toList = ([] : List UInt8) then (some true) else (if 0 < (a0_2.size : Int) then ((spec_isDigit.f (bt a0_2 0)).bind fun t145 => (if t145 = true then (some false) else (some ((bt a0_2 0) != 46)))) else (none))) else (some false))) else (some false)) = some r := H
        have A9 := Aside0.mk A90
        clear A90
        by_cases c10 : t143 = true
        · subst c10
          have H1 : ((spec_BuildKnown.f k1 a0_2).bind fun t144 => (if t144 = true then (if a0_2.toList = ([] : List UInt8) then (some true) else (if 0 < (a0_2.size : Int) then ((spec_isDigit.f (bt a0_2 0)).bind fun t145 => (if t145 = true then (some false) else (some ((bt a0_2 0) != 46)))) else (none))) else (some false))) = some r := by rw [if_pos rfl] at H; exact H
          clear H
          have H := H1
          clear H1
          replace H := Option.bind_eq_some_iff.mp H
          obtain ⟨t144, A110, H⟩ := H
          replace H : (if t144 = true then (if a0_2.toList = ([] : List UInt8) then (some true) else (if 0 < (a0_2.size : Int) then ((spec_isDigit.f (bt a0_2 0)).bind fun t145 => (if t145 = true then (some false) else (some ((bt a0_2 0) != 46)))) else (none))) else (some false)) = some r := H
          have A11 := Aside0.mk A110
          clear A110
          by_cases c12 : t144 = true
          · subst c12
            have H1 : (if a0_2.toList = ([] : List UInt8) then (some true) else (if 0 < (a0_2.size : Int) then ((spec_isDigit.f (bt a0_2 0)).bind fun t145 => (if t145 = true then (some false) else (some ((bt a0_2 0) != 46)))) else (none))) = some r := by rw [if_pos rfl] at H; exact H
            clear H
            have H := H1
            clear H1
            by_cases c13 : a0_2.toList = ([] : List UInt8)
            · rw [if_pos c13] at H
              have c13b0 : (a0_2.toList.isEmpty) = true := by simpa using c13
              have c13b1 : (!a0_2.toList.isEmpty) = false := by simpa using c13
              clear c13
              obtain rfl := Option.some.inj H
              have hcz14_0 : wr.cell? ⟨gb141, 0, none⟩ = some (.bool a0_0) := (blk_cell BK141.out 0).trans rfl
              have hcz14_1 : wr.cell? ⟨gb141, 1, none⟩ = some (.slice A0_1 l0_1.length c0_1) := (blk_cell BK141.out 1).trans rfl
              have hcz14_2 : wr.cell? ⟨gb141, 2, none⟩ = some (.string a0_2) := (blk_cell BK141.out 2).trans rfl
              have hcz14_3 : wr.cell? ⟨gb141, 3, none⟩ = some (.string a0_3) := (blk_cell BK141.out 3).trans rfl
              have hfz14_0 := blk_frozen BK141.out 0
              have hfz14_1 := blk_frozen BK141.out 1
              have hfz14_2 := blk_frozen BK141.out 2
              have hfz14_3 := blk_frozen BK141.out 3
              go_wp2_with (first | ((with_reducible refine gate_callee (f := 39) rfl ?_); refine goesL_ (some 19) rfl rfl Tryz.func39 (by kernel_rfl) rfl #[.slice A0_1 l0_1.length c0_1] rfl (by (try simp only [List.map_toArray, List.map_cons, List.map_nil]); first | done | rfl | (simp only [List.length_drop, List.length_take]; rfl)) ?_; (with_reducible refine (spec_IntsOK.calls k1 _ _ l0_1 true _ ?side1 ?side2 A9.out).mono ?_); (case side1 => repeat (first | exact (Kd.C_below HR0_1.out HB.out) | (with_reducible refine Kd.C_alloc ?_ _) | (with_reducible refine Kd.C_drewN ?_ _) | (with_reducible refine Kd.C_drew ?_))); (case side2 => exact HC0_1.out); rintro e w15 ⟨rfl, hb⟩; refine ⟨_, rfl, ?_⟩; have n0_ := Aside0.mk (blk_below (g := gb141) (o := .cells #[.bool a0_0, .slice A0_1 l0_1.length c0_1, .string a0_2, .string a0_3] 24 (0, 0)) (by (with_reducible repeat (first | refine blk_drewN ?_ _ | refine blk_drew ?_ | refine blk_alloc ?_ _)); exact BK141.out) hb); have n1_ := Aside0.mk (below_step (by repeat (first | (with_reducible first | exact HB.out | apply below_alloc | apply pw_below_drewN | apply below_drew1 | refine below_set ?_ GE141.out) | exact HB.out)) hb); clear BK141; clear HB; have BK141 := n0_; have HB := n1_; clear n0_ n1_; (try clear hb); (try clear hb2); (try clear hk); (try clear hi); have hcz16_0 : w15.cell? ⟨gb141, 0, none⟩ = some (.bool a0_0) := (blk_cell BK141.out 0).trans rfl; have hcz16_1 : w15.cell? ⟨gb141, 1, none⟩ = some (.slice A0_1 l0_1.length c0_1) := (blk_cell BK141.out 1).trans rfl; have hcz16_2 : w15.cell? ⟨gb141, 2, none⟩ = some (.string a0_2) := (blk_cell BK141.out 2).trans rfl; have hcz16_3 : w15.cell? ⟨gb141, 3, none⟩ = some (.string a0_3) := (blk_cell BK141.out 3).trans rfl; have hfz16_0 := blk_frozen BK141.out 0; have hfz16_1 := blk_frozen BK141.out 1; have hfz16_2 := blk_frozen BK141.out 2; have hfz16_3 := blk_frozen BK141.out 3) | (go_at_call 40; (with_reducible refine (spec_BuildKnown.calls k1 a0_2 true _ A11.out).mono ?_); rintro e w17 ⟨rfl, hb⟩; have n0_ := Aside0.mk (blk_below (g := gb141) (o := .cells #[.bool a0_0, .slice A0_1 l0_1.length c0_1, .string a0_2, .string a0_3] 24 (0, 0)) (by (with_reducible repeat (first | refine blk_drewN ?_ _ | refine blk_drew ?_ | refine blk_alloc ?_ _)); exact BK141.out) hb); have n1_ := Aside0.mk (below_step (by repeat (first | (with_reducible first | exact HB.out | apply below_alloc | apply pw_below_drewN | apply below_drew1 | refine below_set ?_ GE141.out) | exact HB.out)) hb); clear BK141; clear HB; have BK141 := n0_; have HB := n1_; clear n0_ n1_; (try clear hb); (try clear hb2); (try clear hk); (try clear hi); have hcz18_0 : w17.cell? ⟨gb141, 0, none⟩ = some (.bool a0_0) := (blk_cell BK141.out 0).trans rfl; have hcz18_1 : w17.cell? ⟨gb141, 1, none⟩ = some (.slice A0_1 l0_1.length c0_1) := (blk_cell BK141.out 1).trans rfl; have hcz18_2 : w17.cell? ⟨gb141, 2, none⟩ = some (.string a0_2) := (blk_cell BK141.out 2).trans rfl; have hcz18_3 : w17.cell? ⟨gb141, 3, none⟩ = some (.string a0_3) := (blk_cell BK141.out 3).trans rfl; have hfz18_0 := blk_frozen BK141.out 0; have hfz18_1 := blk_frozen BK141.out 1; have hfz18_2 := blk_frozen BK141.out 2; have hfz18_3 := blk_frozen BK141.out 3))
              go_ret
              exact ⟨by first | rfl | (simp [errW_none, errW_some] <;> rfl) | (simp [*, errW_none, errW_some] <;> rfl), by repeat (first | (with_reducible first | exact HB.out | apply below_alloc | apply pw_below_drewN | apply below_drew1 | refine below_set ?_ GE141.out) | exact HB.out)⟩
            · rw [if_neg c13] at H
              have c13b0 : (a0_2.toList.isEmpty) = false := by simpa using c13
              have c13b1 : (!a0_2.toList.isEmpty) = true := by simpa using c13
              by_cases c19 : 0 < (a0_2.size : Int)
              · rw [if_pos c19] at H
                have c19b0 : decide (0 < (a0_2.size : Int)) = true := decide_eq_true c19
                have c19b1 : decide (0 < a0_2.size) = true := decide_eq_true (by omega)
                clear c19
                replace H := Option.bind_eq_some_iff.mp H
                obtain ⟨t145, A210, H⟩ := H
                replace H : (if t145 = true then (some false) else (some ((bt a0_2 0) != 46))) = some r := H
                have A21 := Aside0.mk A210
                clear A210
                by_cases c22 : t145 = true
                · subst c22
                  have H1 : (some false) = some r := by rw [if_pos rfl] at H; exact H
                  clear H
                  have H := H1
                  clear H1
                  obtain rfl := Option.some.inj H
                  have hcz23_0 : wr.cell? ⟨gb141, 0, none⟩ = some (.bool a0_0) := (blk_cell BK141.out 0).trans rfl
                  have hcz23_1 : wr.cell? ⟨gb141, 1, none⟩ = some (.slice A0_1 l0_1.length c0_1) := (blk_cell BK141.out 1).trans rfl
                  have hcz23_2 : wr.cell? ⟨gb141, 2, none⟩ = some (.string a0_2) := (blk_cell BK141.out 2).trans rfl
                  have hcz23_3 : wr.cell? ⟨gb141, 3, none⟩ = some (.string a0_3) := (blk_cell BK141.out 3).trans rfl
                  have hfz23_0 := blk_frozen BK141.out 0
                  have hfz23_1 := blk_frozen BK141.out 1
                  have hfz23_2 := blk_frozen BK141.out 2
                  have hfz23_3 := blk_frozen BK141.out 3
                  go_wp2_with (first | ((with_reducible refine gate_callee (f := 39) rfl ?_); refine goesL_ (some 19) rfl rfl Tryz.func39 (by kernel_rfl) rfl #[.slice A0_1 l0_1.length c0_1] rfl (by (try simp only [List.map_toArray, List.map_cons, List.map_nil]); first | done | rfl | (simp only [List.length_drop, List.length_take]; rfl)) ?_; (with_reducible refine (spec_IntsOK.calls k1 _ _ l0_1 true _ ?side1 ?side2 A9.out).mono ?_); (case side1 => repeat (first | exact (Kd.C_below HR0_1.out HB.out) | (with_reducible refine Kd.C_alloc ?_ _) | (with_reducible refine Kd.C_drewN ?_ _) | (with_reducible refine Kd.C_drew ?_))); (case side2 => exact HC0_1.out); rintro e w24 ⟨rfl, hb⟩; refine ⟨_, rfl, ?_⟩; have n0_ := Aside0.mk (blk_below (g := gb141) (o := .cells #[.bool a0_0, .slice A0_1 l0_1.length c0_1, .string a0_2, .string a0_3] 24 (0, 0)) (by (with_reducible repeat (first | refine blk_drewN ?_ _ | refine blk_drew ?_ | refine blk_alloc ?_ _)); exact BK141.out) hb); have n1_ := Aside0.mk (below_step (by repeat (first | (with_reducible first | exact HB.out | apply below_alloc | apply pw_below_drewN | apply below_drew1 | refine below_set ?_ GE141.out) | exact HB.out)) hb); clear BK141; clear HB; have BK141 := n0_; have HB := n1_; clear n0_ n1_; (try clear hb); (try clear hb2); (try clear hk); (try clear hi); have hcz25_0 : w24.cell? ⟨gb141, 0, none⟩ = some (.bool a0_0) := (blk_cell BK141.out 0).trans rfl; have hcz25_1 : w24.cell? ⟨gb141, 1, none⟩ = some (.slice A0_1 l0_1.length c0_1) := (blk_cell BK141.out 1).trans rfl; have hcz25_2 : w24.cell? ⟨gb141, 2, none⟩ = some (.string a0_2) := (blk_cell BK141.out 2).trans rfl; have hcz25_3 : w24.cell? ⟨gb141, 3, none⟩ = some (.string a0_3) := (blk_cell BK141.out 3).trans rfl; have hfz25_0 := blk_frozen BK141.out 0; have hfz25_1 := blk_frozen BK141.out 1; have hfz25_2 := blk_frozen BK141.out 2; have hfz25_3 := blk_frozen BK141.out 3) | (go_at_call 40; (with_reducible refine (spec_BuildKnown.calls k1 a0_2 true _ A11.out).mono ?_); rintro e w26 ⟨rfl, hb⟩; have n0_ := Aside0.mk (blk_below (g := gb141) (o := .cells #[.bool a0_0, .slice A0_1 l0_1.length c0_1, .string a0_2, .string a0_3] 24 (0, 0)) (by (with_reducible repeat (first | refine blk_drewN ?_ _ | refine blk_drew ?_ | refine blk_alloc ?_ _)); exact BK141.out) hb); have n1_ := Aside0.mk (below_step (by repeat (first | (with_reducible first | exact HB.out | apply below_alloc | apply pw_below_drewN | apply below_drew1 | refine below_set ?_ GE141.out) | exact HB.out)) hb); clear BK141; clear HB; have BK141 := n0_; have HB := n1_; clear n0_ n1_; (try clear hb); (try clear hb2); (try clear hk); (try clear hi); have hcz27_0 : w26.cell? ⟨gb141, 0, none⟩ = some (.bool a0_0) := (blk_cell BK141.out 0).trans rfl; have hcz27_1 : w26.cell? ⟨gb141, 1, none⟩ = some (.slice A0_1 l0_1.length c0_1) := (blk_cell BK141.out 1).trans rfl; have hcz27_2 : w26.cell? ⟨gb141, 2, none⟩ = some (.string a0_2) := (blk_cell BK141.out 2).trans rfl; have hcz27_3 : w26.cell? ⟨gb141, 3, none⟩ = some (.string a0_3) := (blk_cell BK141.out 3).trans rfl; have hfz27_0 := blk_frozen BK141.out 0; have hfz27_1 := blk_frozen BK141.out 1; have hfz27_2 := blk_frozen BK141.out 2; have hfz27_3 := blk_frozen BK141.out 3; have p20 : 0 ≤ (0 : Int) := (by omega); have q20 : 0 < a0_2.size := (by have : (0 : Int) < (a0_2.size : Int) := of_decide_eq_true (by first | (with_reducible assumption) | assumption); omega); have hx20 : ∀ h : 0 < a0_2.size, ((a0_2[0]'h).toNat : Int) = bt a0_2 0 := bt_at a0_2 0; clear p20; have qi20 : (0 < (a0_2.size : Int)) = True := eq_true (of_decide_eq_true (by first | (with_reducible assumption) | assumption)); replace q20 := eq_true q20) | (go_at_call 41; (with_reducible refine (spec_isDigit.calls (bt a0_2 0) true _ A21.out).mono ?_); rintro e w' ⟨rfl, ⟨nd, rfl⟩⟩))
                  go_ret
                  exact ⟨by first | rfl | (simp [errW_none, errW_some] <;> rfl) | (simp [*, errW_none, errW_some] <;> rfl), by repeat (first | (with_reducible first | exact HB.out | apply below_alloc | apply pw_below_drewN | apply below_drew1 | refine below_set ?_ GE141.out) | exact HB.out)⟩
                · replace c22 := Bool.eq_false_iff.mpr c22
                  subst c22
                  have H1 : (some ((bt a0_2 0) != 46)) = some r := by rw [if_neg (show ¬ (false = true) by decide)] at H; exact H
                  clear H
                  have H := H1
                  clear H1
                  obtain rfl := Option.some.inj H
                  have hcz29_0 : wr.cell? ⟨gb141, 0, none⟩ = some (.bool a0_0) := (blk_cell BK141.out 0).trans rfl
                  have hcz29_1 : wr.cell? ⟨gb141, 1, none⟩ = some (.slice A0_1 l0_1.length c0_1) := (blk_cell BK141.out 1).trans rfl
                  have hcz29_2 : wr.cell? ⟨gb141, 2, none⟩ = some (.string a0_2) := (blk_cell BK141.out 2).trans rfl
                  have hcz29_3 : wr.cell? ⟨gb141, 3, none⟩ = some (.string a0_3) := (blk_cell BK141.out 3).trans rfl
                  have hfz29_0 := blk_frozen BK141.out 0
                  have hfz29_1 := blk_frozen BK141.out 1
                  have hfz29_2 := blk_frozen BK141.out 2
                  have hfz29_3 := blk_frozen BK141.out 3
                  go_wp2_with (first | ((with_reducible refine gate_callee (f := 39) rfl ?_); refine goesL_ (some 19) rfl rfl Tryz.func39 (by kernel_rfl) rfl #[.slice A0_1 l0_1.length c0_1] rfl (by (try simp only [List.map_toArray, List.map_cons, List.map_nil]); first | done | rfl | (simp only [List.length_drop, List.length_take]; rfl)) ?_; (with_reducible refine (spec_IntsOK.calls k1 _ _ l0_1 true _ ?side1 ?side2 A9.out).mono ?_); (case side1 => repeat (first | exact (Kd.C_below HR0_1.out HB.out) | (with_reducible refine Kd.C_alloc ?_ _) | (with_reducible refine Kd.C_drewN ?_ _) | (with_reducible refine Kd.C_drew ?_))); (case side2 => exact HC0_1.out); rintro e w30 ⟨rfl, hb⟩; refine ⟨_, rfl, ?_⟩; have n0_ := Aside0.mk (blk_below (g := gb141) (o := .cells #[.bool a0_0, .slice A0_1 l0_1.length c0_1, .string a0_2, .string a0_3] 24 (0, 0)) (by (with_reducible repeat (first | refine blk_drewN ?_ _ | refine blk_drew ?_ | refine blk_alloc ?_ _)); exact BK141.out) hb); have n1_ := Aside0.mk (below_step (by repeat (first | (with_reducible first | exact HB.out | apply below_alloc | apply pw_below_drewN | apply below_drew1 | refine below_set ?_ GE141.out) | exact HB.out)) hb); clear BK141; clear HB; have BK141 := n0_; have HB := n1_; clear n0_ n1_; (try clear hb); (try clear hb2); (try clear hk); (try clear hi); have hcz31_0 : w30.cell? ⟨gb141, 0, none⟩ = some (.bool a0_0) := (blk_cell BK141.out 0).trans rfl; have hcz31_1 : w30.cell? ⟨gb141, 1, none⟩ = some (.slice A0_1 l0_1.length c0_1) := (blk_cell BK141.out 1).trans rfl; have hcz31_2 : w30.cell? ⟨gb141, 2, none⟩ = some (.string a0_2) := (blk_cell BK141.out 2).trans rfl; have hcz31_3 : w30.cell? ⟨gb141, 3, none⟩ = some (.string a0_3) := (blk_cell BK141.out 3).trans rfl; have hfz31_0 := blk_frozen BK141.out 0; have hfz31_1 := blk_frozen BK141.out 1; have hfz31_2 := blk_frozen BK141.out 2; have hfz31_3 := blk_frozen BK141.out 3) | (go_at_call 40; (with_reducible refine (spec_BuildKnown.calls k1 a0_2 true _ A11.out).mono ?_); rintro e w32 ⟨rfl, hb⟩; have n0_ := Aside0.mk (blk_below (g := gb141) (o := .cells #[.bool a0_0, .slice A0_1 l0_1.length c0_1, .string a0_2, .string a0_3] 24 (0, 0)) (by (with_reducible repeat (first | refine blk_drewN ?_ _ | refine blk_drew ?_ | refine blk_alloc ?_ _)); exact BK141.out) hb); have n1_ := Aside0.mk (below_step (by repeat (first | (with_reducible first | exact HB.out | apply below_alloc | apply pw_below_drewN | apply below_drew1 | refine below_set ?_ GE141.out) | exact HB.out)) hb); clear BK141; clear HB; have BK141 := n0_; have HB := n1_; clear n0_ n1_; (try clear hb); (try clear hb2); (try clear hk); (try clear hi); have hcz33_0 : w32.cell? ⟨gb141, 0, none⟩ = some (.bool a0_0) := (blk_cell BK141.out 0).trans rfl; have hcz33_1 : w32.cell? ⟨gb141, 1, none⟩ = some (.slice A0_1 l0_1.length c0_1) := (blk_cell BK141.out 1).trans rfl; have hcz33_2 : w32.cell? ⟨gb141, 2, none⟩ = some (.string a0_2) := (blk_cell BK141.out 2).trans rfl; have hcz33_3 : w32.cell? ⟨gb141, 3, none⟩ = some (.string a0_3) := (blk_cell BK141.out 3).trans rfl; have hfz33_0 := blk_frozen BK141.out 0; have hfz33_1 := blk_frozen BK141.out 1; have hfz33_2 := blk_frozen BK141.out 2; have hfz33_3 := blk_frozen BK141.out 3; have p20 : 0 ≤ (0 : Int) := (by omega); have q20 : 0 < a0_2.size := (by have : (0 : Int) < (a0_2.size : Int) := of_decide_eq_true (by first | (with_reducible assumption) | assumption); omega); have hx20 : ∀ h : 0 < a0_2.size, ((a0_2[0]'h).toNat : Int) = bt a0_2 0 := bt_at a0_2 0; clear p20; have qi20 : (0 < (a0_2.size : Int)) = True := eq_true (of_decide_eq_true (by first | (with_reducible assumption) | assumption)); replace q20 := eq_true q20) | (go_at_call 41; (with_reducible refine (spec_isDigit.calls (bt a0_2 0) false _ A21.out).mono ?_); rintro e w' ⟨rfl, ⟨nd, rfl⟩⟩; have p28 : 0 ≤ (0 : Int) := (by omega); have q28 : 0 < a0_2.size := (by have : (0 : Int) < (a0_2.size : Int) := of_decide_eq_true (by first | (with_reducible assumption) | assumption); omega); have hx28 : ∀ h : 0 < a0_2.size, ((a0_2[0]'h).toNat : Int) = bt a0_2 0 := bt_at a0_2 0; clear p28; have qi28 : (0 < (a0_2.size : Int)) = True := eq_true (of_decide_eq_true (by first | (with_reducible assumption) | assumption)); replace q28 := eq_true q28))
                  go_ret
                  exact ⟨by first | rfl | (simp [errW_none, errW_some] <;> rfl) | (simp [*, errW_none, errW_some] <;> rfl), by repeat (first | (with_reducible first | exact HB.out | apply below_alloc | apply pw_below_drewN | apply below_drew1 | refine below_set ?_ GE141.out) | exact HB.out)⟩
              · rw [if_neg c19] at H
                exact absurd H (by simp)
          · replace c12 := Bool.eq_false_iff.mpr c12
            subst c12
            have H1 : (some false) = some r := by rw [if_neg (show ¬ (false = true) by decide)] at H; exact H
            clear H
            have H := H1
            clear H1
            obtain rfl := Option.some.inj H
            have hcz34_0 : wr.cell? ⟨gb141, 0, none⟩ = some (.bool a0_0) := (blk_cell BK141.out 0).trans rfl
            have hcz34_1 : wr.cell? ⟨gb141, 1, none⟩ = some (.slice A0_1 l0_1.length c0_1) := (blk_cell BK141.out 1).trans rfl
            have hcz34_2 : wr.cell? ⟨gb141, 2, none⟩ = some (.string a0_2) := (blk_cell BK141.out 2).trans rfl
            have hcz34_3 : wr.cell? ⟨gb141, 3, none⟩ = some (.string a0_3) := (blk_cell BK141.out 3).trans rfl
            have hfz34_0 := blk_frozen BK141.out 0
            have hfz34_1 := blk_frozen BK141.out 1
            have hfz34_2 := blk_frozen BK141.out 2
            have hfz34_3 := blk_frozen BK141.out 3
            go_wp2_with (first | ((with_reducible refine gate_callee (f := 39) rfl ?_); refine goesL_ (some 19) rfl rfl Tryz.func39 (by kernel_rfl) rfl #[.slice A0_1 l0_1.length c0_1] rfl (by (try simp only [List.map_toArray, List.map_cons, List.map_nil]); first | done | rfl | (simp only [List.length_drop, List.length_take]; rfl)) ?_; (with_reducible refine (spec_IntsOK.calls k1 _ _ l0_1 true _ ?side1 ?side2 A9.out).mono ?_); (case side1 => repeat (first | exact (Kd.C_below HR0_1.out HB.out) | (with_reducible refine Kd.C_alloc ?_ _) | (with_reducible refine Kd.C_drewN ?_ _) | (with_reducible refine Kd.C_drew ?_))); (case side2 => exact HC0_1.out); rintro e w35 ⟨rfl, hb⟩; refine ⟨_, rfl, ?_⟩; have n0_ := Aside0.mk (blk_below (g := gb141) (o := .cells #[.bool a0_0, .slice A0_1 l0_1.length c0_1, .string a0_2, .string a0_3] 24 (0, 0)) (by (with_reducible repeat (first | refine blk_drewN ?_ _ | refine blk_drew ?_ | refine blk_alloc ?_ _)); exact BK141.out) hb); have n1_ := Aside0.mk (below_step (by repeat (first | (with_reducible first | exact HB.out | apply below_alloc | apply pw_below_drewN | apply below_drew1 | refine below_set ?_ GE141.out) | exact HB.out)) hb); clear BK141; clear HB; have BK141 := n0_; have HB := n1_; clear n0_ n1_; (try clear hb); (try clear hb2); (try clear hk); (try clear hi); have hcz36_0 : w35.cell? ⟨gb141, 0, none⟩ = some (.bool a0_0) := (blk_cell BK141.out 0).trans rfl; have hcz36_1 : w35.cell? ⟨gb141, 1, none⟩ = some (.slice A0_1 l0_1.length c0_1) := (blk_cell BK141.out 1).trans rfl; have hcz36_2 : w35.cell? ⟨gb141, 2, none⟩ = some (.string a0_2) := (blk_cell BK141.out 2).trans rfl; have hcz36_3 : w35.cell? ⟨gb141, 3, none⟩ = some (.string a0_3) := (blk_cell BK141.out 3).trans rfl; have hfz36_0 := blk_frozen BK141.out 0; have hfz36_1 := blk_frozen BK141.out 1; have hfz36_2 := blk_frozen BK141.out 2; have hfz36_3 := blk_frozen BK141.out 3) | (go_at_call 40; (with_reducible refine (spec_BuildKnown.calls k1 a0_2 false _ A11.out).mono ?_); rintro e w37 ⟨rfl, hb⟩; have n0_ := Aside0.mk (blk_below (g := gb141) (o := .cells #[.bool a0_0, .slice A0_1 l0_1.length c0_1, .string a0_2, .string a0_3] 24 (0, 0)) (by (with_reducible repeat (first | refine blk_drewN ?_ _ | refine blk_drew ?_ | refine blk_alloc ?_ _)); exact BK141.out) hb); have n1_ := Aside0.mk (below_step (by repeat (first | (with_reducible first | exact HB.out | apply below_alloc | apply pw_below_drewN | apply below_drew1 | refine below_set ?_ GE141.out) | exact HB.out)) hb); clear BK141; clear HB; have BK141 := n0_; have HB := n1_; clear n0_ n1_; (try clear hb); (try clear hb2); (try clear hk); (try clear hi)))
            go_ret
            exact ⟨by first | rfl | (simp [errW_none, errW_some] <;> rfl) | (simp [*, errW_none, errW_some] <;> rfl), by repeat (first | (with_reducible first | exact HB.out | apply below_alloc | apply pw_below_drewN | apply below_drew1 | refine below_set ?_ GE141.out) | exact HB.out)⟩
        · replace c10 := Bool.eq_false_iff.mpr c10
          subst c10
          have H1 : (some false) = some r := by rw [if_neg (show ¬ (false = true) by decide)] at H; exact H
          clear H
          have H := H1
          clear H1
          obtain rfl := Option.some.inj H
          have hcz38_0 : wr.cell? ⟨gb141, 0, none⟩ = some (.bool a0_0) := (blk_cell BK141.out 0).trans rfl
          have hcz38_1 : wr.cell? ⟨gb141, 1, none⟩ = some (.slice A0_1 l0_1.length c0_1) := (blk_cell BK141.out 1).trans rfl
          have hcz38_2 : wr.cell? ⟨gb141, 2, none⟩ = some (.string a0_2) := (blk_cell BK141.out 2).trans rfl
          have hcz38_3 : wr.cell? ⟨gb141, 3, none⟩ = some (.string a0_3) := (blk_cell BK141.out 3).trans rfl
          have hfz38_0 := blk_frozen BK141.out 0
          have hfz38_1 := blk_frozen BK141.out 1
          have hfz38_2 := blk_frozen BK141.out 2
          have hfz38_3 := blk_frozen BK141.out 3
          go_wp2_with (first | ((with_reducible refine gate_callee (f := 39) rfl ?_); refine goesL_ (some 19) rfl rfl Tryz.func39 (by kernel_rfl) rfl #[.slice A0_1 l0_1.length c0_1] rfl (by (try simp only [List.map_toArray, List.map_cons, List.map_nil]); first | done | rfl | (simp only [List.length_drop, List.length_take]; rfl)) ?_; (with_reducible refine (spec_IntsOK.calls k1 _ _ l0_1 false _ ?side1 ?side2 A9.out).mono ?_); (case side1 => repeat (first | exact (Kd.C_below HR0_1.out HB.out) | (with_reducible refine Kd.C_alloc ?_ _) | (with_reducible refine Kd.C_drewN ?_ _) | (with_reducible refine Kd.C_drew ?_))); (case side2 => exact HC0_1.out); rintro e w39 ⟨rfl, hb⟩; refine ⟨_, rfl, ?_⟩; have n0_ := Aside0.mk (blk_below (g := gb141) (o := .cells #[.bool a0_0, .slice A0_1 l0_1.length c0_1, .string a0_2, .string a0_3] 24 (0, 0)) (by (with_reducible repeat (first | refine blk_drewN ?_ _ | refine blk_drew ?_ | refine blk_alloc ?_ _)); exact BK141.out) hb); have n1_ := Aside0.mk (below_step (by repeat (first | (with_reducible first | exact HB.out | apply below_alloc | apply pw_below_drewN | apply below_drew1 | refine below_set ?_ GE141.out) | exact HB.out)) hb); clear BK141; clear HB; have BK141 := n0_; have HB := n1_; clear n0_ n1_; (try clear hb); (try clear hb2); (try clear hk); (try clear hi)))
          go_ret
          exact ⟨by first | rfl | (simp [errW_none, errW_some] <;> rfl) | (simp [*, errW_none, errW_some] <;> rfl), by repeat (first | (with_reducible first | exact HB.out | apply below_alloc | apply pw_below_drewN | apply below_drew1 | refine below_set ?_ GE141.out) | exact HB.out)⟩

/-! ### laws_likes: function 7 -/
def laws_likes.l0 : Nat → List (S24) → Int → Int → Option (Bool)
  | 0, _, _, _ => none
  | k + 1, x5, x6, x7 => if x7 < x6 then (if 0 ≤ x7 then (if x7 < (x5.length : Int) then ((laws_short.f k (([(rd_T24 x5 x7).f2, (rd_T24 x5 x7).f3] : List ByteArray))).bind fun t151 => (if t151 = true then ((laws_numbers.f k ((rd_T24 x5 x7).f1)).bind fun t152 => (if t152 = true then ((spec_LikeOK.f k ((rd_T24 x5 x7).f0) ((rd_T24 x5 x7).f1) ((rd_T24 x5 x7).f2) ((rd_T24 x5 x7).f3)).bind fun t153 => (if t153 = true then (laws_likes.l0 k x5 x6 (wrap64 (x7 + 1))) else (some false))) else (some false))) else (some false))) else (none)) else (none)) else (some true)
def laws_likes.f (k : Nat) (l0 : List (S24)) : Option (Bool) := laws_likes.l0 k l0 (l0.length : Int) 0
theorem laws_likes.mono_l : ∀ k, (∀ y0 y1 y2, LeO (laws_likes.l0 k y0 y1 y2) (laws_likes.l0 (k + 1) y0 y1 y2))
  | 0 => fun _ _ _ r h => by simp [laws_likes.l0] at h
  | k + 1 => by
    have ih0 := laws_likes.mono_l k
    · intro y0 y1 y2
      unfold laws_likes.l0
      repeat' first
      | (with_reducible exact ih0 _ _ _)
      | (with_reducible exact laws_numbers.mono _ _)
      | (with_reducible exact laws_short.mono _ _)
      | (with_reducible exact spec_LikeOK.mono _ _ _ _ _)
      | (with_reducible exact LeO.refl _)
      | (with_reducible exact LeO.none _)
      | (with_reducible refine LeO.ite ?_ ?_)
      | (with_reducible refine LeO.bind ?_ (fun _ => ?_))
      | exact ih0 _ _ _
      | exact laws_numbers.mono _ _
      | exact laws_short.mono _ _
      | exact spec_LikeOK.mono _ _ _ _ _
      | exact LeO.none _
      | refine LeO.ite ?_ ?_
      | refine LeO.bind ?_ (fun _ => ?_)
theorem laws_likes.mono : ∀ a0 k, LeO (laws_likes.f k a0) (laws_likes.f (k + 1) a0) := by
  intro a0 k
  have ih0 := laws_likes.mono_l k
  unfold laws_likes.f
  repeat' first
      | (with_reducible exact ih0 _ _ _)
      | (with_reducible exact laws_numbers.mono _ _)
      | (with_reducible exact laws_short.mono _ _)
      | (with_reducible exact spec_LikeOK.mono _ _ _ _ _)
      | (with_reducible exact LeO.refl _)
      | (with_reducible exact LeO.none _)
      | (with_reducible refine LeO.ite ?_ ?_)
      | (with_reducible refine LeO.bind ?_ (fun _ => ?_))
      | exact ih0 _ _ _
      | exact laws_numbers.mono _ _
      | exact laws_short.mono _ _
      | exact spec_LikeOK.mono _ _ _ _ _
      | exact LeO.none _
      | refine LeO.ite ?_ ?_
      | refine LeO.bind ?_ (fun _ => ?_)
set_option maxHeartbeats 8000000 in
set_option maxRecDepth 100000 in
theorem laws_likes.calls (k : Nat) (A0 : Option Addr) (c0 : Nat) (l0 : List (S24)) (r : Bool) (w : World) (hr0 : Kd.C k24 w A0 l0.length l0) (hc0 : l0.length ≤ c0) (h : laws_likes.f k l0 = some r) :
    Calls Tryz.prog 7 #[.slice A0 l0.length c0] w fun e w' => e = .returned (.bool r) ∧ Below w.heap.size w w' := by
  have hu24 := Tryz.underlying24
  have HR0 := Aside0.mk hr0
  have HC0 := Aside0.mk hc0
  clear hr0 hc0
  have HB := Aside0.mk (Below.refl w.heap.size w)
  have H : (laws_likes.l0 k l0 (l0.length : Int) 0) = some r := h
  clear h
  have H' := Aside0.mk H
  clear H
  go_enter Tryz.func7, Tryz.ntmps7
  go_wp2
  go_loopg [7] k (fun kq v7 w' => ∃ (x7_1 : Int), v7 = .int .i64 x7_1 ∧ Aside0 (laws_likes.l0 kq l0 (l0.length : Int) x7_1 = some r) ∧ Aside0 (kq ≤ k) ∧ Aside0 (Below w.heap.size w w'))
  case atStart => exact ⟨(0), (by first | rfl | (simp; done) | (simp [*]; done)), H', ⟨Nat.le_refl _⟩, ⟨by repeat (first | (with_reducible first | exact HB.out | apply below_alloc | apply pw_below_drewN | apply below_drew1) | exact HB.out)⟩⟩
  case round =>
    clear H'
    obtain ⟨x7_1, rfl, HA, HK1, HB⟩ := hrel
    cases gk with
    | zero => exact absurd HA.out (by simp [laws_likes.l0])
    | succ k1 =>
      have H := HA.out
      clear HA
      simp only [laws_likes.l0] at H
      by_cases c2 : x7_1 < (l0.length : Int)
      · rw [if_pos c2] at H
        have c2b0 : decide (x7_1 < (l0.length : Int)) = true := decide_eq_true c2
        clear c2
        by_cases c3 : 0 ≤ x7_1
        · rw [if_pos c3] at H
          have c3b0 : decide (0 ≤ x7_1) = true := decide_eq_true c3
          clear c3
          by_cases c4 : x7_1 < (l0.length : Int)
          · rw [if_pos c4] at H
            have c4b0 : decide (x7_1 < (l0.length : Int)) = true := decide_eq_true c4
            clear c4
            obtain ⟨y148, hy148⟩ : ∃ y_ : List ByteArray, y_ = (([(rd_T24 l0 x7_1).f2, (rd_T24 l0 x7_1).f3] : List ByteArray)) := ⟨_, rfl⟩
            replace H : ((laws_short.f k1 y148).bind fun t151 => (if t151 = true then ((laws_numbers.f k1 ((rd_T24 l0 x7_1).f1)).bind fun t152 => (if t152 = true then ((spec_LikeOK.f k1 ((rd_T24 l0 x7_1).f0) ((rd_T24 l0 x7_1).f1) ((rd_T24 l0 x7_1).f2) ((rd_T24 l0 x7_1).f3)).bind fun t153 => (if t153 = true then (laws_likes.l0 k1 l0 (l0.length : Int) (wrap64 (x7_1 + 1))) else (some false))) else (some false))) else (some false))) = some r := by first | (rw [hy148]; with_reducible exact H) | (have H2_ := (Option.bind_some _ _).symm.trans H; rw [hy148]; with_reducible exact H2_) | (have H2_ := (Option.bind_some _ _).symm.trans H; with_reducible exact H2_) | with_reducible exact H | (rw [hy148]; exact H) | exact H
            have Ny148 := Aside0.mk hy148
            clear hy148
            replace H := Option.bind_eq_some_iff.mp H
            obtain ⟨t151, A50, H⟩ := H
            replace H : (if t151 = true then ((laws_numbers.f k1 ((rd_T24 l0 x7_1).f1)).bind fun t152 => (if t152 = true then ((spec_LikeOK.f k1 ((rd_T24 l0 x7_1).f0) ((rd_T24 l0 x7_1).f1) ((rd_T24 l0 x7_1).f2) ((rd_T24 l0 x7_1).f3)).bind fun t153 => (if t153 = true then (laws_likes.l0 k1 l0 (l0.length : Int) (wrap64 (x7_1 + 1))) else (some false))) else (some false))) else (some false)) = some r := H
            have A5 := Aside0.mk A50
            clear A50
            by_cases c6 : t151 = true
            · subst c6
              have H1 : ((laws_numbers.f k1 ((rd_T24 l0 x7_1).f1)).bind fun t152 => (if t152 = true then ((spec_LikeOK.f k1 ((rd_T24 l0 x7_1).f0) ((rd_T24 l0 x7_1).f1) ((rd_T24 l0 x7_1).f2) ((rd_T24 l0 x7_1).f3)).bind fun t153 => (if t153 = true then (laws_likes.l0 k1 l0 (l0.length : Int) (wrap64 (x7_1 + 1))) else (some false))) else (some false))) = some r := by rw [if_pos rfl] at H; exact H
              clear H
              have H := H1
              clear H1
              replace H := Option.bind_eq_some_iff.mp H
              obtain ⟨t152, A70, H⟩ := H
              replace H : (if t152 = true then ((spec_LikeOK.f k1 ((rd_T24 l0 x7_1).f0) ((rd_T24 l0 x7_1).f1) ((rd_T24 l0 x7_1).f2) ((rd_T24 l0 x7_1).f3)).bind fun t153 => (if t153 = true then (laws_likes.l0 k1 l0 (l0.length : Int) (wrap64 (x7_1 + 1))) else (some false))) else (some false)) = some r := H
              have A7 := Aside0.mk A70
              clear A70
              by_cases c8 : t152 = true
              · subst c8
                have H1 : ((spec_LikeOK.f k1 ((rd_T24 l0 x7_1).f0) ((rd_T24 l0 x7_1).f1) ((rd_T24 l0 x7_1).f2) ((rd_T24 l0 x7_1).f3)).bind fun t153 => (if t153 = true then (laws_likes.l0 k1 l0 (l0.length : Int) (wrap64 (x7_1 + 1))) else (some false))) = some r := by rw [if_pos rfl] at H; exact H
                clear H
                have H := H1
                clear H1
                replace H := Option.bind_eq_some_iff.mp H
                obtain ⟨t153, A90, H⟩ := H
                replace H : (if t153 = true then (laws_likes.l0 k1 l0 (l0.length : Int) (wrap64 (x7_1 + 1))) else (some false)) = some r := H
                have A9 := Aside0.mk A90
                clear A90
                by_cases c10 : t153 = true
                · subst c10
                  have H1 : (laws_likes.l0 k1 l0 (l0.length : Int) (wrap64 (x7_1 + 1))) = some r := by rw [if_pos rfl] at H; exact H
                  clear H
                  have H := H1
                  clear H1
                  have H' := Aside0.mk H
                  clear H
                  have p146 : 0 ≤ (x7_1 : Int) := of_decide_eq_true (by first | (with_reducible assumption) | assumption)
                  have q146 : x7_1 < (l0.length : Int) := of_decide_eq_true (by first | (with_reducible assumption) | assumption)
                  obtain ⟨ad146, A146_1, c146_1, e146, hx146_0, hx146_1, hx146_2, hx146_3, hl146_1, hi146_1⟩ := at_T24 HR0.out x7_1 p146 q146
                  cases e146
                  replace hx146_0 := (HB.out.cell (World.block_lt_of_cell? w _ hx146_0)).trans hx146_0
                  replace hx146_1 := (HB.out.cell (World.block_lt_of_cell? w _ hx146_1)).trans hx146_1
                  replace hx146_2 := (HB.out.cell (World.block_lt_of_cell? w _ hx146_2)).trans hx146_2
                  replace hx146_3 := (HB.out.cell (World.block_lt_of_cell? w _ hx146_3)).trans hx146_3
                  have HR146_1 := Aside0.mk hi146_1
                  have HC146_1 := Aside0.mk hl146_1
                  clear hi146_1 hl146_1
                  replace p146 := eq_true p146
                  replace q146 := eq_true q146
                  go_wp2_with (first | ((with_reducible refine gate_dst (N := 4) rfl ?_); refine box_event ?hg (N := 4) ?hd (cs := #[.bool false, .slice none 0 0, .string (⟨#[]⟩ : ByteArray), .string (⟨#[]⟩ : ByteArray)]) (t := 24) ?hr ?_; (case hd => rfl); (case hg => rfl); (case hr => first | (go_simp; done) | (go_simp; rfl)); intro gb147 hg w11 hbox hb; have n0_ := Aside0.mk (below_step (by repeat (first | (with_reducible first | exact HB.out | apply below_alloc | apply pw_below_drewN | apply below_drew1) | exact HB.out)) hb); have n1_ := Aside0.mk (hbox); have n2_ := Aside0.mk ((by rw [hg]; exact (below_size (by repeat (first | (with_reducible first | exact HB.out | apply below_alloc | apply pw_below_drewN | apply below_drew1) | exact HB.out))) : w.heap.size ≤ gb147)); have n3_ := Aside0.mk ((by rw [hg]; exact (below_size (by repeat (first | (with_reducible first | exact HB.out | apply below_alloc | apply pw_below_drewN | apply below_drew1) | exact HB.out))) : w.heap.size ≤ gb147)); clear HB; have HB := n0_; have BK147 := n1_; have GW147 := n2_; have GE147 := n3_; clear n0_ n1_ n2_ n3_; clear hb hbox hg; have hcz12_0 : w11.cell? ⟨gb147, 0, none⟩ = some (.bool false) := (blk_cell BK147.out 0).trans rfl; have hcz12_1 : w11.cell? ⟨gb147, 1, none⟩ = some (.slice none 0 0) := (blk_cell BK147.out 1).trans rfl; have hcz12_2 : w11.cell? ⟨gb147, 2, none⟩ = some (.string (⟨#[]⟩ : ByteArray)) := (blk_cell BK147.out 2).trans rfl; have hcz12_3 : w11.cell? ⟨gb147, 3, none⟩ = some (.string (⟨#[]⟩ : ByteArray)) := (blk_cell BK147.out 3).trans rfl; have hfz12_0 := blk_frozen BK147.out 0; have hfz12_1 := blk_frozen BK147.out 1; have hfz12_2 := blk_frozen BK147.out 2; have hfz12_3 := blk_frozen BK147.out 3) | ((with_reducible refine gate_dst (N := 15) rfl ?_); refine Kd.R_lit Kd.string _ 9 ?hg (N := 15) ?hd (xs := ([(rd_T24 l0 x7_1).f2, (rd_T24 l0 x7_1).f3] : List ByteArray)) (inner := [.string ((rd_T24 l0 x7_1).f2), .string ((rd_T24 l0 x7_1).f3)]) (ok := fun _ => True) (okp := fun _ => True) ?hr ?hp (fun _ hk => hk) trivial (Below.refl _ _) (Nat.le_refl _) (by simp) ?_; (case hd => rfl); (case hg => rfl); (case hr => first | (go_simp; done) | (go_simp; rfl)); (case hp => exact (Reps.one (show Kd.M Kd.string _ _ _ ((rd_T24 l0 x7_1).f2) [.string ((rd_T24 l0 x7_1).f2)] from rfl) (Reps.one (show Kd.M Kd.string _ _ _ ((rd_T24 l0 x7_1).f3) [.string ((rd_T24 l0 x7_1).f3)] from rfl) (Reps.none _ _)))); intro v149 w13 ho14 hb hg_ hnew_; clear hg_ hnew_; (first | rw [← Ny148.out] at ho14 | (simp only [Int.reduceToNat] at ho14; rw [← Ny148.out] at ho14)); have n0_ := Aside0.mk (Kd.R_lower ho14 (below_size (by repeat (first | (with_reducible first | exact HB.out | apply below_alloc | apply pw_below_drewN | apply below_drew1 | refine below_set ?_ GE147.out) | exact HB.out)))); have n1_ := Aside0.mk (blk_below (g := gb147) (o := .cells #[.bool ((rd_T24 l0 x7_1).f0), .slice A146_1 ((rd_T24 l0 x7_1).f1).length c146_1, .string ((rd_T24 l0 x7_1).f2), .string ((rd_T24 l0 x7_1).f3)] 24 (0, 0)) (by (with_reducible repeat (first | refine blk_drewN ?_ _ | refine blk_drew ?_ | refine blk_alloc ?_ _)); refine blk_put (cs := #[.bool ((rd_T24 l0 x7_1).f0), .slice A146_1 ((rd_T24 l0 x7_1).f1).length c146_1, .string ((rd_T24 l0 x7_1).f2), .string (⟨#[]⟩ : ByteArray)]) ?_ 3 _ rfl; (with_reducible repeat (first | refine blk_drewN ?_ _ | refine blk_drew ?_ | refine blk_alloc ?_ _)); refine blk_put (cs := #[.bool ((rd_T24 l0 x7_1).f0), .slice A146_1 ((rd_T24 l0 x7_1).f1).length c146_1, .string (⟨#[]⟩ : ByteArray), .string (⟨#[]⟩ : ByteArray)]) ?_ 2 _ rfl; (with_reducible repeat (first | refine blk_drewN ?_ _ | refine blk_drew ?_ | refine blk_alloc ?_ _)); refine blk_put (cs := #[.bool ((rd_T24 l0 x7_1).f0), .slice none 0 0, .string (⟨#[]⟩ : ByteArray), .string (⟨#[]⟩ : ByteArray)]) ?_ 1 _ rfl; (with_reducible repeat (first | refine blk_drewN ?_ _ | refine blk_drew ?_ | refine blk_alloc ?_ _)); refine blk_put (cs := #[.bool false, .slice none 0 0, .string (⟨#[]⟩ : ByteArray), .string (⟨#[]⟩ : ByteArray)]) ?_ 0 _ rfl; (with_reducible repeat (first | refine blk_drewN ?_ _ | refine blk_drew ?_ | refine blk_alloc ?_ _)); exact BK147.out) hb); have n2_ := Aside0.mk (below_step (by repeat (first | (with_reducible first | exact HB.out | apply below_alloc | apply pw_below_drewN | apply below_drew1 | refine below_set ?_ GE147.out) | exact HB.out)) hb); clear BK147; clear HB; have HO150 := n0_; have BK147 := n1_; have HB := n2_; clear n0_ n1_ n2_; clear hb ho14; obtain ⟨Ao15, co15, eo15⟩ := Kd.R_slice HO150.out; subst eo15) | ((with_reducible refine gate_callee (f := 19) rfl ?_); refine goesL_ (some 16) rfl rfl Tryz.func19 (by kernel_rfl) rfl #[.slice Ao15 y148.length co15] rfl (by (try simp only [List.map_toArray, List.map_cons, List.map_nil]); first | done | rfl | (simp only [List.length_drop, List.length_take]; rfl)) ?_; (with_reducible refine (laws_short.calls k1 _ _ y148 true _ ?side1 ?side2 A5.out).mono ?_); (case side1 => repeat (first | exact (Kd.R_reads' HO150.out).2.2 | (with_reducible refine Kd.C_alloc ?_ _) | (with_reducible refine Kd.C_drewN ?_ _) | (with_reducible refine Kd.C_drew ?_))); (case side2 => exact (Kd.R_reads' HO150.out).2.1); rintro e w' ⟨rfl, ⟨nd, rfl⟩⟩; refine ⟨_, rfl, ?_⟩; have hcz16_0 : w13.cell? ⟨gb147, 0, none⟩ = some (.bool ((rd_T24 l0 x7_1).f0)) := (blk_cell BK147.out 0).trans rfl; have hcz16_1 : w13.cell? ⟨gb147, 1, none⟩ = some (.slice A146_1 ((rd_T24 l0 x7_1).f1).length c146_1) := (blk_cell BK147.out 1).trans rfl; have hcz16_2 : w13.cell? ⟨gb147, 2, none⟩ = some (.string ((rd_T24 l0 x7_1).f2)) := (blk_cell BK147.out 2).trans rfl; have hcz16_3 : w13.cell? ⟨gb147, 3, none⟩ = some (.string ((rd_T24 l0 x7_1).f3)) := (blk_cell BK147.out 3).trans rfl; have hfz16_0 := blk_frozen BK147.out 0; have hfz16_1 := blk_frozen BK147.out 1; have hfz16_2 := blk_frozen BK147.out 2; have hfz16_3 := blk_frozen BK147.out 3) | (go_at_call 20; (with_reducible refine (laws_numbers.calls k1 _ _ ((rd_T24 l0 x7_1).f1) true _ ?side1 ?side2 A7.out).mono ?_); (case side1 => repeat (first | exact (Kd.C_below HR146_1.out (by repeat (first | (with_reducible first | exact HB.out | apply below_alloc | apply pw_below_drewN | apply below_drew1 | refine below_set ?_ GE147.out) | exact HB.out))) | (with_reducible refine Kd.C_alloc ?_ _) | (with_reducible refine Kd.C_drewN ?_ _) | (with_reducible refine Kd.C_drew ?_))); (case side2 => exact HC146_1.out); rintro e w17 ⟨rfl, hb⟩; have n0_ := Aside0.mk (Kd.R_below (by (with_reducible repeat (first | apply Kd.R_alloc | apply Kd.R_drewN | apply Kd.R_drew)); exact HO150.out) hb); have n1_ := Aside0.mk (blk_below (g := gb147) (o := .cells #[.bool ((rd_T24 l0 x7_1).f0), .slice A146_1 ((rd_T24 l0 x7_1).f1).length c146_1, .string ((rd_T24 l0 x7_1).f2), .string ((rd_T24 l0 x7_1).f3)] 24 (0, 0)) (by (with_reducible repeat (first | refine blk_drewN ?_ _ | refine blk_drew ?_ | refine blk_alloc ?_ _)); exact BK147.out) hb); have n2_ := Aside0.mk (below_step (by repeat (first | (with_reducible first | exact HB.out | apply below_alloc | apply pw_below_drewN | apply below_drew1 | refine below_set ?_ GE147.out) | exact HB.out)) hb); clear HO150; clear BK147; clear HB; have HO150 := n0_; have BK147 := n1_; have HB := n2_; clear n0_ n1_ n2_; (try clear hb); (try clear hb2); (try clear hk); (try clear hi); have hcz18_0 : w17.cell? ⟨gb147, 0, none⟩ = some (.bool ((rd_T24 l0 x7_1).f0)) := (blk_cell BK147.out 0).trans rfl; have hcz18_1 : w17.cell? ⟨gb147, 1, none⟩ = some (.slice A146_1 ((rd_T24 l0 x7_1).f1).length c146_1) := (blk_cell BK147.out 1).trans rfl; have hcz18_2 : w17.cell? ⟨gb147, 2, none⟩ = some (.string ((rd_T24 l0 x7_1).f2)) := (blk_cell BK147.out 2).trans rfl; have hcz18_3 : w17.cell? ⟨gb147, 3, none⟩ = some (.string ((rd_T24 l0 x7_1).f3)) := (blk_cell BK147.out 3).trans rfl; have hfz18_0 := blk_frozen BK147.out 0; have hfz18_1 := blk_frozen BK147.out 1; have hfz18_2 := blk_frozen BK147.out 2; have hfz18_3 := blk_frozen BK147.out 3) | (go_at_call 21; (with_reducible refine (spec_LikeOK.calls k1 ((rd_T24 l0 x7_1).f0) _ _ ((rd_T24 l0 x7_1).f1) ((rd_T24 l0 x7_1).f2) ((rd_T24 l0 x7_1).f3) true _ ?side1 ?side2 A9.out).mono ?_); (case side1 => repeat (first | exact (Kd.C_below HR146_1.out HB.out) | (with_reducible refine Kd.C_alloc ?_ _) | (with_reducible refine Kd.C_drewN ?_ _) | (with_reducible refine Kd.C_drew ?_))); (case side2 => exact HC146_1.out); rintro e w19 ⟨rfl, hb⟩; have n0_ := Aside0.mk (Kd.R_below (by (with_reducible repeat (first | apply Kd.R_alloc | apply Kd.R_drewN | apply Kd.R_drew)); exact HO150.out) hb); have n1_ := Aside0.mk (blk_below (g := gb147) (o := .cells #[.bool ((rd_T24 l0 x7_1).f0), .slice A146_1 ((rd_T24 l0 x7_1).f1).length c146_1, .string ((rd_T24 l0 x7_1).f2), .string ((rd_T24 l0 x7_1).f3)] 24 (0, 0)) (by (with_reducible repeat (first | refine blk_drewN ?_ _ | refine blk_drew ?_ | refine blk_alloc ?_ _)); exact BK147.out) hb); have n2_ := Aside0.mk (below_step (by repeat (first | (with_reducible first | exact HB.out | apply below_alloc | apply pw_below_drewN | apply below_drew1 | refine below_set ?_ GE147.out) | exact HB.out)) hb); clear HO150; clear BK147; clear HB; have HO150 := n0_; have BK147 := n1_; have HB := n2_; clear n0_ n1_ n2_; (try clear hb); (try clear hb2); (try clear hk); (try clear hi)))
                  go_roundg k1
                  case measure => have := HK1.out; omega
                  case rel => exact ⟨(wrap64 (x7_1 + 1)), (by first | rfl | (simp; done) | (simp [*]; done)), H', ⟨by have := HK1.out; omega⟩, ⟨by repeat (first | (with_reducible first | exact HB.out | apply below_alloc | apply pw_below_drewN | apply below_drew1 | refine below_set ?_ GE147.out) | exact HB.out)⟩⟩
                · replace c10 := Bool.eq_false_iff.mpr c10
                  subst c10
                  have H1 : (some false) = some r := by rw [if_neg (show ¬ (false = true) by decide)] at H; exact H
                  clear H
                  have H := H1
                  clear H1
                  obtain rfl := Option.some.inj H
                  have p146 : 0 ≤ (x7_1 : Int) := of_decide_eq_true (by first | (with_reducible assumption) | assumption)
                  have q146 : x7_1 < (l0.length : Int) := of_decide_eq_true (by first | (with_reducible assumption) | assumption)
                  obtain ⟨ad146, A146_1, c146_1, e146, hx146_0, hx146_1, hx146_2, hx146_3, hl146_1, hi146_1⟩ := at_T24 HR0.out x7_1 p146 q146
                  cases e146
                  replace hx146_0 := (HB.out.cell (World.block_lt_of_cell? w _ hx146_0)).trans hx146_0
                  replace hx146_1 := (HB.out.cell (World.block_lt_of_cell? w _ hx146_1)).trans hx146_1
                  replace hx146_2 := (HB.out.cell (World.block_lt_of_cell? w _ hx146_2)).trans hx146_2
                  replace hx146_3 := (HB.out.cell (World.block_lt_of_cell? w _ hx146_3)).trans hx146_3
                  have HR146_1 := Aside0.mk hi146_1
                  have HC146_1 := Aside0.mk hl146_1
                  clear hi146_1 hl146_1
                  replace p146 := eq_true p146
                  replace q146 := eq_true q146
                  go_wp2_with (first | ((with_reducible refine gate_dst (N := 4) rfl ?_); refine box_event ?hg (N := 4) ?hd (cs := #[.bool false, .slice none 0 0, .string (⟨#[]⟩ : ByteArray), .string (⟨#[]⟩ : ByteArray)]) (t := 24) ?hr ?_; (case hd => rfl); (case hg => rfl); (case hr => first | (go_simp; done) | (go_simp; rfl)); intro gb147 hg w20 hbox hb; have n0_ := Aside0.mk (below_step (by repeat (first | (with_reducible first | exact HB.out | apply below_alloc | apply pw_below_drewN | apply below_drew1) | exact HB.out)) hb); have n1_ := Aside0.mk (hbox); have n2_ := Aside0.mk ((by rw [hg]; exact (below_size (by repeat (first | (with_reducible first | exact HB.out | apply below_alloc | apply pw_below_drewN | apply below_drew1) | exact HB.out))) : w.heap.size ≤ gb147)); have n3_ := Aside0.mk ((by rw [hg]; exact (below_size (by repeat (first | (with_reducible first | exact HB.out | apply below_alloc | apply pw_below_drewN | apply below_drew1) | exact HB.out))) : w.heap.size ≤ gb147)); clear HB; have HB := n0_; have BK147 := n1_; have GW147 := n2_; have GE147 := n3_; clear n0_ n1_ n2_ n3_; clear hb hbox hg; have hcz21_0 : w20.cell? ⟨gb147, 0, none⟩ = some (.bool false) := (blk_cell BK147.out 0).trans rfl; have hcz21_1 : w20.cell? ⟨gb147, 1, none⟩ = some (.slice none 0 0) := (blk_cell BK147.out 1).trans rfl; have hcz21_2 : w20.cell? ⟨gb147, 2, none⟩ = some (.string (⟨#[]⟩ : ByteArray)) := (blk_cell BK147.out 2).trans rfl; have hcz21_3 : w20.cell? ⟨gb147, 3, none⟩ = some (.string (⟨#[]⟩ : ByteArray)) := (blk_cell BK147.out 3).trans rfl; have hfz21_0 := blk_frozen BK147.out 0; have hfz21_1 := blk_frozen BK147.out 1; have hfz21_2 := blk_frozen BK147.out 2; have hfz21_3 := blk_frozen BK147.out 3) | ((with_reducible refine gate_dst (N := 15) rfl ?_); refine Kd.R_lit Kd.string _ 9 ?hg (N := 15) ?hd (xs := ([(rd_T24 l0 x7_1).f2, (rd_T24 l0 x7_1).f3] : List ByteArray)) (inner := [.string ((rd_T24 l0 x7_1).f2), .string ((rd_T24 l0 x7_1).f3)]) (ok := fun _ => True) (okp := fun _ => True) ?hr ?hp (fun _ hk => hk) trivial (Below.refl _ _) (Nat.le_refl _) (by simp) ?_; (case hd => rfl); (case hg => rfl); (case hr => first | (go_simp; done) | (go_simp; rfl)); (case hp => exact (Reps.one (show Kd.M Kd.string _ _ _ ((rd_T24 l0 x7_1).f2) [.string ((rd_T24 l0 x7_1).f2)] from rfl) (Reps.one (show Kd.M Kd.string _ _ _ ((rd_T24 l0 x7_1).f3) [.string ((rd_T24 l0 x7_1).f3)] from rfl) (Reps.none _ _)))); intro v149 w22 ho23 hb hg_ hnew_; clear hg_ hnew_; (first | rw [← Ny148.out] at ho23 | (simp only [Int.reduceToNat] at ho23; rw [← Ny148.out] at ho23)); have n0_ := Aside0.mk (Kd.R_lower ho23 (below_size (by repeat (first | (with_reducible first | exact HB.out | apply below_alloc | apply pw_below_drewN | apply below_drew1 | refine below_set ?_ GE147.out) | exact HB.out)))); have n1_ := Aside0.mk (blk_below (g := gb147) (o := .cells #[.bool ((rd_T24 l0 x7_1).f0), .slice A146_1 ((rd_T24 l0 x7_1).f1).length c146_1, .string ((rd_T24 l0 x7_1).f2), .string ((rd_T24 l0 x7_1).f3)] 24 (0, 0)) (by (with_reducible repeat (first | refine blk_drewN ?_ _ | refine blk_drew ?_ | refine blk_alloc ?_ _)); refine blk_put (cs := #[.bool ((rd_T24 l0 x7_1).f0), .slice A146_1 ((rd_T24 l0 x7_1).f1).length c146_1, .string ((rd_T24 l0 x7_1).f2), .string (⟨#[]⟩ : ByteArray)]) ?_ 3 _ rfl; (with_reducible repeat (first | refine blk_drewN ?_ _ | refine blk_drew ?_ | refine blk_alloc ?_ _)); refine blk_put (cs := #[.bool ((rd_T24 l0 x7_1).f0), .slice A146_1 ((rd_T24 l0 x7_1).f1).length c146_1, .string (⟨#[]⟩ : ByteArray), .string (⟨#[]⟩ : ByteArray)]) ?_ 2 _ rfl; (with_reducible repeat (first | refine blk_drewN ?_ _ | refine blk_drew ?_ | refine blk_alloc ?_ _)); refine blk_put (cs := #[.bool ((rd_T24 l0 x7_1).f0), .slice none 0 0, .string (⟨#[]⟩ : ByteArray), .string (⟨#[]⟩ : ByteArray)]) ?_ 1 _ rfl; (with_reducible repeat (first | refine blk_drewN ?_ _ | refine blk_drew ?_ | refine blk_alloc ?_ _)); refine blk_put (cs := #[.bool false, .slice none 0 0, .string (⟨#[]⟩ : ByteArray), .string (⟨#[]⟩ : ByteArray)]) ?_ 0 _ rfl; (with_reducible repeat (first | refine blk_drewN ?_ _ | refine blk_drew ?_ | refine blk_alloc ?_ _)); exact BK147.out) hb); have n2_ := Aside0.mk (below_step (by repeat (first | (with_reducible first | exact HB.out | apply below_alloc | apply pw_below_drewN | apply below_drew1 | refine below_set ?_ GE147.out) | exact HB.out)) hb); clear BK147; clear HB; have HO150 := n0_; have BK147 := n1_; have HB := n2_; clear n0_ n1_ n2_; clear hb ho23; obtain ⟨Ao24, co24, eo24⟩ := Kd.R_slice HO150.out; subst eo24) | ((with_reducible refine gate_callee (f := 19) rfl ?_); refine goesL_ (some 16) rfl rfl Tryz.func19 (by kernel_rfl) rfl #[.slice Ao24 y148.length co24] rfl (by (try simp only [List.map_toArray, List.map_cons, List.map_nil]); first | done | rfl | (simp only [List.length_drop, List.length_take]; rfl)) ?_; (with_reducible refine (laws_short.calls k1 _ _ y148 true _ ?side1 ?side2 A5.out).mono ?_); (case side1 => repeat (first | exact (Kd.R_reads' HO150.out).2.2 | (with_reducible refine Kd.C_alloc ?_ _) | (with_reducible refine Kd.C_drewN ?_ _) | (with_reducible refine Kd.C_drew ?_))); (case side2 => exact (Kd.R_reads' HO150.out).2.1); rintro e w' ⟨rfl, ⟨nd, rfl⟩⟩; refine ⟨_, rfl, ?_⟩; have hcz25_0 : w22.cell? ⟨gb147, 0, none⟩ = some (.bool ((rd_T24 l0 x7_1).f0)) := (blk_cell BK147.out 0).trans rfl; have hcz25_1 : w22.cell? ⟨gb147, 1, none⟩ = some (.slice A146_1 ((rd_T24 l0 x7_1).f1).length c146_1) := (blk_cell BK147.out 1).trans rfl; have hcz25_2 : w22.cell? ⟨gb147, 2, none⟩ = some (.string ((rd_T24 l0 x7_1).f2)) := (blk_cell BK147.out 2).trans rfl; have hcz25_3 : w22.cell? ⟨gb147, 3, none⟩ = some (.string ((rd_T24 l0 x7_1).f3)) := (blk_cell BK147.out 3).trans rfl; have hfz25_0 := blk_frozen BK147.out 0; have hfz25_1 := blk_frozen BK147.out 1; have hfz25_2 := blk_frozen BK147.out 2; have hfz25_3 := blk_frozen BK147.out 3) | (go_at_call 20; (with_reducible refine (laws_numbers.calls k1 _ _ ((rd_T24 l0 x7_1).f1) true _ ?side1 ?side2 A7.out).mono ?_); (case side1 => repeat (first | exact (Kd.C_below HR146_1.out (by repeat (first | (with_reducible first | exact HB.out | apply below_alloc | apply pw_below_drewN | apply below_drew1 | refine below_set ?_ GE147.out) | exact HB.out))) | (with_reducible refine Kd.C_alloc ?_ _) | (with_reducible refine Kd.C_drewN ?_ _) | (with_reducible refine Kd.C_drew ?_))); (case side2 => exact HC146_1.out); rintro e w26 ⟨rfl, hb⟩; have n0_ := Aside0.mk (Kd.R_below (by (with_reducible repeat (first | apply Kd.R_alloc | apply Kd.R_drewN | apply Kd.R_drew)); exact HO150.out) hb); have n1_ := Aside0.mk (blk_below (g := gb147) (o := .cells #[.bool ((rd_T24 l0 x7_1).f0), .slice A146_1 ((rd_T24 l0 x7_1).f1).length c146_1, .string ((rd_T24 l0 x7_1).f2), .string ((rd_T24 l0 x7_1).f3)] 24 (0, 0)) (by (with_reducible repeat (first | refine blk_drewN ?_ _ | refine blk_drew ?_ | refine blk_alloc ?_ _)); exact BK147.out) hb); have n2_ := Aside0.mk (below_step (by repeat (first | (with_reducible first | exact HB.out | apply below_alloc | apply pw_below_drewN | apply below_drew1 | refine below_set ?_ GE147.out) | exact HB.out)) hb); clear HO150; clear BK147; clear HB; have HO150 := n0_; have BK147 := n1_; have HB := n2_; clear n0_ n1_ n2_; (try clear hb); (try clear hb2); (try clear hk); (try clear hi); have hcz27_0 : w26.cell? ⟨gb147, 0, none⟩ = some (.bool ((rd_T24 l0 x7_1).f0)) := (blk_cell BK147.out 0).trans rfl; have hcz27_1 : w26.cell? ⟨gb147, 1, none⟩ = some (.slice A146_1 ((rd_T24 l0 x7_1).f1).length c146_1) := (blk_cell BK147.out 1).trans rfl; have hcz27_2 : w26.cell? ⟨gb147, 2, none⟩ = some (.string ((rd_T24 l0 x7_1).f2)) := (blk_cell BK147.out 2).trans rfl; have hcz27_3 : w26.cell? ⟨gb147, 3, none⟩ = some (.string ((rd_T24 l0 x7_1).f3)) := (blk_cell BK147.out 3).trans rfl; have hfz27_0 := blk_frozen BK147.out 0; have hfz27_1 := blk_frozen BK147.out 1; have hfz27_2 := blk_frozen BK147.out 2; have hfz27_3 := blk_frozen BK147.out 3) | (go_at_call 21; (with_reducible refine (spec_LikeOK.calls k1 ((rd_T24 l0 x7_1).f0) _ _ ((rd_T24 l0 x7_1).f1) ((rd_T24 l0 x7_1).f2) ((rd_T24 l0 x7_1).f3) false _ ?side1 ?side2 A9.out).mono ?_); (case side1 => repeat (first | exact (Kd.C_below HR146_1.out HB.out) | (with_reducible refine Kd.C_alloc ?_ _) | (with_reducible refine Kd.C_drewN ?_ _) | (with_reducible refine Kd.C_drew ?_))); (case side2 => exact HC146_1.out); rintro e w28 ⟨rfl, hb⟩; have n0_ := Aside0.mk (Kd.R_below (by (with_reducible repeat (first | apply Kd.R_alloc | apply Kd.R_drewN | apply Kd.R_drew)); exact HO150.out) hb); have n1_ := Aside0.mk (blk_below (g := gb147) (o := .cells #[.bool ((rd_T24 l0 x7_1).f0), .slice A146_1 ((rd_T24 l0 x7_1).f1).length c146_1, .string ((rd_T24 l0 x7_1).f2), .string ((rd_T24 l0 x7_1).f3)] 24 (0, 0)) (by (with_reducible repeat (first | refine blk_drewN ?_ _ | refine blk_drew ?_ | refine blk_alloc ?_ _)); exact BK147.out) hb); have n2_ := Aside0.mk (below_step (by repeat (first | (with_reducible first | exact HB.out | apply below_alloc | apply pw_below_drewN | apply below_drew1 | refine below_set ?_ GE147.out) | exact HB.out)) hb); clear HO150; clear BK147; clear HB; have HO150 := n0_; have BK147 := n1_; have HB := n2_; clear n0_ n1_ n2_; (try clear hb); (try clear hb2); (try clear hk); (try clear hi)))
                  go_ret
                  exact ⟨by first | rfl | (simp [errW_none, errW_some] <;> rfl) | (simp [*, errW_none, errW_some] <;> rfl), by repeat (first | (with_reducible first | exact HB.out | apply below_alloc | apply pw_below_drewN | apply below_drew1 | refine below_set ?_ GE147.out) | exact HB.out)⟩
              · replace c8 := Bool.eq_false_iff.mpr c8
                subst c8
                have H1 : (some false) = some r := by rw [if_neg (show ¬ (false = true) by decide)] at H; exact H
                clear H
                have H := H1
                clear H1
                obtain rfl := Option.some.inj H
                have p146 : 0 ≤ (x7_1 : Int) := of_decide_eq_true (by first | (with_reducible assumption) | assumption)
                have q146 : x7_1 < (l0.length : Int) := of_decide_eq_true (by first | (with_reducible assumption) | assumption)
                obtain ⟨ad146, A146_1, c146_1, e146, hx146_0, hx146_1, hx146_2, hx146_3, hl146_1, hi146_1⟩ := at_T24 HR0.out x7_1 p146 q146
                cases e146
                replace hx146_0 := (HB.out.cell (World.block_lt_of_cell? w _ hx146_0)).trans hx146_0
                replace hx146_1 := (HB.out.cell (World.block_lt_of_cell? w _ hx146_1)).trans hx146_1
                replace hx146_2 := (HB.out.cell (World.block_lt_of_cell? w _ hx146_2)).trans hx146_2
                replace hx146_3 := (HB.out.cell (World.block_lt_of_cell? w _ hx146_3)).trans hx146_3
                have HR146_1 := Aside0.mk hi146_1
                have HC146_1 := Aside0.mk hl146_1
                clear hi146_1 hl146_1
                replace p146 := eq_true p146
                replace q146 := eq_true q146
                go_wp2_with (first | ((with_reducible refine gate_dst (N := 4) rfl ?_); refine box_event ?hg (N := 4) ?hd (cs := #[.bool false, .slice none 0 0, .string (⟨#[]⟩ : ByteArray), .string (⟨#[]⟩ : ByteArray)]) (t := 24) ?hr ?_; (case hd => rfl); (case hg => rfl); (case hr => first | (go_simp; done) | (go_simp; rfl)); intro gb147 hg w29 hbox hb; have n0_ := Aside0.mk (below_step (by repeat (first | (with_reducible first | exact HB.out | apply below_alloc | apply pw_below_drewN | apply below_drew1) | exact HB.out)) hb); have n1_ := Aside0.mk (hbox); have n2_ := Aside0.mk ((by rw [hg]; exact (below_size (by repeat (first | (with_reducible first | exact HB.out | apply below_alloc | apply pw_below_drewN | apply below_drew1) | exact HB.out))) : w.heap.size ≤ gb147)); have n3_ := Aside0.mk ((by rw [hg]; exact (below_size (by repeat (first | (with_reducible first | exact HB.out | apply below_alloc | apply pw_below_drewN | apply below_drew1) | exact HB.out))) : w.heap.size ≤ gb147)); clear HB; have HB := n0_; have BK147 := n1_; have GW147 := n2_; have GE147 := n3_; clear n0_ n1_ n2_ n3_; clear hb hbox hg; have hcz30_0 : w29.cell? ⟨gb147, 0, none⟩ = some (.bool false) := (blk_cell BK147.out 0).trans rfl; have hcz30_1 : w29.cell? ⟨gb147, 1, none⟩ = some (.slice none 0 0) := (blk_cell BK147.out 1).trans rfl; have hcz30_2 : w29.cell? ⟨gb147, 2, none⟩ = some (.string (⟨#[]⟩ : ByteArray)) := (blk_cell BK147.out 2).trans rfl; have hcz30_3 : w29.cell? ⟨gb147, 3, none⟩ = some (.string (⟨#[]⟩ : ByteArray)) := (blk_cell BK147.out 3).trans rfl; have hfz30_0 := blk_frozen BK147.out 0; have hfz30_1 := blk_frozen BK147.out 1; have hfz30_2 := blk_frozen BK147.out 2; have hfz30_3 := blk_frozen BK147.out 3) | ((with_reducible refine gate_dst (N := 15) rfl ?_); refine Kd.R_lit Kd.string _ 9 ?hg (N := 15) ?hd (xs := ([(rd_T24 l0 x7_1).f2, (rd_T24 l0 x7_1).f3] : List ByteArray)) (inner := [.string ((rd_T24 l0 x7_1).f2), .string ((rd_T24 l0 x7_1).f3)]) (ok := fun _ => True) (okp := fun _ => True) ?hr ?hp (fun _ hk => hk) trivial (Below.refl _ _) (Nat.le_refl _) (by simp) ?_; (case hd => rfl); (case hg => rfl); (case hr => first | (go_simp; done) | (go_simp; rfl)); (case hp => exact (Reps.one (show Kd.M Kd.string _ _ _ ((rd_T24 l0 x7_1).f2) [.string ((rd_T24 l0 x7_1).f2)] from rfl) (Reps.one (show Kd.M Kd.string _ _ _ ((rd_T24 l0 x7_1).f3) [.string ((rd_T24 l0 x7_1).f3)] from rfl) (Reps.none _ _)))); intro v149 w31 ho32 hb hg_ hnew_; clear hg_ hnew_; (first | rw [← Ny148.out] at ho32 | (simp only [Int.reduceToNat] at ho32; rw [← Ny148.out] at ho32)); have n0_ := Aside0.mk (Kd.R_lower ho32 (below_size (by repeat (first | (with_reducible first | exact HB.out | apply below_alloc | apply pw_below_drewN | apply below_drew1 | refine below_set ?_ GE147.out) | exact HB.out)))); have n1_ := Aside0.mk (blk_below (g := gb147) (o := .cells #[.bool ((rd_T24 l0 x7_1).f0), .slice A146_1 ((rd_T24 l0 x7_1).f1).length c146_1, .string ((rd_T24 l0 x7_1).f2), .string ((rd_T24 l0 x7_1).f3)] 24 (0, 0)) (by (with_reducible repeat (first | refine blk_drewN ?_ _ | refine blk_drew ?_ | refine blk_alloc ?_ _)); refine blk_put (cs := #[.bool ((rd_T24 l0 x7_1).f0), .slice A146_1 ((rd_T24 l0 x7_1).f1).length c146_1, .string ((rd_T24 l0 x7_1).f2), .string (⟨#[]⟩ : ByteArray)]) ?_ 3 _ rfl; (with_reducible repeat (first | refine blk_drewN ?_ _ | refine blk_drew ?_ | refine blk_alloc ?_ _)); refine blk_put (cs := #[.bool ((rd_T24 l0 x7_1).f0), .slice A146_1 ((rd_T24 l0 x7_1).f1).length c146_1, .string (⟨#[]⟩ : ByteArray), .string (⟨#[]⟩ : ByteArray)]) ?_ 2 _ rfl; (with_reducible repeat (first | refine blk_drewN ?_ _ | refine blk_drew ?_ | refine blk_alloc ?_ _)); refine blk_put (cs := #[.bool ((rd_T24 l0 x7_1).f0), .slice none 0 0, .string (⟨#[]⟩ : ByteArray), .string (⟨#[]⟩ : ByteArray)]) ?_ 1 _ rfl; (with_reducible repeat (first | refine blk_drewN ?_ _ | refine blk_drew ?_ | refine blk_alloc ?_ _)); refine blk_put (cs := #[.bool false, .slice none 0 0, .string (⟨#[]⟩ : ByteArray), .string (⟨#[]⟩ : ByteArray)]) ?_ 0 _ rfl; (with_reducible repeat (first | refine blk_drewN ?_ _ | refine blk_drew ?_ | refine blk_alloc ?_ _)); exact BK147.out) hb); have n2_ := Aside0.mk (below_step (by repeat (first | (with_reducible first | exact HB.out | apply below_alloc | apply pw_below_drewN | apply below_drew1 | refine below_set ?_ GE147.out) | exact HB.out)) hb); clear BK147; clear HB; have HO150 := n0_; have BK147 := n1_; have HB := n2_; clear n0_ n1_ n2_; clear hb ho32; obtain ⟨Ao33, co33, eo33⟩ := Kd.R_slice HO150.out; subst eo33) | ((with_reducible refine gate_callee (f := 19) rfl ?_); refine goesL_ (some 16) rfl rfl Tryz.func19 (by kernel_rfl) rfl #[.slice Ao33 y148.length co33] rfl (by (try simp only [List.map_toArray, List.map_cons, List.map_nil]); first | done | rfl | (simp only [List.length_drop, List.length_take]; rfl)) ?_; (with_reducible refine (laws_short.calls k1 _ _ y148 true _ ?side1 ?side2 A5.out).mono ?_); (case side1 => repeat (first | exact (Kd.R_reads' HO150.out).2.2 | (with_reducible refine Kd.C_alloc ?_ _) | (with_reducible refine Kd.C_drewN ?_ _) | (with_reducible refine Kd.C_drew ?_))); (case side2 => exact (Kd.R_reads' HO150.out).2.1); rintro e w' ⟨rfl, ⟨nd, rfl⟩⟩; refine ⟨_, rfl, ?_⟩; have hcz34_0 : w31.cell? ⟨gb147, 0, none⟩ = some (.bool ((rd_T24 l0 x7_1).f0)) := (blk_cell BK147.out 0).trans rfl; have hcz34_1 : w31.cell? ⟨gb147, 1, none⟩ = some (.slice A146_1 ((rd_T24 l0 x7_1).f1).length c146_1) := (blk_cell BK147.out 1).trans rfl; have hcz34_2 : w31.cell? ⟨gb147, 2, none⟩ = some (.string ((rd_T24 l0 x7_1).f2)) := (blk_cell BK147.out 2).trans rfl; have hcz34_3 : w31.cell? ⟨gb147, 3, none⟩ = some (.string ((rd_T24 l0 x7_1).f3)) := (blk_cell BK147.out 3).trans rfl; have hfz34_0 := blk_frozen BK147.out 0; have hfz34_1 := blk_frozen BK147.out 1; have hfz34_2 := blk_frozen BK147.out 2; have hfz34_3 := blk_frozen BK147.out 3) | (go_at_call 20; (with_reducible refine (laws_numbers.calls k1 _ _ ((rd_T24 l0 x7_1).f1) false _ ?side1 ?side2 A7.out).mono ?_); (case side1 => repeat (first | exact (Kd.C_below HR146_1.out (by repeat (first | (with_reducible first | exact HB.out | apply below_alloc | apply pw_below_drewN | apply below_drew1 | refine below_set ?_ GE147.out) | exact HB.out))) | (with_reducible refine Kd.C_alloc ?_ _) | (with_reducible refine Kd.C_drewN ?_ _) | (with_reducible refine Kd.C_drew ?_))); (case side2 => exact HC146_1.out); rintro e w35 ⟨rfl, hb⟩; have n0_ := Aside0.mk (Kd.R_below (by (with_reducible repeat (first | apply Kd.R_alloc | apply Kd.R_drewN | apply Kd.R_drew)); exact HO150.out) hb); have n1_ := Aside0.mk (blk_below (g := gb147) (o := .cells #[.bool ((rd_T24 l0 x7_1).f0), .slice A146_1 ((rd_T24 l0 x7_1).f1).length c146_1, .string ((rd_T24 l0 x7_1).f2), .string ((rd_T24 l0 x7_1).f3)] 24 (0, 0)) (by (with_reducible repeat (first | refine blk_drewN ?_ _ | refine blk_drew ?_ | refine blk_alloc ?_ _)); exact BK147.out) hb); have n2_ := Aside0.mk (below_step (by repeat (first | (with_reducible first | exact HB.out | apply below_alloc | apply pw_below_drewN | apply below_drew1 | refine below_set ?_ GE147.out) | exact HB.out)) hb); clear HO150; clear BK147; clear HB; have HO150 := n0_; have BK147 := n1_; have HB := n2_; clear n0_ n1_ n2_; (try clear hb); (try clear hb2); (try clear hk); (try clear hi)))
                go_ret
                exact ⟨by first | rfl | (simp [errW_none, errW_some] <;> rfl) | (simp [*, errW_none, errW_some] <;> rfl), by repeat (first | (with_reducible first | exact HB.out | apply below_alloc | apply pw_below_drewN | apply below_drew1 | refine below_set ?_ GE147.out) | exact HB.out)⟩
            · replace c6 := Bool.eq_false_iff.mpr c6
              subst c6
              have H1 : (some false) = some r := by rw [if_neg (show ¬ (false = true) by decide)] at H; exact H
              clear H
              have H := H1
              clear H1
              obtain rfl := Option.some.inj H
              have p146 : 0 ≤ (x7_1 : Int) := of_decide_eq_true (by first | (with_reducible assumption) | assumption)
              have q146 : x7_1 < (l0.length : Int) := of_decide_eq_true (by first | (with_reducible assumption) | assumption)
              obtain ⟨ad146, A146_1, c146_1, e146, hx146_0, hx146_1, hx146_2, hx146_3, hl146_1, hi146_1⟩ := at_T24 HR0.out x7_1 p146 q146
              cases e146
              replace hx146_0 := (HB.out.cell (World.block_lt_of_cell? w _ hx146_0)).trans hx146_0
              replace hx146_1 := (HB.out.cell (World.block_lt_of_cell? w _ hx146_1)).trans hx146_1
              replace hx146_2 := (HB.out.cell (World.block_lt_of_cell? w _ hx146_2)).trans hx146_2
              replace hx146_3 := (HB.out.cell (World.block_lt_of_cell? w _ hx146_3)).trans hx146_3
              have HR146_1 := Aside0.mk hi146_1
              have HC146_1 := Aside0.mk hl146_1
              clear hi146_1 hl146_1
              replace p146 := eq_true p146
              replace q146 := eq_true q146
              go_wp2_with (first | ((with_reducible refine gate_dst (N := 4) rfl ?_); refine box_event ?hg (N := 4) ?hd (cs := #[.bool false, .slice none 0 0, .string (⟨#[]⟩ : ByteArray), .string (⟨#[]⟩ : ByteArray)]) (t := 24) ?hr ?_; (case hd => rfl); (case hg => rfl); (case hr => first | (go_simp; done) | (go_simp; rfl)); intro gb147 hg w36 hbox hb; have n0_ := Aside0.mk (below_step (by repeat (first | (with_reducible first | exact HB.out | apply below_alloc | apply pw_below_drewN | apply below_drew1) | exact HB.out)) hb); have n1_ := Aside0.mk (hbox); have n2_ := Aside0.mk ((by rw [hg]; exact (below_size (by repeat (first | (with_reducible first | exact HB.out | apply below_alloc | apply pw_below_drewN | apply below_drew1) | exact HB.out))) : w.heap.size ≤ gb147)); have n3_ := Aside0.mk ((by rw [hg]; exact (below_size (by repeat (first | (with_reducible first | exact HB.out | apply below_alloc | apply pw_below_drewN | apply below_drew1) | exact HB.out))) : w.heap.size ≤ gb147)); clear HB; have HB := n0_; have BK147 := n1_; have GW147 := n2_; have GE147 := n3_; clear n0_ n1_ n2_ n3_; clear hb hbox hg; have hcz37_0 : w36.cell? ⟨gb147, 0, none⟩ = some (.bool false) := (blk_cell BK147.out 0).trans rfl; have hcz37_1 : w36.cell? ⟨gb147, 1, none⟩ = some (.slice none 0 0) := (blk_cell BK147.out 1).trans rfl; have hcz37_2 : w36.cell? ⟨gb147, 2, none⟩ = some (.string (⟨#[]⟩ : ByteArray)) := (blk_cell BK147.out 2).trans rfl; have hcz37_3 : w36.cell? ⟨gb147, 3, none⟩ = some (.string (⟨#[]⟩ : ByteArray)) := (blk_cell BK147.out 3).trans rfl; have hfz37_0 := blk_frozen BK147.out 0; have hfz37_1 := blk_frozen BK147.out 1; have hfz37_2 := blk_frozen BK147.out 2; have hfz37_3 := blk_frozen BK147.out 3) | ((with_reducible refine gate_dst (N := 15) rfl ?_); refine Kd.R_lit Kd.string _ 9 ?hg (N := 15) ?hd (xs := ([(rd_T24 l0 x7_1).f2, (rd_T24 l0 x7_1).f3] : List ByteArray)) (inner := [.string ((rd_T24 l0 x7_1).f2), .string ((rd_T24 l0 x7_1).f3)]) (ok := fun _ => True) (okp := fun _ => True) ?hr ?hp (fun _ hk => hk) trivial (Below.refl _ _) (Nat.le_refl _) (by simp) ?_; (case hd => rfl); (case hg => rfl); (case hr => first | (go_simp; done) | (go_simp; rfl)); (case hp => exact (Reps.one (show Kd.M Kd.string _ _ _ ((rd_T24 l0 x7_1).f2) [.string ((rd_T24 l0 x7_1).f2)] from rfl) (Reps.one (show Kd.M Kd.string _ _ _ ((rd_T24 l0 x7_1).f3) [.string ((rd_T24 l0 x7_1).f3)] from rfl) (Reps.none _ _)))); intro v149 w38 ho39 hb hg_ hnew_; clear hg_ hnew_; (first | rw [← Ny148.out] at ho39 | (simp only [Int.reduceToNat] at ho39; rw [← Ny148.out] at ho39)); have n0_ := Aside0.mk (Kd.R_lower ho39 (below_size (by repeat (first | (with_reducible first | exact HB.out | apply below_alloc | apply pw_below_drewN | apply below_drew1 | refine below_set ?_ GE147.out) | exact HB.out)))); have n1_ := Aside0.mk (blk_below (g := gb147) (o := .cells #[.bool ((rd_T24 l0 x7_1).f0), .slice A146_1 ((rd_T24 l0 x7_1).f1).length c146_1, .string ((rd_T24 l0 x7_1).f2), .string ((rd_T24 l0 x7_1).f3)] 24 (0, 0)) (by (with_reducible repeat (first | refine blk_drewN ?_ _ | refine blk_drew ?_ | refine blk_alloc ?_ _)); refine blk_put (cs := #[.bool ((rd_T24 l0 x7_1).f0), .slice A146_1 ((rd_T24 l0 x7_1).f1).length c146_1, .string ((rd_T24 l0 x7_1).f2), .string (⟨#[]⟩ : ByteArray)]) ?_ 3 _ rfl; (with_reducible repeat (first | refine blk_drewN ?_ _ | refine blk_drew ?_ | refine blk_alloc ?_ _)); refine blk_put (cs := #[.bool ((rd_T24 l0 x7_1).f0), .slice A146_1 ((rd_T24 l0 x7_1).f1).length c146_1, .string (⟨#[]⟩ : ByteArray), .string (⟨#[]⟩ : ByteArray)]) ?_ 2 _ rfl; (with_reducible repeat (first | refine blk_drewN ?_ _ | refine blk_drew ?_ | refine blk_alloc ?_ _)); refine blk_put (cs := #[.bool ((rd_T24 l0 x7_1).f0), .slice none 0 0, .string (⟨#[]⟩ : ByteArray), .string (⟨#[]⟩ : ByteArray)]) ?_ 1 _ rfl; (with_reducible repeat (first | refine blk_drewN ?_ _ | refine blk_drew ?_ | refine blk_alloc ?_ _)); refine blk_put (cs := #[.bool false, .slice none 0 0, .string (⟨#[]⟩ : ByteArray), .string (⟨#[]⟩ : ByteArray)]) ?_ 0 _ rfl; (with_reducible repeat (first | refine blk_drewN ?_ _ | refine blk_drew ?_ | refine blk_alloc ?_ _)); exact BK147.out) hb); have n2_ := Aside0.mk (below_step (by repeat (first | (with_reducible first | exact HB.out | apply below_alloc | apply pw_below_drewN | apply below_drew1 | refine below_set ?_ GE147.out) | exact HB.out)) hb); clear BK147; clear HB; have HO150 := n0_; have BK147 := n1_; have HB := n2_; clear n0_ n1_ n2_; clear hb ho39; obtain ⟨Ao40, co40, eo40⟩ := Kd.R_slice HO150.out; subst eo40) | ((with_reducible refine gate_callee (f := 19) rfl ?_); refine goesL_ (some 16) rfl rfl Tryz.func19 (by kernel_rfl) rfl #[.slice Ao40 y148.length co40] rfl (by (try simp only [List.map_toArray, List.map_cons, List.map_nil]); first | done | rfl | (simp only [List.length_drop, List.length_take]; rfl)) ?_; (with_reducible refine (laws_short.calls k1 _ _ y148 false _ ?side1 ?side2 A5.out).mono ?_); (case side1 => repeat (first | exact (Kd.R_reads' HO150.out).2.2 | (with_reducible refine Kd.C_alloc ?_ _) | (with_reducible refine Kd.C_drewN ?_ _) | (with_reducible refine Kd.C_drew ?_))); (case side2 => exact (Kd.R_reads' HO150.out).2.1); rintro e w' ⟨rfl, ⟨nd, rfl⟩⟩; refine ⟨_, rfl, ?_⟩))
              go_ret
              exact ⟨by first | rfl | (simp [errW_none, errW_some] <;> rfl) | (simp [*, errW_none, errW_some] <;> rfl), by repeat (first | (with_reducible first | exact HB.out | apply below_alloc | apply pw_below_drewN | apply below_drew1 | refine below_set ?_ GE147.out) | exact HB.out)⟩
          · rw [if_neg c4] at H
            exact absurd H (by simp)
        · rw [if_neg c3] at H
          exact absurd H (by simp)
      · rw [if_neg c2] at H
        have c2b0 : decide (x7_1 < (l0.length : Int)) = false := decide_eq_false c2
        clear c2
        obtain rfl := Option.some.inj H
        go_wp2
        go_ret
        exact ⟨by first | rfl | (simp [errW_none, errW_some] <;> rfl) | (simp [*, errW_none, errW_some] <;> rfl), by repeat (first | (with_reducible first | exact HB.out | apply below_alloc | apply pw_below_drewN | apply below_drew1) | exact HB.out)⟩

/-! ### spec_order: function 23 -/
def spec_order.f (a0 : ByteArray) (a1 : ByteArray) : Option (Int) := if (Op.bytesLess a0.toList a1.toList) = true then (some (-1)) else (if (Op.bytesLess a1.toList a0.toList) = true then (some 1) else (some 0))
set_option maxHeartbeats 8000000 in
set_option maxRecDepth 100000 in
theorem spec_order.calls (a0 : ByteArray) (a1 : ByteArray) (r : Int) (w : World) (h : spec_order.f a0 a1 = some r) :
    Calls Tryz.prog 23 #[.string a0, .string a1] w fun e w' => e = .returned (.int .i64 r) ∧ Drawn0 w w' := by
  have H : (if (Op.bytesLess a0.toList a1.toList) = true then (some (-1)) else (if (Op.bytesLess a1.toList a0.toList) = true then (some 1) else (some 0))) = some r := h
  clear h
  by_cases c3 : (Op.bytesLess a0.toList a1.toList) = true
  · rw [if_pos c3] at H
    have c3b0 : (Op.bytesLess a0.toList a1.toList) = true := c3
    clear c3
    obtain rfl := Option.some.inj H
    go_enter Tryz.func23, Tryz.ntmps23
    go_wp2
    go_ret
    exact ⟨by first | rfl | (simp; done) | (simp [*]; done), by repeat (first | exact Drawn0.refl _ | apply Drawn0.step)⟩
  · rw [if_neg c3] at H
    have c3b0 : (Op.bytesLess a0.toList a1.toList) = false := by simpa using c3
    clear c3
    by_cases c4 : (Op.bytesLess a1.toList a0.toList) = true
    · rw [if_pos c4] at H
      have c4b0 : (Op.bytesLess a1.toList a0.toList) = true := c4
      clear c4
      obtain rfl := Option.some.inj H
      go_enter Tryz.func23, Tryz.ntmps23
      go_wp2
      go_ret
      exact ⟨by first | rfl | (simp; done) | (simp [*]; done), by repeat (first | exact Drawn0.refl _ | apply Drawn0.step)⟩
    · rw [if_neg c4] at H
      have c4b0 : (Op.bytesLess a1.toList a0.toList) = false := by simpa using c4
      clear c4
      obtain rfl := Option.some.inj H
      go_enter Tryz.func23, Tryz.ntmps23
      go_wp2
      go_ret
      exact ⟨by first | rfl | (simp; done) | (simp [*]; done), by repeat (first | exact Drawn0.refl _ | apply Drawn0.step)⟩

/-! ### spec_orderInts: function 58 -/
def spec_orderInts.f (a0 : Int) (a1 : Int) : Option (Int) := if a0 < a1 then (some (-1)) else (if a0 > a1 then (some 1) else (some 0))
set_option maxHeartbeats 8000000 in
set_option maxRecDepth 100000 in
theorem spec_orderInts.calls (a0 : Int) (a1 : Int) (r : Int) (w : World) (h : spec_orderInts.f a0 a1 = some r) :
    Calls Tryz.prog 58 #[.int .i64 a0, .int .i64 a1] w fun e w' => e = .returned (.int .i64 r) ∧ Drawn0 w w' := by
  have H : (if a0 < a1 then (some (-1)) else (if a0 > a1 then (some 1) else (some 0))) = some r := h
  clear h
  by_cases c3 : a0 < a1
  · rw [if_pos c3] at H
    have c3b0 : decide (a0 < a1) = true := decide_eq_true c3
    clear c3
    obtain rfl := Option.some.inj H
    go_enter Tryz.func58, Tryz.ntmps58
    go_wp2
    go_ret
    exact ⟨by first | rfl | (simp; done) | (simp [*]; done), by repeat (first | exact Drawn0.refl _ | apply Drawn0.step)⟩
  · rw [if_neg c3] at H
    have c3b0 : decide (a0 < a1) = false := decide_eq_false c3
    clear c3
    by_cases c4 : a0 > a1
    · rw [if_pos c4] at H
      have c4b0 : decide (a1 < a0) = true := decide_eq_true c4
      clear c4
      obtain rfl := Option.some.inj H
      go_enter Tryz.func58, Tryz.ntmps58
      go_wp2
      go_ret
      exact ⟨by first | rfl | (simp; done) | (simp [*]; done), by repeat (first | exact Drawn0.refl _ | apply Drawn0.step)⟩
    · rw [if_neg c4] at H
      have c4b0 : decide (a1 < a0) = false := decide_eq_false c4
      clear c4
      obtain rfl := Option.some.inj H
      go_enter Tryz.func58, Tryz.ntmps58
      go_wp2
      go_ret
      exact ⟨by first | rfl | (simp; done) | (simp [*]; done), by repeat (first | exact Drawn0.refl _ | apply Drawn0.step)⟩

/-! ### spec_intOrder: function 57 -/
mutual
def spec_intOrder.j2 : Nat → Bool → ByteArray → Bool → ByteArray → Option (Int)
  | 0, _, _, _, _ => none
  | k + 1, x155000, x155001, x156000, x156001 => if (x155001.size : Int) = (x156001.size : Int) then ((spec_order.f x155001 x156001).bind fun t160 => (some t160)) else ((spec_orderInts.f (x155001.size : Int) (x156001.size : Int)).bind fun t161 => (some t161))
def spec_intOrder.j0 : Nat → Bool → Bool → ByteArray → Bool → ByteArray → Option (Int)
  | 0, _, _, _, _, _ => none
  | k + 1, x9, x155000, x155001, x156000, x156001 => if x9 = true then (some (-1)) else (if x155000 = true then (spec_intOrder.j1 k false x155000 x155001 x156000 x156001) else (spec_intOrder.j1 k x156000 x155000 x155001 x156000 x156001))
def spec_intOrder.j1 : Nat → Bool → Bool → ByteArray → Bool → ByteArray → Option (Int)
  | 0, _, _, _, _, _ => none
  | k + 1, x17, x155000, x155001, x156000, x156001 => if x17 = true then (some 1) else (if x155000 = true then (spec_intOrder.j2 k x156000 x156001 x155000 x155001) else (spec_intOrder.j2 k x155000 x155001 x156000 x156001))
end
def spec_intOrder.f (k : Nat) (a0_0 : Bool) (a0_1 : ByteArray) (a1_0 : Bool) (a1_1 : ByteArray) : Option (Int) := (spec_numTidy.f k a0_0 a0_1).bind fun bt156 => ((spec_numTidy.f k a1_0 a1_1).bind fun bt158 => (if bt156.1 = true then (spec_intOrder.j0 k (!bt158.1) bt156.1 bt156.2 bt158.1 bt158.2) else (spec_intOrder.j0 k false bt156.1 bt156.2 bt158.1 bt158.2)))
theorem spec_intOrder.mono_l : ∀ k, (∀ y0 y1 y2 y3, LeO (spec_intOrder.j2 k y0 y1 y2 y3) (spec_intOrder.j2 (k + 1) y0 y1 y2 y3)) ∧ (∀ y0 y1 y2 y3 y4, LeO (spec_intOrder.j0 k y0 y1 y2 y3 y4) (spec_intOrder.j0 (k + 1) y0 y1 y2 y3 y4)) ∧ (∀ y0 y1 y2 y3 y4, LeO (spec_intOrder.j1 k y0 y1 y2 y3 y4) (spec_intOrder.j1 (k + 1) y0 y1 y2 y3 y4))
  | 0 => ⟨fun _ _ _ _ r h => by simp [spec_intOrder.j2] at h, fun _ _ _ _ _ r h => by simp [spec_intOrder.j0] at h, fun _ _ _ _ _ r h => by simp [spec_intOrder.j1] at h⟩
  | k + 1 => by
    obtain ⟨ih0, ih1, ih2⟩ := spec_intOrder.mono_l k
    refine ⟨?_, ?_, ?_⟩
    · intro y0 y1 y2 y3
      unfold spec_intOrder.j2
      repeat' first
      | (with_reducible exact ih0 _ _ _ _)
      | (with_reducible exact ih1 _ _ _ _ _)
      | (with_reducible exact ih2 _ _ _ _ _)
      | (with_reducible exact spec_numTidy.mono _ _ _)
      | (with_reducible exact LeO.refl _)
      | (with_reducible exact LeO.none _)
      | (with_reducible refine LeO.ite ?_ ?_)
      | (with_reducible refine LeO.bind ?_ (fun _ => ?_))
      | exact ih0 _ _ _ _
      | exact ih1 _ _ _ _ _
      | exact ih2 _ _ _ _ _
      | exact spec_numTidy.mono _ _ _
      | exact LeO.none _
      | refine LeO.ite ?_ ?_
      | refine LeO.bind ?_ (fun _ => ?_)
    · intro y0 y1 y2 y3 y4
      unfold spec_intOrder.j0
      repeat' first
      | (with_reducible exact ih0 _ _ _ _)
      | (with_reducible exact ih1 _ _ _ _ _)
      | (with_reducible exact ih2 _ _ _ _ _)
      | (with_reducible exact spec_numTidy.mono _ _ _)
      | (with_reducible exact LeO.refl _)
      | (with_reducible exact LeO.none _)
      | (with_reducible refine LeO.ite ?_ ?_)
      | (with_reducible refine LeO.bind ?_ (fun _ => ?_))
      | exact ih0 _ _ _ _
      | exact ih1 _ _ _ _ _
      | exact ih2 _ _ _ _ _
      | exact spec_numTidy.mono _ _ _
      | exact LeO.none _
      | refine LeO.ite ?_ ?_
      | refine LeO.bind ?_ (fun _ => ?_)
    · intro y0 y1 y2 y3 y4
      unfold spec_intOrder.j1
      repeat' first
      | (with_reducible exact ih0 _ _ _ _)
      | (with_reducible exact ih1 _ _ _ _ _)
      | (with_reducible exact ih2 _ _ _ _ _)
      | (with_reducible exact spec_numTidy.mono _ _ _)
      | (with_reducible exact LeO.refl _)
      | (with_reducible exact LeO.none _)
      | (with_reducible refine LeO.ite ?_ ?_)
      | (with_reducible refine LeO.bind ?_ (fun _ => ?_))
      | exact ih0 _ _ _ _
      | exact ih1 _ _ _ _ _
      | exact ih2 _ _ _ _ _
      | exact spec_numTidy.mono _ _ _
      | exact LeO.none _
      | refine LeO.ite ?_ ?_
      | refine LeO.bind ?_ (fun _ => ?_)
theorem spec_intOrder.mono : ∀ a0 a1 a2 a3 k, LeO (spec_intOrder.f k a0 a1 a2 a3) (spec_intOrder.f (k + 1) a0 a1 a2 a3) := by
  intro a0 a1 a2 a3 k
  obtain ⟨ih0, ih1, ih2⟩ := spec_intOrder.mono_l k
  unfold spec_intOrder.f
  repeat' first
      | (with_reducible exact ih0 _ _ _ _)
      | (with_reducible exact ih1 _ _ _ _ _)
      | (with_reducible exact ih2 _ _ _ _ _)
      | (with_reducible exact spec_numTidy.mono _ _ _)
      | (with_reducible exact LeO.refl _)
      | (with_reducible exact LeO.none _)
      | (with_reducible refine LeO.ite ?_ ?_)
      | (with_reducible refine LeO.bind ?_ (fun _ => ?_))
      | exact ih0 _ _ _ _
      | exact ih1 _ _ _ _ _
      | exact ih2 _ _ _ _ _
      | exact spec_numTidy.mono _ _ _
      | exact LeO.none _
      | refine LeO.ite ?_ ?_
      | refine LeO.bind ?_ (fun _ => ?_)
set_option maxHeartbeats 8000000 in
set_option maxRecDepth 100000 in
theorem spec_intOrder.calls (k : Nat) (a0_0 : Bool) (a0_1 : ByteArray) (a1_0 : Bool) (a1_1 : ByteArray) (r : Int) (w : World) (h : spec_intOrder.f k a0_0 a0_1 a1_0 a1_1 = some r) :
    Calls Tryz.prog 57 #[.agg #[.bool a0_0, .string a0_1], .agg #[.bool a1_0, .string a1_1]] w fun e w' => e = .returned (.int .i64 r) ∧ Below w.heap.size w w' := by
  have hu66 := Tryz.underlying66
  have HB := Aside0.mk (Below.refl w.heap.size w)
  have H : ((spec_numTidy.f k a0_0 a0_1).bind fun bt156 => ((spec_numTidy.f k a1_0 a1_1).bind fun bt158 => (if bt156.1 = true then (spec_intOrder.j0 k (!bt158.1) bt156.1 bt156.2 bt158.1 bt158.2) else (spec_intOrder.j0 k false bt156.1 bt156.2 bt158.1 bt158.2)))) = some r := h
  clear h
  replace H := Option.bind_eq_some_iff.mp H
  obtain ⟨⟨t156, t157⟩, A30, H⟩ := H
  replace H : ((spec_numTidy.f k a1_0 a1_1).bind fun bt158 => (if t156 = true then (spec_intOrder.j0 k (!bt158.1) t156 t157 bt158.1 bt158.2) else (spec_intOrder.j0 k false t156 t157 bt158.1 bt158.2))) = some r := H
  have A3 := Aside0.mk A30
  clear A30
  replace H := Option.bind_eq_some_iff.mp H
  obtain ⟨⟨t158, t159⟩, A40, H⟩ := H
  replace H : (if t156 = true then (spec_intOrder.j0 k (!t158) t156 t157 t158 t159) else (spec_intOrder.j0 k false t156 t157 t158 t159)) = some r := H
  have A4 := Aside0.mk A40
  clear A40
  have HC5 := Aside0.mk H
  clear H
  go_enter Tryz.func57, Tryz.ntmps57
  try go_wp2_with (first | ((with_reducible refine gate_dst (N := 2) rfl ?_); refine box_event ?hg (N := 2) ?hd (cs := #[.bool a0_0, .string a0_1]) (t := 66) ?hr ?_; (case hd => rfl); (case hg => rfl); (case hr => first | (go_simp; done) | (go_simp; rfl)); intro gb154 hg w6 hbox hb; have n0_ := Aside0.mk (below_step (by repeat (first | (with_reducible first | exact HB.out | apply below_alloc | apply pw_below_drewN | apply below_drew1) | exact HB.out)) hb); have n1_ := Aside0.mk (hbox); have n2_ := Aside0.mk ((by rw [hg]; exact (below_size (by repeat (first | (with_reducible first | exact HB.out | apply below_alloc | apply pw_below_drewN | apply below_drew1) | exact HB.out))) : w.heap.size ≤ gb154)); have n3_ := Aside0.mk ((by rw [hg]; exact (below_size (by repeat (first | (with_reducible first | exact HB.out | apply below_alloc | apply pw_below_drewN | apply below_drew1) | exact HB.out))) : w.heap.size ≤ gb154)); clear HB; have HB := n0_; have BK154 := n1_; have GW154 := n2_; have GE154 := n3_; clear n0_ n1_ n2_ n3_; clear hb hbox hg) | ((with_reducible refine gate_dst (N := 3) rfl ?_); refine box_event ?hg (N := 3) ?hd (cs := #[.bool a1_0, .string a1_1]) (t := 66) ?hr ?_; (case hd => rfl); (case hg => rfl); (case hr => first | (go_simp; done) | (go_simp; rfl)); intro gb155 hg w7 hbox hb; have n0_ := Aside0.mk (blk_below (g := gb154) (o := .cells #[.bool a0_0, .string a0_1] 66 (0, 0)) (by (with_reducible repeat (first | refine blk_drewN ?_ _ | refine blk_drew ?_ | refine blk_alloc ?_ _)); exact BK154.out) hb); have n1_ := Aside0.mk (below_step (by repeat (first | (with_reducible first | exact HB.out | apply below_alloc | apply pw_below_drewN | apply below_drew1 | refine below_set ?_ GE154.out) | exact HB.out)) hb); have n2_ := Aside0.mk (hbox); have n3_ := Aside0.mk ((by rw [hg]; exact (below_size (by repeat (first | (with_reducible first | exact HB.out | apply below_alloc | apply pw_below_drewN | apply below_drew1 | refine below_set ?_ GE154.out) | exact HB.out))) : w.heap.size ≤ gb155)); have n4_ := Aside0.mk ((by rw [hg]; exact (below_size (by repeat (first | (with_reducible first | exact HB.out | apply below_alloc | apply pw_below_drewN | apply below_drew1 | refine below_set ?_ GE154.out) | exact HB.out))) : w.heap.size ≤ gb155)); have n5_ := Aside0.mk ((by rw [hg]; exact Nat.ne_of_lt (blk_lt (g := gb154) (o := .cells #[.bool a0_0, .string a0_1] 66 (0, 0)) (by (with_reducible repeat (first | refine blk_drewN ?_ _ | refine blk_drew ?_ | refine blk_alloc ?_ _)); exact BK154.out)) : gb154 ≠ gb155)); have n6_ := Aside0.mk ((by rw [hg]; exact Nat.ne_of_gt (blk_lt (g := gb154) (o := .cells #[.bool a0_0, .string a0_1] 66 (0, 0)) (by (with_reducible repeat (first | refine blk_drewN ?_ _ | refine blk_drew ?_ | refine blk_alloc ?_ _)); exact BK154.out)) : gb155 ≠ gb154)); clear BK154; clear HB; have BK154 := n0_; have HB := n1_; have BK155 := n2_; have GW155 := n3_; have GE155 := n4_; have NB154_155 := n5_; have NB155_154 := n6_; clear n0_ n1_ n2_ n3_ n4_ n5_ n6_; clear hb hbox hg))
  have n0_ := Aside0.mk (blk_drew BK154.out)
  have n1_ := Aside0.mk (blk_drew BK155.out)
  have n2_ := Aside0.mk (below_drew1 HB.out)
  clear BK154
  clear BK155
  clear HB
  have BK154 := n0_
  have BK155 := n1_
  have HB := n2_
  clear n0_ n1_ n2_
  refine start_ (n := 6) (S := fun w' => w'.cell? ⟨gb154, 0, none⟩ = some (.bool a0_0) ∧ w'.cell? ⟨gb154, 1, none⟩ = some (.string a0_1) ∧ w'.cell? ⟨gb155, 0, none⟩ = some (.bool a1_0) ∧ w'.cell? ⟨gb155, 1, none⟩ = some (.string a1_1)) (ds := [4, 5]) #[false, false, false, false, false, false] (by kernel_rfl) rfl rfl ⟨(blk_cell BK154.out 0).trans rfl, (blk_cell BK154.out 1).trans rfl, (blk_cell BK155.out 0).trans rfl, (blk_cell BK155.out 1).trans rfl⟩ (fun hHeld => ?_)
  generalize w7.drew = w8 at BK154 BK155 HB hHeld ⊢
  refine take_ (i := 0) (N := some 5) (v := ?_) (a' := ?_) #[true, false, false, false, false, false] rfl rfl (by kernel_rfl) (fun _ _ _ h => h) (Or.inl ⟨by rfl, ?_⟩) hHeld ?_ ?_
  rotate_left
  · rintro w' ⟨s0, s1, s2, s3⟩
    go_simp
    with_reducible rfl
  rotate_left
  · simp only [Act.put, List.setIfInBounds_toArray, List.set_cons_zero, List.set_cons_succ, i64_w, i32_w]
    rfl
  refine take_ (i := 2) (N := some 7) (v := ?_) (a' := ?_) #[true, false, true, false, false, false] rfl rfl (by kernel_rfl) (fun _ _ _ h => h) (Or.inl ⟨by rfl, ?_⟩) hHeld ?_ ?_
  rotate_left
  · rintro w' ⟨s0, s1, s2, s3⟩
    go_simp
    with_reducible rfl
  rotate_left
  · simp only [Act.put, List.setIfInBounds_toArray, List.set_cons_zero, List.set_cons_succ, i64_w, i32_w]
    rfl
  refine one_ (i := 1) (N := some 6) #[true, true, true, false, false, false] rfl rfl (by kernel_rfl) (by decide) (fun K hK => ?_)
  refine goes_ Tryz.func53 (by kernel_rfl) rfl #[.agg #[.bool a0_0, .string a0_1]] (by rfl) rfl rfl (by (try simp only [List.map_toArray, List.map_cons, List.map_nil]); first | done | rfl | (simp only [List.length_drop, List.length_take]; rfl)) ?_
  with_reducible refine (spec_numTidy.calls k a0_0 a0_1 t156 t157 _ A3.out).mono ?_
  rintro e w9 ⟨rfl, hb⟩
  refine ⟨_, rfl, ?_⟩
  have n0_ := Aside0.mk (blk_below (g := gb154) (o := .cells #[.bool a0_0, .string a0_1] 66 (0, 0)) (by (with_reducible repeat (first | refine blk_drewN ?_ _ | refine blk_drew ?_ | refine blk_alloc ?_ _)); exact BK154.out) hb)
  have n1_ := Aside0.mk (blk_below (g := gb155) (o := .cells #[.bool a1_0, .string a1_1] 66 (0, 0)) (by (with_reducible repeat (first | refine blk_drewN ?_ _ | refine blk_drew ?_ | refine blk_alloc ?_ _)); exact BK155.out) hb)
  have n2_ := Aside0.mk (below_step (by repeat (first | (with_reducible first | exact HB.out | apply below_alloc | apply pw_below_drewN | apply below_drew1 | refine below_set ?_ GE154.out | refine below_set ?_ GE155.out) | exact HB.out)) hb)
  clear BK154
  clear BK155
  clear HB
  have BK154 := n0_
  have BK155 := n1_
  have HB := n2_
  clear n0_ n1_ n2_
  (try clear hb)
  (try clear hb2)
  (try clear hk)
  (try clear hi)
  refine hK.out _ _ ⟨(blk_cell BK154.out 0).trans rfl, (blk_cell BK154.out 1).trans rfl, (blk_cell BK155.out 0).trans rfl, (blk_cell BK155.out 1).trans rfl⟩ (fun hHeld => ?_)
  clear hK K
  refine norm_ (a' := ?_) ?_ ?_
  rotate_left
  · show Act.put _ (some 6) _ = _
    simp only [Act.put, List.setIfInBounds_toArray, List.set_cons_zero, List.set_cons_succ, i64_w, i32_w]
    rfl
  refine one_ (i := 3) (N := some 8) #[true, true, true, true, false, false] rfl rfl (by kernel_rfl) (by decide) (fun K hK => ?_)
  refine goes_ Tryz.func53 (by kernel_rfl) rfl #[.agg #[.bool a1_0, .string a1_1]] (by rfl) rfl rfl (by (try simp only [List.map_toArray, List.map_cons, List.map_nil]); first | done | rfl | (simp only [List.length_drop, List.length_take]; rfl)) ?_
  with_reducible refine (spec_numTidy.calls k a1_0 a1_1 t158 t159 _ A4.out).mono ?_
  rintro e w10 ⟨rfl, hb⟩
  refine ⟨_, rfl, ?_⟩
  have n0_ := Aside0.mk (blk_below (g := gb154) (o := .cells #[.bool a0_0, .string a0_1] 66 (0, 0)) (by (with_reducible repeat (first | refine blk_drewN ?_ _ | refine blk_drew ?_ | refine blk_alloc ?_ _)); exact BK154.out) hb)
  have n1_ := Aside0.mk (blk_below (g := gb155) (o := .cells #[.bool a1_0, .string a1_1] 66 (0, 0)) (by (with_reducible repeat (first | refine blk_drewN ?_ _ | refine blk_drew ?_ | refine blk_alloc ?_ _)); exact BK155.out) hb)
  have n2_ := Aside0.mk (below_step (by repeat (first | (with_reducible first | exact HB.out | apply below_alloc | apply pw_below_drewN | apply below_drew1 | refine below_set ?_ GE154.out | refine below_set ?_ GE155.out) | exact HB.out)) hb)
  clear BK154
  clear BK155
  clear HB
  have BK154 := n0_
  have BK155 := n1_
  have HB := n2_
  clear n0_ n1_ n2_
  (try clear hb)
  (try clear hb2)
  (try clear hk)
  (try clear hi)
  refine hK.out _ _ ⟨(blk_cell BK154.out 0).trans rfl, (blk_cell BK154.out 1).trans rfl, (blk_cell BK155.out 0).trans rfl, (blk_cell BK155.out 1).trans rfl⟩ (fun hHeld => ?_)
  clear hK K
  refine norm_ (a' := ?_) ?_ ?_
  rotate_left
  · show Act.put _ (some 8) _ = _
    simp only [Act.put, List.setIfInBounds_toArray, List.set_cons_zero, List.set_cons_succ, i64_w, i32_w]
    rfl
  refine last_ (i := 4) (N := none) #[true, true, true, true, true, false] rfl rfl (by kernel_rfl) (by decide) (fun K hK => ?_)
  have hs11 : w10.cell? ⟨gb154, 0, none⟩ = some (.bool a0_0) := (blk_cell BK154.out 0).trans rfl
  have hfs11 := blk_frozen BK154.out 0
  have hns11_1 := NB155_154.out
  have hms11_1 := NB154_155.out
  have hs12 : w10.cell? ⟨gb154, 1, none⟩ = some (.string a0_1) := (blk_cell BK154.out 1).trans rfl
  have hfs12 := blk_frozen BK154.out 1
  have hns12_1 := NB155_154.out
  have hms12_1 := NB154_155.out
  refine skip_ (w1 := ?_) (by rfl) rfl ?_ ?_
  rotate_left
  · go_simp
    rfl
  refine hK.out _ _ ?_
  clear hK K
  refine last_ (i := 5) (N := none) #[true, true, true, true, true, true] rfl rfl (by kernel_rfl) (by decide) (fun K hK => ?_)
  have hs13 : w10.cell? ⟨gb155, 0, none⟩ = some (.bool a1_0) := (blk_cell BK155.out 0).trans rfl
  have hfs13 := blk_frozen BK155.out 0
  have hns13_0 := NB154_155.out
  have hms13_0 := NB155_154.out
  have hs14 : w10.cell? ⟨gb155, 1, none⟩ = some (.string a1_1) := (blk_cell BK155.out 1).trans rfl
  have hfs14 := blk_frozen BK155.out 1
  have hns14_0 := NB154_155.out
  have hms14_0 := NB155_154.out
  refine skip_ (w1 := ?_) (by rfl) rfl ?_ ?_
  rotate_left
  · go_simp
    rfl
  refine hK.out _ _ ?_
  clear hK K
  refine done_ (by kernel_rfl) ?_
  go_upto_block 0 with (fail)
  go_cut [] (fun wc => ∃ (kq : Nat) (x155000_4 : Bool) (x155001_4 : ByteArray) (x156000_4 : Bool) (x156001_4 : ByteArray), Aside0 (spec_intOrder.j2 kq x155000_4 x155001_4 x156000_4 x156001_4 = some r) ∧ Aside0 (kq ≤ k) ∧ Aside0 (wc.heap[gb154]? = some (.cells #[.bool x155000_4, .string x155001_4] 66 (0, 0))) ∧ Aside0 (wc.heap[gb155]? = some (.cells #[.bool x156000_4, .string x156001_4] 66 (0, 0))) ∧ Aside0 (Below w.heap.size w wc))
  case first =>
    have H := HC5.out
    clear HC5
    have HC15 := Aside0.mk H
    clear H
    go_upto_region 2 with (fail)
    go_cut [9] (fun v9 wc => ∃ (kq : Nat) (x9_14 : Bool), v9 = .bool x9_14 ∧ Aside0 (spec_intOrder.j0 kq x9_14 t156 t157 t158 t159 = some r) ∧ Aside0 (kq ≤ k) ∧ Aside0 (wc.heap[gb154]? = some (.cells #[.bool t156, .string t157] 66 (0, 0))) ∧ Aside0 (wc.heap[gb155]? = some (.cells #[.bool t158, .string t159] 66 (0, 0))) ∧ Aside0 (Below w.heap.size w wc))
    case first =>
      have H := HC15.out
      clear HC15
      by_cases c16 : t156 = true
      · subst c16
        have H1 : (spec_intOrder.j0 k (!t158) true t157 t158 t159) = some r := by rw [if_pos rfl] at H; exact H
        clear H
        have H := H1
        clear H1
        have H' := Aside0.mk H
        clear H
        have hnb17 := NB154_155.out
        have hnc17 := NB155_154.out
        have hcz18_0 : w10.cell? ⟨gb154, 0, none⟩ = some (.bool a0_0) := (blk_cell BK154.out 0).trans rfl
        have hcz18_1 : w10.cell? ⟨gb154, 1, none⟩ = some (.string a0_1) := (blk_cell BK154.out 1).trans rfl
        have hfz18_0 := blk_frozen BK154.out 0
        have hfz18_1 := blk_frozen BK154.out 1
        have hcz19_0 : w10.cell? ⟨gb155, 0, none⟩ = some (.bool a1_0) := (blk_cell BK155.out 0).trans rfl
        have hcz19_1 : w10.cell? ⟨gb155, 1, none⟩ = some (.string a1_1) := (blk_cell BK155.out 1).trans rfl
        have hfz19_0 := blk_frozen BK155.out 0
        have hfz19_1 := blk_frozen BK155.out 1
        go_wp2
        go_meet
        case rel => exact ⟨_, (!t158), (by first | rfl | (simp; done) | (simp [*]; done)), H', ⟨by first | omega | exact Nat.le_refl _⟩, ⟨by (with_reducible repeat (first | refine blk_drewN ?_ _ | refine blk_drew ?_ | refine blk_alloc ?_ _)); refine blk_far ?_ NB154_155.out _; (with_reducible repeat (first | refine blk_drewN ?_ _ | refine blk_drew ?_ | refine blk_alloc ?_ _)); refine blk_far ?_ NB154_155.out _; (with_reducible repeat (first | refine blk_drewN ?_ _ | refine blk_drew ?_ | refine blk_alloc ?_ _)); refine blk_put (cs := #[.bool true, .string a0_1]) ?_ 1 _ rfl; (with_reducible repeat (first | refine blk_drewN ?_ _ | refine blk_drew ?_ | refine blk_alloc ?_ _)); refine blk_put (cs := #[.bool a0_0, .string a0_1]) ?_ 0 _ rfl; (with_reducible repeat (first | refine blk_drewN ?_ _ | refine blk_drew ?_ | refine blk_alloc ?_ _)); exact BK154.out⟩, ⟨by (with_reducible repeat (first | refine blk_drewN ?_ _ | refine blk_drew ?_ | refine blk_alloc ?_ _)); refine blk_put (cs := #[.bool t158, .string a1_1]) ?_ 1 _ rfl; (with_reducible repeat (first | refine blk_drewN ?_ _ | refine blk_drew ?_ | refine blk_alloc ?_ _)); refine blk_put (cs := #[.bool a1_0, .string a1_1]) ?_ 0 _ rfl; (with_reducible repeat (first | refine blk_drewN ?_ _ | refine blk_drew ?_ | refine blk_alloc ?_ _)); refine blk_far ?_ NB155_154.out _; (with_reducible repeat (first | refine blk_drewN ?_ _ | refine blk_drew ?_ | refine blk_alloc ?_ _)); refine blk_far ?_ NB155_154.out _; (with_reducible repeat (first | refine blk_drewN ?_ _ | refine blk_drew ?_ | refine blk_alloc ?_ _)); exact BK155.out⟩, ⟨by repeat (first | (with_reducible first | exact HB.out | apply below_alloc | apply pw_below_drewN | apply below_drew1 | refine below_set ?_ GE154.out | refine below_set ?_ GE155.out) | exact HB.out)⟩⟩
      · replace c16 := Bool.eq_false_iff.mpr c16
        subst c16
        have H1 : (spec_intOrder.j0 k false false t157 t158 t159) = some r := by rw [if_neg (show ¬ (false = true) by decide)] at H; exact H
        clear H
        have H := H1
        clear H1
        have H' := Aside0.mk H
        clear H
        have hnb20 := NB154_155.out
        have hnc20 := NB155_154.out
        have hcz21_0 : w10.cell? ⟨gb154, 0, none⟩ = some (.bool a0_0) := (blk_cell BK154.out 0).trans rfl
        have hcz21_1 : w10.cell? ⟨gb154, 1, none⟩ = some (.string a0_1) := (blk_cell BK154.out 1).trans rfl
        have hfz21_0 := blk_frozen BK154.out 0
        have hfz21_1 := blk_frozen BK154.out 1
        go_wp2
        go_meet
        case rel => exact ⟨_, (false), (by first | rfl | (simp; done) | (simp [*]; done)), H', ⟨by first | omega | exact Nat.le_refl _⟩, ⟨by (with_reducible repeat (first | refine blk_drewN ?_ _ | refine blk_drew ?_ | refine blk_alloc ?_ _)); refine blk_far ?_ NB154_155.out _; (with_reducible repeat (first | refine blk_drewN ?_ _ | refine blk_drew ?_ | refine blk_alloc ?_ _)); refine blk_far ?_ NB154_155.out _; (with_reducible repeat (first | refine blk_drewN ?_ _ | refine blk_drew ?_ | refine blk_alloc ?_ _)); refine blk_put (cs := #[.bool false, .string a0_1]) ?_ 1 _ rfl; (with_reducible repeat (first | refine blk_drewN ?_ _ | refine blk_drew ?_ | refine blk_alloc ?_ _)); refine blk_put (cs := #[.bool a0_0, .string a0_1]) ?_ 0 _ rfl; (with_reducible repeat (first | refine blk_drewN ?_ _ | refine blk_drew ?_ | refine blk_alloc ?_ _)); exact BK154.out⟩, ⟨by (with_reducible repeat (first | refine blk_drewN ?_ _ | refine blk_drew ?_ | refine blk_alloc ?_ _)); refine blk_put (cs := #[.bool t158, .string a1_1]) ?_ 1 _ rfl; (with_reducible repeat (first | refine blk_drewN ?_ _ | refine blk_drew ?_ | refine blk_alloc ?_ _)); refine blk_put (cs := #[.bool a1_0, .string a1_1]) ?_ 0 _ rfl; (with_reducible repeat (first | refine blk_drewN ?_ _ | refine blk_drew ?_ | refine blk_alloc ?_ _)); refine blk_far ?_ NB155_154.out _; (with_reducible repeat (first | refine blk_drewN ?_ _ | refine blk_drew ?_ | refine blk_alloc ?_ _)); refine blk_far ?_ NB155_154.out _; (with_reducible repeat (first | refine blk_drewN ?_ _ | refine blk_drew ?_ | refine blk_alloc ?_ _)); exact BK155.out⟩, ⟨by repeat (first | (with_reducible first | exact HB.out | apply below_alloc | apply pw_below_drewN | apply below_drew1 | refine below_set ?_ GE154.out | refine below_set ?_ GE155.out) | exact HB.out)⟩⟩
    case rest =>
      clear HC15
      try clear c1
      try clear c2
      try clear p2
      try clear c5
      try clear c16
      try clear c17
      try clear c20
      try clear hcz18_0
      try clear hcz18_1
      try clear hcz19_0
      try clear hcz19_1
      try clear hcz21_0
      try clear hcz21_1
      try clear hfz18_0
      try clear hfz18_1
      try clear hfz19_0
      try clear hfz19_1
      try clear hfz21_0
      try clear hfz21_1
      obtain ⟨kq, x9_14, rfl, HA, HJ14, BK154, BK155, HB⟩ := hcut
      cases kq with
      | zero => exact absurd HA.out (by simp [spec_intOrder.j0])
      | succ kj14 =>
        have H := HA.out
        clear HA
        simp only [spec_intOrder.j0] at H
        by_cases c22 : x9_14 = true
        · subst c22
          have H1 : (some (-1)) = some r := by rw [if_pos rfl] at H; exact H
          clear H
          have H := H1
          clear H1
          obtain rfl := Option.some.inj H
          go_wp2
          go_ret
          exact ⟨by first | rfl | (simp [errW_none, errW_some] <;> rfl) | (simp [*, errW_none, errW_some] <;> rfl), by repeat (first | (with_reducible first | exact HB.out | apply below_alloc | apply pw_below_drewN | apply below_drew1 | refine below_set ?_ GE154.out | refine below_set ?_ GE155.out) | exact HB.out)⟩
        · replace c22 := Bool.eq_false_iff.mpr c22
          subst c22
          have H1 : (if t156 = true then (spec_intOrder.j1 kj14 false t156 t157 t158 t159) else (spec_intOrder.j1 kj14 t158 t156 t157 t158 t159)) = some r := by rw [if_neg (show ¬ (false = true) by decide)] at H; exact H
          clear H
          have H := H1
          clear H1
          have HC23 := Aside0.mk H
          clear H
          go_upto_region 4 with (fail)
          go_cut [17] (fun v17 wc => ∃ (kq : Nat) (x17_22 : Bool), v17 = .bool x17_22 ∧ Aside0 (spec_intOrder.j1 kq x17_22 t156 t157 t158 t159 = some r) ∧ Aside0 (kq ≤ kj14) ∧ Aside0 (wc.heap[gb154]? = some (.cells #[.bool t156, .string t157] 66 (0, 0))) ∧ Aside0 (wc.heap[gb155]? = some (.cells #[.bool t158, .string t159] 66 (0, 0))) ∧ Aside0 (Below w.heap.size w wc))
          case first =>
            have H := HC23.out
            clear HC23
            by_cases c24 : t156 = true
            · subst c24
              have H1 : (spec_intOrder.j1 kj14 false true t157 t158 t159) = some r := by rw [if_pos rfl] at H; exact H
              clear H
              have H := H1
              clear H1
              have H' := Aside0.mk H
              clear H
              have hnb25 := NB154_155.out
              have hnc25 := NB155_154.out
              have hcz26_0 : wc.cell? ⟨gb154, 0, none⟩ = some (.bool true) := (blk_cell BK154.out 0).trans rfl
              have hcz26_1 : wc.cell? ⟨gb154, 1, none⟩ = some (.string t157) := (blk_cell BK154.out 1).trans rfl
              have hfz26_0 := blk_frozen BK154.out 0
              have hfz26_1 := blk_frozen BK154.out 1
              go_wp2
              go_meet
              case rel => exact ⟨_, (false), (by first | rfl | (simp; done) | (simp [*]; done)), H', ⟨by have := HJ14.out; first | omega | exact Nat.le_refl _⟩, ⟨by (with_reducible repeat (first | refine blk_drewN ?_ _ | refine blk_drew ?_ | refine blk_alloc ?_ _)); exact BK154.out⟩, ⟨by (with_reducible repeat (first | refine blk_drewN ?_ _ | refine blk_drew ?_ | refine blk_alloc ?_ _)); exact BK155.out⟩, ⟨by repeat (first | (with_reducible first | exact HB.out | apply below_alloc | apply pw_below_drewN | apply below_drew1 | refine below_set ?_ GE154.out | refine below_set ?_ GE155.out) | exact HB.out)⟩⟩
            · replace c24 := Bool.eq_false_iff.mpr c24
              subst c24
              have H1 : (spec_intOrder.j1 kj14 t158 false t157 t158 t159) = some r := by rw [if_neg (show ¬ (false = true) by decide)] at H; exact H
              clear H
              have H := H1
              clear H1
              have H' := Aside0.mk H
              clear H
              have hnb27 := NB154_155.out
              have hnc27 := NB155_154.out
              have hcz28_0 : wc.cell? ⟨gb154, 0, none⟩ = some (.bool false) := (blk_cell BK154.out 0).trans rfl
              have hcz28_1 : wc.cell? ⟨gb154, 1, none⟩ = some (.string t157) := (blk_cell BK154.out 1).trans rfl
              have hfz28_0 := blk_frozen BK154.out 0
              have hfz28_1 := blk_frozen BK154.out 1
              have hcz29_0 : wc.cell? ⟨gb155, 0, none⟩ = some (.bool t158) := (blk_cell BK155.out 0).trans rfl
              have hcz29_1 : wc.cell? ⟨gb155, 1, none⟩ = some (.string t159) := (blk_cell BK155.out 1).trans rfl
              have hfz29_0 := blk_frozen BK155.out 0
              have hfz29_1 := blk_frozen BK155.out 1
              go_wp2
              go_meet
              case rel => exact ⟨_, (t158), (by first | rfl | (simp; done) | (simp [*]; done)), H', ⟨by have := HJ14.out; first | omega | exact Nat.le_refl _⟩, ⟨by (with_reducible repeat (first | refine blk_drewN ?_ _ | refine blk_drew ?_ | refine blk_alloc ?_ _)); exact BK154.out⟩, ⟨by (with_reducible repeat (first | refine blk_drewN ?_ _ | refine blk_drew ?_ | refine blk_alloc ?_ _)); exact BK155.out⟩, ⟨by repeat (first | (with_reducible first | exact HB.out | apply below_alloc | apply pw_below_drewN | apply below_drew1 | refine below_set ?_ GE154.out | refine below_set ?_ GE155.out) | exact HB.out)⟩⟩
          case rest =>
            clear HC23
            try clear c1
            try clear c2
            try clear p2
            try clear c5
            try clear c16
            try clear c17
            try clear c20
            try clear c22
            try clear c24
            try clear c25
            try clear c27
            try clear hcz18_0
            try clear hcz18_1
            try clear hcz19_0
            try clear hcz19_1
            try clear hcz21_0
            try clear hcz21_1
            try clear hcz26_0
            try clear hcz26_1
            try clear hcz28_0
            try clear hcz28_1
            try clear hcz29_0
            try clear hcz29_1
            try clear hfz18_0
            try clear hfz18_1
            try clear hfz19_0
            try clear hfz19_1
            try clear hfz21_0
            try clear hfz21_1
            try clear hfz26_0
            try clear hfz26_1
            try clear hfz28_0
            try clear hfz28_1
            try clear hfz29_0
            try clear hfz29_1
            try clear p2
            obtain ⟨kq, x17_22, rfl, HA, HJ22, BK154, BK155, HB⟩ := hcut
            cases kq with
            | zero => exact absurd HA.out (by simp [spec_intOrder.j1])
            | succ kj22 =>
              have H := HA.out
              clear HA
              simp only [spec_intOrder.j1] at H
              by_cases c30 : x17_22 = true
              · subst c30
                have H1 : (some 1) = some r := by rw [if_pos rfl] at H; exact H
                clear H
                have H := H1
                clear H1
                obtain rfl := Option.some.inj H
                go_wp2
                go_ret
                exact ⟨by first | rfl | (simp [errW_none, errW_some] <;> rfl) | (simp [*, errW_none, errW_some] <;> rfl), by repeat (first | (with_reducible first | exact HB.out | apply below_alloc | apply pw_below_drewN | apply below_drew1 | refine below_set ?_ GE154.out | refine below_set ?_ GE155.out) | exact HB.out)⟩
              · replace c30 := Bool.eq_false_iff.mpr c30
                subst c30
                have H1 : (if t156 = true then (spec_intOrder.j2 kj22 t158 t159 t156 t157) else (spec_intOrder.j2 kj22 t156 t157 t158 t159)) = some r := by rw [if_neg (show ¬ (false = true) by decide)] at H; exact H
                clear H
                have H := H1
                clear H1
                by_cases c31 : t156 = true
                · subst c31
                  have H1 : (spec_intOrder.j2 kj22 t158 t159 true t157) = some r := by rw [if_pos rfl] at H; exact H
                  clear H
                  have H := H1
                  clear H1
                  have H' := Aside0.mk H
                  clear H
                  have hnb32 := NB154_155.out
                  have hnc32 := NB155_154.out
                  have hcz33_0 : wc.cell? ⟨gb154, 0, none⟩ = some (.bool true) := (blk_cell BK154.out 0).trans rfl
                  have hcz33_1 : wc.cell? ⟨gb154, 1, none⟩ = some (.string t157) := (blk_cell BK154.out 1).trans rfl
                  have hfz33_0 := blk_frozen BK154.out 0
                  have hfz33_1 := blk_frozen BK154.out 1
                  have hcz34_0 : wc.cell? ⟨gb155, 0, none⟩ = some (.bool t158) := (blk_cell BK155.out 0).trans rfl
                  have hcz34_1 : wc.cell? ⟨gb155, 1, none⟩ = some (.string t159) := (blk_cell BK155.out 1).trans rfl
                  have hfz34_0 := blk_frozen BK155.out 0
                  have hfz34_1 := blk_frozen BK155.out 1
                  go_wp2
                  go_meet
                  case rel => exact ⟨_, (t158), (t159), (true), (t157), H', ⟨by have := HJ14.out; have := HJ22.out; first | omega | exact Nat.le_refl _⟩, ⟨by (with_reducible repeat (first | refine blk_drewN ?_ _ | refine blk_drew ?_ | refine blk_alloc ?_ _)); refine blk_far ?_ NB154_155.out _; (with_reducible repeat (first | refine blk_drewN ?_ _ | refine blk_drew ?_ | refine blk_alloc ?_ _)); refine blk_far ?_ NB154_155.out _; (with_reducible repeat (first | refine blk_drewN ?_ _ | refine blk_drew ?_ | refine blk_alloc ?_ _)); refine blk_put (cs := #[.bool t158, .string t157]) ?_ 1 _ rfl; (with_reducible repeat (first | refine blk_drewN ?_ _ | refine blk_drew ?_ | refine blk_alloc ?_ _)); refine blk_put (cs := #[.bool true, .string t157]) ?_ 0 _ rfl; (with_reducible repeat (first | refine blk_drewN ?_ _ | refine blk_drew ?_ | refine blk_alloc ?_ _)); exact BK154.out⟩, ⟨by (with_reducible repeat (first | refine blk_drewN ?_ _ | refine blk_drew ?_ | refine blk_alloc ?_ _)); refine blk_put (cs := #[.bool true, .string t159]) ?_ 1 _ rfl; (with_reducible repeat (first | refine blk_drewN ?_ _ | refine blk_drew ?_ | refine blk_alloc ?_ _)); refine blk_put (cs := #[.bool t158, .string t159]) ?_ 0 _ rfl; (with_reducible repeat (first | refine blk_drewN ?_ _ | refine blk_drew ?_ | refine blk_alloc ?_ _)); refine blk_far ?_ NB155_154.out _; (with_reducible repeat (first | refine blk_drewN ?_ _ | refine blk_drew ?_ | refine blk_alloc ?_ _)); refine blk_far ?_ NB155_154.out _; (with_reducible repeat (first | refine blk_drewN ?_ _ | refine blk_drew ?_ | refine blk_alloc ?_ _)); exact BK155.out⟩, ⟨by repeat (first | (with_reducible first | exact HB.out | apply below_alloc | apply pw_below_drewN | apply below_drew1 | refine below_set ?_ GE154.out | refine below_set ?_ GE155.out) | exact HB.out)⟩⟩
                · replace c31 := Bool.eq_false_iff.mpr c31
                  subst c31
                  have H1 : (spec_intOrder.j2 kj22 false t157 t158 t159) = some r := by rw [if_neg (show ¬ (false = true) by decide)] at H; exact H
                  clear H
                  have H := H1
                  clear H1
                  have H' := Aside0.mk H
                  clear H
                  have hnb35 := NB154_155.out
                  have hnc35 := NB155_154.out
                  have hcz36_0 : wc.cell? ⟨gb154, 0, none⟩ = some (.bool false) := (blk_cell BK154.out 0).trans rfl
                  have hcz36_1 : wc.cell? ⟨gb154, 1, none⟩ = some (.string t157) := (blk_cell BK154.out 1).trans rfl
                  have hfz36_0 := blk_frozen BK154.out 0
                  have hfz36_1 := blk_frozen BK154.out 1
                  go_wp2
                  go_meet
                  case rel => exact ⟨_, (false), (t157), (t158), (t159), H', ⟨by have := HJ14.out; have := HJ22.out; first | omega | exact Nat.le_refl _⟩, ⟨by (with_reducible repeat (first | refine blk_drewN ?_ _ | refine blk_drew ?_ | refine blk_alloc ?_ _)); exact BK154.out⟩, ⟨by (with_reducible repeat (first | refine blk_drewN ?_ _ | refine blk_drew ?_ | refine blk_alloc ?_ _)); exact BK155.out⟩, ⟨by repeat (first | (with_reducible first | exact HB.out | apply below_alloc | apply pw_below_drewN | apply below_drew1 | refine below_set ?_ GE154.out | refine below_set ?_ GE155.out) | exact HB.out)⟩⟩
  case rest =>
    clear HC5
    try clear c1
    try clear c2
    try clear p2
    try clear c3
    try clear c5
    try clear c16
    try clear c17
    try clear c20
    try clear c22
    try clear c24
    try clear c25
    try clear c27
    try clear c30
    try clear c31
    try clear c32
    try clear c35
    try clear hcz18_0
    try clear hcz18_1
    try clear hcz19_0
    try clear hcz19_1
    try clear hcz21_0
    try clear hcz21_1
    try clear hcz26_0
    try clear hcz26_1
    try clear hcz28_0
    try clear hcz28_1
    try clear hcz29_0
    try clear hcz29_1
    try clear hcz33_0
    try clear hcz33_1
    try clear hcz34_0
    try clear hcz34_1
    try clear hcz36_0
    try clear hcz36_1
    try clear hfz18_0
    try clear hfz18_1
    try clear hfz19_0
    try clear hfz19_1
    try clear hfz21_0
    try clear hfz21_1
    try clear hfz26_0
    try clear hfz26_1
    try clear hfz28_0
    try clear hfz28_1
    try clear hfz29_0
    try clear hfz29_1
    try clear hfz33_0
    try clear hfz33_1
    try clear hfz34_0
    try clear hfz34_1
    try clear hfz36_0
    try clear hfz36_1
    try clear p2
    obtain ⟨kq, x155000_4, x155001_4, x156000_4, x156001_4, HA, HJ4, BK154, BK155, HB⟩ := hcut
    cases kq with
    | zero => exact absurd HA.out (by simp [spec_intOrder.j2])
    | succ kj4 =>
      have H := HA.out
      clear HA
      simp only [spec_intOrder.j2] at H
      by_cases c37 : (x155001_4.size : Int) = (x156001_4.size : Int)
      · rw [if_pos c37] at H
        have c37b0 : ((x155001_4.size : Int) == (x156001_4.size : Int)) = true := beq_iff_eq.mpr c37
        have c37b1 : ((x155001_4.size : Int) != (x156001_4.size : Int)) = false := bne_eq_false_iff_eq.mpr c37
        have c37b2 : (x155001_4.size == x156001_4.size) = true := by first | simpa using c37 | (simp at c37 ⊢; omega)
        clear c37
        replace H := Option.bind_eq_some_iff.mp H
        obtain ⟨t160, A380, H⟩ := H
        replace H : (some t160) = some r := H
        have A38 := Aside0.mk A380
        clear A380
        obtain rfl := Option.some.inj H
        have hnb39 := NB154_155.out
        have hnc39 := NB155_154.out
        have hcz40_0 : wc.cell? ⟨gb154, 0, none⟩ = some (.bool x155000_4) := (blk_cell BK154.out 0).trans rfl
        have hcz40_1 : wc.cell? ⟨gb154, 1, none⟩ = some (.string x155001_4) := (blk_cell BK154.out 1).trans rfl
        have hfz40_0 := blk_frozen BK154.out 0
        have hfz40_1 := blk_frozen BK154.out 1
        have hcz41_0 : wc.cell? ⟨gb155, 0, none⟩ = some (.bool x156000_4) := (blk_cell BK155.out 0).trans rfl
        have hcz41_1 : wc.cell? ⟨gb155, 1, none⟩ = some (.string x156001_4) := (blk_cell BK155.out 1).trans rfl
        have hfz41_0 := blk_frozen BK155.out 0
        have hfz41_1 := blk_frozen BK155.out 1
        go_wp2_with (first | ((with_reducible refine gate_callee (f := 23) rfl ?_); refine goesL_ (some 48) rfl rfl Tryz.func23 (by kernel_rfl) rfl #[.string x155001_4, .string x156001_4] rfl (by (try simp only [List.map_toArray, List.map_cons, List.map_nil]); first | done | rfl | (simp only [List.length_drop, List.length_take]; rfl)) ?_; (with_reducible refine (spec_order.calls x155001_4 x156001_4 t160 _ A38.out).mono ?_); rintro e w' ⟨rfl, ⟨nd, rfl⟩⟩; refine ⟨_, rfl, ?_⟩))
        go_ret
        exact ⟨by first | rfl | (simp [errW_none, errW_some] <;> rfl) | (simp [*, errW_none, errW_some] <;> rfl), by repeat (first | (with_reducible first | exact HB.out | apply below_alloc | apply pw_below_drewN | apply below_drew1 | refine below_set ?_ GE154.out | refine below_set ?_ GE155.out) | exact HB.out)⟩
      · rw [if_neg c37] at H
        have c37b0 : ((x155001_4.size : Int) == (x156001_4.size : Int)) = false := beq_eq_false_iff_ne.mpr c37
        have c37b1 : ((x155001_4.size : Int) != (x156001_4.size : Int)) = true := bne_iff_ne.mpr c37
        have c37b2 : (x155001_4.size == x156001_4.size) = false := by first | simpa using c37 | (simp at c37 ⊢; omega)
        replace H := Option.bind_eq_some_iff.mp H
        obtain ⟨t161, A420, H⟩ := H
        replace H : (some t161) = some r := H
        have A42 := Aside0.mk A420
        clear A420
        obtain rfl := Option.some.inj H
        have hnb43 := NB154_155.out
        have hnc43 := NB155_154.out
        have hcz44_0 : wc.cell? ⟨gb154, 0, none⟩ = some (.bool x155000_4) := (blk_cell BK154.out 0).trans rfl
        have hcz44_1 : wc.cell? ⟨gb154, 1, none⟩ = some (.string x155001_4) := (blk_cell BK154.out 1).trans rfl
        have hfz44_0 := blk_frozen BK154.out 0
        have hfz44_1 := blk_frozen BK154.out 1
        have hcz45_0 : wc.cell? ⟨gb155, 0, none⟩ = some (.bool x156000_4) := (blk_cell BK155.out 0).trans rfl
        have hcz45_1 : wc.cell? ⟨gb155, 1, none⟩ = some (.string x156001_4) := (blk_cell BK155.out 1).trans rfl
        have hfz45_0 := blk_frozen BK155.out 0
        have hfz45_1 := blk_frozen BK155.out 1
        go_wp2_with (first | ((with_reducible refine gate_callee (f := 58) rfl ?_); refine goesL_ (some 43) rfl rfl Tryz.func58 (by kernel_rfl) rfl #[.int .i64 (x155001_4.size : Int), .int .i64 (x156001_4.size : Int)] rfl (by (try simp only [List.map_toArray, List.map_cons, List.map_nil]); first | done | rfl | (simp only [List.length_drop, List.length_take]; rfl)) ?_; (with_reducible refine (spec_orderInts.calls (x155001_4.size : Int) (x156001_4.size : Int) t161 _ A42.out).mono ?_); rintro e w' ⟨rfl, ⟨nd, rfl⟩⟩; refine ⟨_, rfl, ?_⟩))
        go_ret
        exact ⟨by first | rfl | (simp [errW_none, errW_some] <;> rfl) | (simp [*, errW_none, errW_some] <;> rfl), by repeat (first | (with_reducible first | exact HB.out | apply below_alloc | apply pw_below_drewN | apply below_drew1 | refine below_set ?_ GE154.out | refine below_set ?_ GE155.out) | exact HB.out)⟩

end Go.Proofs.YtajglnedoeboaaaGreatDoor.Z
