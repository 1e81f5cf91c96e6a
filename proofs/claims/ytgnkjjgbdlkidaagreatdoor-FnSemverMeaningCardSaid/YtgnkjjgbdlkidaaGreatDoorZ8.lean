-- Written by a program of this session (myprint.py).
import Derived.Test.YtgnkjjgbdlkidaaGreatDoorZ0
import Derived.Test.YtgnkjjgbdlkidaaGreatDoorZ4
import Derived.Test.YtgnkjjgbdlkidaaGreatDoorZ5
import Derived.Test.YtgnkjjgbdlkidaaGreatDoorZ6
import Derived.Test.YtgnkjjgbdlkidaaGreatDoorZ7
import Derived.Test.YtgnkjjgbdlkidaaGreatDoorGe
namespace Go.Proofs.YtgnkjjgbdlkidaaGreatDoor.Z
open Go.Proofs.YtgnkjjgbdlkidaaGreatDoor.Gw
open Go.RowKit Go.Proofs.YtgnkjjgbdlkidaaGreatDoorW.PrintWords Go.Proofs.YtgnkjjgbdlkidaaGreatDoorW.PrintLast Go.Proofs.YtgnkjjgbdlkidaaGreatDoorW.PrintMore
attribute [local go_sem high] Go.Proofs.YtgnkjjgbdlkidaaGreatDoor.Ge.gtr_str
attribute [local go_sem] max2_int min2_int max_two min_two max_three min_three max_four min_four   -- for this text's walks alone
set_option linter.unusedVariables false
set_option linter.unusedSimpArgs false

/-! ### semantic_compareBuildComponents: function 15 -/
mutual
def semantic_compareBuildComponents.j0 : Nat → ByteArray → ByteArray → Bool → Option (Int)
  | 0, _, _, _ => none
  | k + 1, x0, x1, x18 => if x18 = true then (some 1) else (if x0.toList = ([] : List UInt8) then (semantic_compareBuildComponents.j1 k x0 x1 false) else (semantic_compareBuildComponents.j1 k x0 x1 (x1.toList.isEmpty)))
def semantic_compareBuildComponents.j1 : Nat → ByteArray → ByteArray → Bool → Option (Int)
  | 0, _, _, _ => none
  | k + 1, x0, x1, x24 => if x24 = true then (some (-1)) else ((semantic_zzSplit.f x0 (⟨#[46]⟩ : ByteArray)).bind fun t118 => ((semantic_zzSplit.f x1 (⟨#[46]⟩ : ByteArray)).bind fun t121 => ((semantic_compareSemverBuildComponents.f t118 t121).bind fun t124 => (some t124))))
end
def semantic_compareBuildComponents.f (k : Nat) (a0 : ByteArray) (a1 : ByteArray) : Option (Int) := (semantic_removeBuildMetadata.f a0).bind fun t114 => ((semantic_removeBuildMetadata.f a1).bind fun t115 => ((strings_TrimPrefix.f t114 (⟨#[45]⟩ : ByteArray)).bind fun t116 => ((strings_TrimPrefix.f t115 (⟨#[45]⟩ : ByteArray)).bind fun t117 => (if t116.toList = ([] : List UInt8) then (semantic_compareBuildComponents.j0 k t116 t117 (!t117.toList.isEmpty)) else (semantic_compareBuildComponents.j0 k t116 t117 false)))))
theorem semantic_compareBuildComponents.mono_l : ∀ k, (∀ y0 y1 y2, LeO (semantic_compareBuildComponents.j0 k y0 y1 y2) (semantic_compareBuildComponents.j0 (k + 1) y0 y1 y2)) ∧ (∀ y0 y1 y2, LeO (semantic_compareBuildComponents.j1 k y0 y1 y2) (semantic_compareBuildComponents.j1 (k + 1) y0 y1 y2))
  | 0 => ⟨fun _ _ _ r h => by simp [semantic_compareBuildComponents.j0] at h, fun _ _ _ r h => by simp [semantic_compareBuildComponents.j1] at h⟩
  | k + 1 => by
    obtain ⟨ih0, ih1⟩ := semantic_compareBuildComponents.mono_l k
    refine ⟨?_, ?_⟩
    · intro y0 y1 y2
      unfold semantic_compareBuildComponents.j0
      repeat' first
      | (with_reducible exact ih0 _ _ _)
      | (with_reducible exact ih1 _ _ _)
      | (with_reducible exact LeO.refl _)
      | (with_reducible exact LeO.none _)
      | (with_reducible refine LeO.ite ?_ ?_)
      | (with_reducible refine LeO.bind ?_ (fun _ => ?_))
      | exact ih0 _ _ _
      | exact ih1 _ _ _
      | exact LeO.none _
      | refine LeO.ite ?_ ?_
      | refine LeO.bind ?_ (fun _ => ?_)
    · intro y0 y1 y2
      unfold semantic_compareBuildComponents.j1
      repeat' first
      | (with_reducible exact ih0 _ _ _)
      | (with_reducible exact ih1 _ _ _)
      | (with_reducible exact LeO.refl _)
      | (with_reducible exact LeO.none _)
      | (with_reducible refine LeO.ite ?_ ?_)
      | (with_reducible refine LeO.bind ?_ (fun _ => ?_))
      | exact ih0 _ _ _
      | exact ih1 _ _ _
      | exact LeO.none _
      | refine LeO.ite ?_ ?_
      | refine LeO.bind ?_ (fun _ => ?_)
theorem semantic_compareBuildComponents.mono : ∀ a0 a1 k, LeO (semantic_compareBuildComponents.f k a0 a1) (semantic_compareBuildComponents.f (k + 1) a0 a1) := by
  intro a0 a1 k
  obtain ⟨ih0, ih1⟩ := semantic_compareBuildComponents.mono_l k
  unfold semantic_compareBuildComponents.f
  repeat' first
      | (with_reducible exact ih0 _ _ _)
      | (with_reducible exact ih1 _ _ _)
      | (with_reducible exact LeO.refl _)
      | (with_reducible exact LeO.none _)
      | (with_reducible refine LeO.ite ?_ ?_)
      | (with_reducible refine LeO.bind ?_ (fun _ => ?_))
      | exact ih0 _ _ _
      | exact ih1 _ _ _
      | exact LeO.none _
      | refine LeO.ite ?_ ?_
      | refine LeO.bind ?_ (fun _ => ?_)
set_option maxHeartbeats 8000000 in
set_option maxRecDepth 100000 in
theorem semantic_compareBuildComponents.calls (k : Nat) (a0 : ByteArray) (a1 : ByteArray) (r : Int) (w : World) (hG : GW w) (h : semantic_compareBuildComponents.f k a0 a1 = some r) :
    Calls Tryz.prog 15 #[.string a0, .string a1] w fun e w' => e = .returned (.int .i64 r) ∧ Below w.heap.size w w' := by
  have HG := Aside0.mk hG
  clear hG
  have HB := Aside0.mk (Below.refl w.heap.size w)
  have H : ((semantic_removeBuildMetadata.f a0).bind fun t114 => ((semantic_removeBuildMetadata.f a1).bind fun t115 => ((strings_TrimPrefix.f t114 (⟨#[45]⟩ : ByteArray)).bind fun t116 => ((strings_TrimPrefix.f t115 (⟨#[45]⟩ : ByteArray)).bind fun t117 => (if t116.toList = ([] : List UInt8) then (semantic_compareBuildComponents.j0 k t116 t117 (!t117.toList.isEmpty)) else (semantic_compareBuildComponents.j0 k t116 t117 false)))))) = some r := h
  clear h
  replace H := Option.bind_eq_some_iff.mp H
  obtain ⟨t114, A30, H⟩ := H
  replace H : ((semantic_removeBuildMetadata.f a1).bind fun t115 => ((strings_TrimPrefix.f t114 (⟨#[45]⟩ : ByteArray)).bind fun t116 => ((strings_TrimPrefix.f t115 (⟨#[45]⟩ : ByteArray)).bind fun t117 => (if t116.toList = ([] : List UInt8) then (semantic_compareBuildComponents.j0 k t116 t117 (!t117.toList.isEmpty)) else (semantic_compareBuildComponents.j0 k t116 t117 false))))) = some r := H
  have A3 := Aside0.mk A30
  clear A30
  replace H := Option.bind_eq_some_iff.mp H
  obtain ⟨t115, A40, H⟩ := H
  replace H : ((strings_TrimPrefix.f t114 (⟨#[45]⟩ : ByteArray)).bind fun t116 => ((strings_TrimPrefix.f t115 (⟨#[45]⟩ : ByteArray)).bind fun t117 => (if t116.toList = ([] : List UInt8) then (semantic_compareBuildComponents.j0 k t116 t117 (!t117.toList.isEmpty)) else (semantic_compareBuildComponents.j0 k t116 t117 false)))) = some r := H
  have A4 := Aside0.mk A40
  clear A40
  replace H := Option.bind_eq_some_iff.mp H
  obtain ⟨t116, A50, H⟩ := H
  replace H : ((strings_TrimPrefix.f t115 (⟨#[45]⟩ : ByteArray)).bind fun t117 => (if t116.toList = ([] : List UInt8) then (semantic_compareBuildComponents.j0 k t116 t117 (!t117.toList.isEmpty)) else (semantic_compareBuildComponents.j0 k t116 t117 false))) = some r := H
  have A5 := Aside0.mk A50
  clear A50
  replace H := Option.bind_eq_some_iff.mp H
  obtain ⟨t117, A60, H⟩ := H
  replace H : (if t116.toList = ([] : List UInt8) then (semantic_compareBuildComponents.j0 k t116 t117 (!t117.toList.isEmpty)) else (semantic_compareBuildComponents.j0 k t116 t117 false)) = some r := H
  have A6 := Aside0.mk A60
  clear A60
  have HC7 := Aside0.mk H
  clear H
  go_enter Tryz.func15, Tryz.ntmps15
  go_upto_region 5 with (first | ((with_reducible refine gate_callee (f := 25) rfl ?_); refine goesL_ (some 6) rfl rfl Tryz.func25 (by kernel_rfl) rfl #[.string a0] rfl (by (try simp only [List.map_toArray, List.map_cons, List.map_nil]); first | done | rfl | (simp only [List.length_drop, List.length_take]; rfl)) ?_; (with_reducible refine (semantic_removeBuildMetadata.calls a0 t114 _ A3.out).mono ?_); rintro e w8 ⟨rfl, hb⟩; refine ⟨_, rfl, ?_⟩; have n0_ := Aside0.mk (below_step (by repeat (first | (with_reducible first | exact HB.out | apply below_alloc | apply pw_below_drewN | apply below_drew1) | exact HB.out)) hb); clear HB; have HB := n0_; clear n0_; (try clear hb); (try clear hb2); (try clear hk); (try clear hi)) | ((with_reducible refine gate_callee (f := 25) rfl ?_); refine goesL_ (some 8) rfl rfl Tryz.func25 (by kernel_rfl) rfl #[.string a1] rfl (by (try simp only [List.map_toArray, List.map_cons, List.map_nil]); first | done | rfl | (simp only [List.length_drop, List.length_take]; rfl)) ?_; (with_reducible refine (semantic_removeBuildMetadata.calls a1 t115 _ A4.out).mono ?_); rintro e w9 ⟨rfl, hb⟩; refine ⟨_, rfl, ?_⟩; have n0_ := Aside0.mk (below_step (by repeat (first | (with_reducible first | exact HB.out | apply below_alloc | apply pw_below_drewN | apply below_drew1) | exact HB.out)) hb); clear HB; have HB := n0_; clear n0_; (try clear hb); (try clear hb2); (try clear hk); (try clear hi)) | ((with_reducible refine gate_callee (f := 17) rfl ?_); refine goesL_ (some 10) rfl rfl Tryz.func17 (by kernel_rfl) rfl #[.string t114, .string (⟨#[45]⟩ : ByteArray)] rfl (by (try simp only [List.map_toArray, List.map_cons, List.map_nil]); first | done | rfl | (simp only [List.length_drop, List.length_take]; rfl)) ?_; (with_reducible refine (strings_TrimPrefix.calls t114 (⟨#[45]⟩ : ByteArray) t116 _ A5.out).mono ?_); rintro e w' ⟨rfl, ⟨nd, rfl⟩⟩; refine ⟨_, rfl, ?_⟩) | ((with_reducible refine gate_callee (f := 17) rfl ?_); refine goesL_ (some 12) rfl rfl Tryz.func17 (by kernel_rfl) rfl #[.string t115, .string (⟨#[45]⟩ : ByteArray)] rfl (by (try simp only [List.map_toArray, List.map_cons, List.map_nil]); first | done | rfl | (simp only [List.length_drop, List.length_take]; rfl)) ?_; (with_reducible refine (strings_TrimPrefix.calls t115 (⟨#[45]⟩ : ByteArray) t117 _ A6.out).mono ?_); rintro e w' ⟨rfl, ⟨nd, rfl⟩⟩; refine ⟨_, rfl, ?_⟩))
  (try simp only [Act.put, List.setIfInBounds_toArray, List.set_cons_zero, List.set_cons_succ])
  go_cut [18] (fun v18 wc => ∃ (kq : Nat) (x18_6 : Bool), v18 = .bool x18_6 ∧ Aside0 (semantic_compareBuildComponents.j0 kq t116 t117 x18_6 = some r) ∧ Aside0 (kq ≤ k) ∧ Aside0 (Below w.heap.size w wc))
  case first =>
    have H := HC7.out
    clear HC7
    by_cases c10 : t116.toList = ([] : List UInt8)
    · rw [if_pos c10] at H
      have c10b0 : (t116.toList.isEmpty) = true := by simpa using c10
      have c10b1 : (!t116.toList.isEmpty) = false := by simpa using c10
      clear c10
      (first | rw [c10b0] | (simp only [i64_w, i32_w]; rw [c10b0]) | skip)
      have H' := Aside0.mk H
      clear H
      go_wp2
      go_meet
      case rel => exact ⟨_, (!(t117.toList.isEmpty)), (by first | rfl | (simp; done) | (simp [*]; done)), H', ⟨by first | omega | exact Nat.le_refl _⟩, ⟨by repeat (first | (with_reducible first | exact HB.out | apply below_alloc | apply pw_below_drewN | apply below_drew1) | exact HB.out)⟩⟩
    · rw [if_neg c10] at H
      have c10b0 : (t116.toList.isEmpty) = false := by simpa using c10
      have c10b1 : (!t116.toList.isEmpty) = true := by simpa using c10
      (first | rw [c10b0] | (simp only [i64_w, i32_w]; rw [c10b0]) | skip)
      have H' := Aside0.mk H
      clear H
      go_wp2
      go_meet
      case rel => exact ⟨_, (false), (by first | rfl | (simp; done) | (simp [*]; done)), H', ⟨by first | omega | exact Nat.le_refl _⟩, ⟨by repeat (first | (with_reducible first | exact HB.out | apply below_alloc | apply pw_below_drewN | apply below_drew1) | exact HB.out)⟩⟩
  case rest =>
    clear HC7
    try clear c1
    try clear c2
    try clear p2
    try clear c10
    try clear c10b0
    try clear c10b1
    obtain ⟨kq, x18_6, rfl, HA, HJ6, HB⟩ := hcut
    cases kq with
    | zero => exact absurd HA.out (by simp [semantic_compareBuildComponents.j0])
    | succ kj6 =>
      have H := HA.out
      clear HA
      simp only [semantic_compareBuildComponents.j0] at H
      by_cases c11 : x18_6 = true
      · subst c11
        have H1 : (some 1) = some r := by rw [if_pos rfl] at H; exact H
        clear H
        have H := H1
        clear H1
        obtain rfl := Option.some.inj H
        go_wp2
        go_ret
        exact ⟨by first | rfl | (simp [errW_none, errW_some] <;> rfl) | (simp [*, errW_none, errW_some] <;> rfl), by repeat (first | (with_reducible first | exact HB.out | apply below_alloc | apply pw_below_drewN | apply below_drew1) | exact HB.out)⟩
      · replace c11 := Bool.eq_false_iff.mpr c11
        subst c11
        have H1 : (if t116.toList = ([] : List UInt8) then (semantic_compareBuildComponents.j1 kj6 t116 t117 false) else (semantic_compareBuildComponents.j1 kj6 t116 t117 (t117.toList.isEmpty))) = some r := by rw [if_neg (show ¬ (false = true) by decide)] at H; exact H
        clear H
        have H := H1
        clear H1
        have HC12 := Aside0.mk H
        clear H
        go_upto_region 7 with (fail)
        go_cut [24] (fun v24 wc => ∃ (kq : Nat) (x24_11 : Bool), v24 = .bool x24_11 ∧ Aside0 (semantic_compareBuildComponents.j1 kq t116 t117 x24_11 = some r) ∧ Aside0 (kq ≤ kj6) ∧ Aside0 (Below w.heap.size w wc))
        case first =>
          have H := HC12.out
          clear HC12
          by_cases c13 : t116.toList = ([] : List UInt8)
          · rw [if_pos c13] at H
            have c13b0 : (t116.toList.isEmpty) = true := by simpa using c13
            have c13b1 : (!t116.toList.isEmpty) = false := by simpa using c13
            clear c13
            (first | rw [c13b0] | (simp only [i64_w, i32_w]; rw [c13b0]) | skip)
            have H' := Aside0.mk H
            clear H
            go_wp2
            go_meet
            case rel => exact ⟨_, (false), (by first | rfl | (simp; done) | (simp [*]; done)), H', ⟨by have := HJ6.out; first | omega | exact Nat.le_refl _⟩, ⟨by repeat (first | (with_reducible first | exact HB.out | apply below_alloc | apply pw_below_drewN | apply below_drew1) | exact HB.out)⟩⟩
          · rw [if_neg c13] at H
            have c13b0 : (t116.toList.isEmpty) = false := by simpa using c13
            have c13b1 : (!t116.toList.isEmpty) = true := by simpa using c13
            (first | rw [c13b0] | (simp only [i64_w, i32_w]; rw [c13b0]) | skip)
            have H' := Aside0.mk H
            clear H
            go_wp2
            go_meet
            case rel => exact ⟨_, ((t117.toList.isEmpty)), (by first | rfl | (simp; done) | (simp [*]; done)), H', ⟨by have := HJ6.out; first | omega | exact Nat.le_refl _⟩, ⟨by repeat (first | (with_reducible first | exact HB.out | apply below_alloc | apply pw_below_drewN | apply below_drew1) | exact HB.out)⟩⟩
        case rest =>
          clear HC12
          try clear c1
          try clear c2
          try clear p2
          try clear c10
          try clear c10b0
          try clear c10b1
          try clear c11
          try clear c13
          try clear c13b0
          try clear c13b1
          try clear p2
          obtain ⟨kq, x24_11, rfl, HA, HJ11, HB⟩ := hcut
          cases kq with
          | zero => exact absurd HA.out (by simp [semantic_compareBuildComponents.j1])
          | succ kj11 =>
            have H := HA.out
            clear HA
            simp only [semantic_compareBuildComponents.j1] at H
            by_cases c14 : x24_11 = true
            · subst c14
              have H1 : (some (-1)) = some r := by rw [if_pos rfl] at H; exact H
              clear H
              have H := H1
              clear H1
              obtain rfl := Option.some.inj H
              go_wp2
              go_ret
              exact ⟨by first | rfl | (simp [errW_none, errW_some] <;> rfl) | (simp [*, errW_none, errW_some] <;> rfl), by repeat (first | (with_reducible first | exact HB.out | apply below_alloc | apply pw_below_drewN | apply below_drew1) | exact HB.out)⟩
            · replace c14 := Bool.eq_false_iff.mpr c14
              subst c14
              have H1 : ((semantic_zzSplit.f t116 (⟨#[46]⟩ : ByteArray)).bind fun t118 => ((semantic_zzSplit.f t117 (⟨#[46]⟩ : ByteArray)).bind fun t121 => ((semantic_compareSemverBuildComponents.f t118 t121).bind fun t124 => (some t124)))) = some r := by rw [if_neg (show ¬ (false = true) by decide)] at H; exact H
              clear H
              have H := H1
              clear H1
              replace H := Option.bind_eq_some_iff.mp H
              obtain ⟨t118, A150, H⟩ := H
              replace H : ((semantic_zzSplit.f t117 (⟨#[46]⟩ : ByteArray)).bind fun t121 => ((semantic_compareSemverBuildComponents.f t118 t121).bind fun t124 => (some t124))) = some r := H
              have A15 := Aside0.mk A150
              clear A150
              replace H := Option.bind_eq_some_iff.mp H
              obtain ⟨t121, A160, H⟩ := H
              replace H : ((semantic_compareSemverBuildComponents.f t118 t121).bind fun t124 => (some t124)) = some r := H
              have A16 := Aside0.mk A160
              clear A160
              replace H := Option.bind_eq_some_iff.mp H
              obtain ⟨t124, A170, H⟩ := H
              replace H : (some t124) = some r := H
              have A17 := Aside0.mk A170
              clear A170
              obtain rfl := Option.some.inj H
              go_wp2_with (first | ((with_reducible refine gate_callee (f := 27) rfl ?_); refine goesL_ (some 26) rfl rfl Tryz.func27 (by kernel_rfl) rfl #[.string t116, .string (⟨#[46]⟩ : ByteArray)] rfl (by (try simp only [List.map_toArray, List.map_cons, List.map_nil]); first | done | rfl | (simp only [List.length_drop, List.length_take]; rfl)) ?_; (with_reducible refine (semantic_zzSplit.calls t116 (⟨#[46]⟩ : ByteArray) t118 _ A15.out).mono ?_); rintro e w18 ⟨v119, rfl, ho0, hb⟩; refine ⟨_, rfl, ?_⟩; have n0_ := Aside0.mk (Kd.R_lower ho0 (below_size (by repeat (first | (with_reducible first | exact HB.out | apply below_alloc | apply pw_below_drewN | apply below_drew1) | exact HB.out)))); have n1_ := Aside0.mk (below_step (by repeat (first | (with_reducible first | exact HB.out | apply below_alloc | apply pw_below_drewN | apply below_drew1) | exact HB.out)) hb); clear HB; have HO120 := n0_; have HB := n1_; clear n0_ n1_; (try clear hb); (try clear hb2); (try clear hk); (try clear hi); (try clear ho0)) | ((with_reducible refine gate_callee (f := 27) rfl ?_); refine goesL_ (some 28) rfl rfl Tryz.func27 (by kernel_rfl) rfl #[.string t117, .string (⟨#[46]⟩ : ByteArray)] rfl (by (try simp only [List.map_toArray, List.map_cons, List.map_nil]); first | done | rfl | (simp only [List.length_drop, List.length_take]; rfl)) ?_; (with_reducible refine (semantic_zzSplit.calls t117 (⟨#[46]⟩ : ByteArray) t121 _ A16.out).mono ?_); rintro e w19 ⟨v122, rfl, ho0, hb⟩; refine ⟨_, rfl, ?_⟩; have n0_ := Aside0.mk (Kd.R_elder' (by (with_reducible repeat (first | apply Kd.R_alloc | apply Kd.R_drewN | apply Kd.R_drew)); exact HO120.out) (Kd.R_base ho0) hb); have n1_ := Aside0.mk (Kd.R_lower (Kd.R_new' ho0 (Kd.R_lt (by (with_reducible repeat (first | apply Kd.R_alloc | apply Kd.R_drewN | apply Kd.R_drew)); exact HO120.out))) (below_size (by repeat (first | (with_reducible first | exact HB.out | apply below_alloc | apply pw_below_drewN | apply below_drew1) | exact HB.out)))); have n2_ := Aside0.mk (below_step (by repeat (first | (with_reducible first | exact HB.out | apply below_alloc | apply pw_below_drewN | apply below_drew1) | exact HB.out)) hb); clear HO120; clear HB; have HO120 := n0_; have HO123 := n1_; have HB := n2_; clear n0_ n1_ n2_; (try clear hb); (try clear hb2); (try clear hk); (try clear hi); (try clear ho0); obtain ⟨Ao20, co20, eo20⟩ := Kd.R_slice HO120.out; subst eo20; obtain ⟨Ao21, co21, eo21⟩ := Kd.R_slice HO123.out; subst eo21) | ((with_reducible refine gate_callee (f := 26) rfl ?_); refine goesL_ (some 29) rfl rfl Tryz.func26 (by kernel_rfl) rfl #[.slice Ao20 t118.length co20, .slice Ao21 t121.length co21] rfl (by (try simp only [List.map_toArray, List.map_cons, List.map_nil]); first | done | rfl | (simp only [List.length_drop, List.length_take]; rfl)) ?_; (with_reducible refine (semantic_compareSemverBuildComponents.calls _ _ t118 _ _ t121 t124 _ ?side1 ?side2 ?side3 ?side4 ?side5 A17.out).mono ?_); (case side1 => repeat (first | exact (Kd.R_reads' HO120.out).2.2 | (with_reducible refine Kd.C_alloc ?_ _) | (with_reducible refine Kd.C_drewN ?_ _) | (with_reducible refine Kd.C_drew ?_))); (case side2 => exact (Kd.R_reads' HO120.out).2.1); (case side3 => repeat (first | exact (Kd.R_reads' HO123.out).2.2 | (with_reducible refine Kd.C_alloc ?_ _) | (with_reducible refine Kd.C_drewN ?_ _) | (with_reducible refine Kd.C_drew ?_))); (case side4 => exact (Kd.R_reads' HO123.out).2.1); (case side5 => first | exact HG.out | exact GW.below HG.out (by repeat (first | (with_reducible first | exact HB.out | exact Below.refl _ _ | apply below_alloc | apply pw_below_drewN | apply below_drew1 | apply below_drew | refine below_set ?_ (Aside0.out (by assumption))) | exact HB.out))); rintro e w22 ⟨rfl, hb⟩; refine ⟨_, rfl, ?_⟩; have n0_ := Aside0.mk (Kd.R_below (by (with_reducible repeat (first | apply Kd.R_alloc | apply Kd.R_drewN | apply Kd.R_drew)); exact HO120.out) hb); have n1_ := Aside0.mk (Kd.R_below (by (with_reducible repeat (first | apply Kd.R_alloc | apply Kd.R_drewN | apply Kd.R_drew)); exact HO123.out) hb); have n2_ := Aside0.mk (below_step (by repeat (first | (with_reducible first | exact HB.out | apply below_alloc | apply pw_below_drewN | apply below_drew1) | exact HB.out)) hb); clear HO120; clear HO123; clear HB; have HO120 := n0_; have HO123 := n1_; have HB := n2_; clear n0_ n1_ n2_; (try clear hb); (try clear hb2); (try clear hk); (try clear hi)))
              go_ret
              exact ⟨by first | rfl | (simp [errW_none, errW_some] <;> rfl) | (simp [*, errW_none, errW_some] <;> rfl), by repeat (first | (with_reducible first | exact HB.out | apply below_alloc | apply pw_below_drewN | apply below_drew1) | exact HB.out)⟩

end Go.Proofs.YtgnkjjgbdlkidaaGreatDoor.Z
