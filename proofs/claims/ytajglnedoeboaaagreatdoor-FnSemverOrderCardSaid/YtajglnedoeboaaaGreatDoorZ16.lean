-- Written by a program of this session (myprint.py).
import Derived.Test.YtajglnedoeboaaaGreatDoorZ0
import Derived.Test.YtajglnedoeboaaaGreatDoorZ12
import Derived.Test.YtajglnedoeboaaaGreatDoorZ13
import Derived.Test.YtajglnedoeboaaaGreatDoorZ14
import Derived.Test.YtajglnedoeboaaaGreatDoorZ15
import Derived.Test.YtajglnedoeboaaaGreatDoorGe
namespace Go.Proofs.YtajglnedoeboaaaGreatDoor.Z
open Go.Proofs.YtajglnedoeboaaaGreatDoor.Gw
open Go.RowKit Go.Proofs.YtajglnedoeboaaaGreatDoorW.PrintWords Go.Proofs.YtajglnedoeboaaaGreatDoorW.PrintLast Go.Proofs.YtajglnedoeboaaaGreatDoorW.PrintMore
attribute [local go_sem high] Go.Proofs.YtajglnedoeboaaaGreatDoor.Ge.gtr_str
attribute [local go_sem] max2_int min2_int max_two min_two max_three min_three max_four min_four   -- for this text's walks alone
set_option linter.unusedVariables false
set_option linter.unusedSimpArgs false

/-! ### semantic_compareBuildComponents: function 52 -/
mutual
def semantic_compareBuildComponents.j0 : Nat → ByteArray → ByteArray → Bool → Option (Int)
  | 0, _, _, _ => none
  | k + 1, x0, x1, x18 => if x18 = true then (some 1) else (if x0.toList = ([] : List UInt8) then (semantic_compareBuildComponents.j1 k x0 x1 false) else (semantic_compareBuildComponents.j1 k x0 x1 (x1.toList.isEmpty)))
def semantic_compareBuildComponents.j1 : Nat → ByteArray → ByteArray → Bool → Option (Int)
  | 0, _, _, _ => none
  | k + 1, x0, x1, x24 => if x24 = true then (some (-1)) else ((semantic_zzSplit.f x0 (⟨#[46]⟩ : ByteArray)).bind fun t233 => ((semantic_zzSplit.f x1 (⟨#[46]⟩ : ByteArray)).bind fun t236 => ((semantic_compareSemverBuildComponents.f t233 t236).bind fun t239 => (some t239))))
end
def semantic_compareBuildComponents.f (k : Nat) (a0 : ByteArray) (a1 : ByteArray) : Option (Int) := (semantic_removeBuildMetadata.f a0).bind fun t229 => ((semantic_removeBuildMetadata.f a1).bind fun t230 => ((strings_TrimPrefix.f t229 (⟨#[45]⟩ : ByteArray)).bind fun t231 => ((strings_TrimPrefix.f t230 (⟨#[45]⟩ : ByteArray)).bind fun t232 => (if t231.toList = ([] : List UInt8) then (semantic_compareBuildComponents.j0 k t231 t232 (!t232.toList.isEmpty)) else (semantic_compareBuildComponents.j0 k t231 t232 false)))))
theorem semantic_compareBuildComponents.mono_l : ∀ k, (∀ y0 y1 y2, LeO (semantic_compareBuildComponents.j0 k y0 y1 y2) (semantic_compareBuildComponents.j0 (k + 1) y0 y1 y2)) ∧ (∀ y0 y1 y2, LeO (semantic_compareBuildComponents.j1 k y0 y1 y2) (semantic_compareBuildComponents.j1 (k + 1) y0 y1 y2))
  | 0 => ⟨fun _ _ _ r h => by simp [semantic_compareBuildComponents.j0] at h, fun _ _ _ r h => by simp [semantic_compareBuildComponents.j1] at h⟩
  | k + 1 => by
    obtain ⟨ih0, ih1⟩ := semantic_compareBuildComponents.mono_l k
    refine ⟨?_, ?_⟩
    · intro y0 y1 y2
      unfold semantic_compareBuildComponents.j0
      repeat' first
      | (with_reducible exact ih0 _ _ _)
      | (with_reducible exact ih1 _ _ _)
      | (with_reducible exact LeO.refl _)
      | (with_reducible exact LeO.none _)
      | (with_reducible refine LeO.ite ?_ ?_)
      | (with_reducible refine LeO.bind ?_ (fun _ => ?_))
      | exact ih0 _ _ _
      | exact ih1 _ _ _
      | exact LeO.none _
      | refine LeO.ite ?_ ?_
      | refine LeO.bind ?_ (fun _ => ?_)
    · intro y0 y1 y2
      unfold semantic_compareBuildComponents.j1
      repeat' first
      | (with_reducible exact ih0 _ _ _)
      | (with_reducible exact ih1 _ _ _)
      | (with_reducible exact LeO.refl _)
      | (with_reducible exact LeO.none _)
      | (with_reducible refine LeO.ite ?_ ?_)
      | (with_reducible refine LeO.bind ?_ (fun _ => ?_))
      | exact ih0 _ _ _
      | exact ih1 _ _ _
      | exact LeO.none _
      | refine LeO.ite ?_ ?_
      | refine LeO.bind ?_ (fun _ => ?_)
theorem semantic_compareBuildComponents.mono : ∀ a0 a1 k, LeO (semantic_compareBuildComponents.f k a0 a1) (semantic_compareBuildComponents.f (k + 1) a0 a1) := by
  intro a0 a1 k
  obtain ⟨ih0, ih1⟩ := semantic_compareBuildComponents.mono_l k
  unfold semantic_compareBuildComponents.f
  repeat' first
      | (with_reducible exact ih0 _ _ _)
      | (with_reducible exact ih1 _ _ _)
      | (with_reducible exact LeO.refl _)
      | (with_reducible exact LeO.none _)
      | (with_reducible refine LeO.ite ?_ ?_)
      | (with_reducible refine LeO.bind ?_ (fun _ => ?_))
      | exact ih0 _ _ _
      | exact ih1 _ _ _
      | exact LeO.none _
      | refine LeO.ite ?_ ?_
      | refine LeO.bind ?_ (fun _ => ?_)
set_option maxHeartbeats 8000000 in
set_option maxRecDepth 100000 in
theorem semantic_compareBuildComponents.calls (k : Nat) (a0 : ByteArray) (a1 : ByteArray) (r : Int) (w : World) (hG : GW w) (h : semantic_compareBuildComponents.f k a0 a1 = some r) :
    Calls Tryz.prog 52 #[.string a0, .string a1] w fun e w' => e = .returned (.int .i64 r) ∧ Below w.heap.size w w' := by
  have HG := Aside0.mk hG
  clear hG
  have HB := Aside0.mk (Below.refl w.heap.size w)
  have H : ((semantic_removeBuildMetadata.f a0).bind fun t229 => ((semantic_removeBuildMetadata.f a1).bind fun t230 => ((strings_TrimPrefix.f t229 (⟨#[45]⟩ : ByteArray)).bind fun t231 => ((strings_TrimPrefix.f t230 (⟨#[45]⟩ : ByteArray)).bind fun t232 => (if t231.toList = ([] : List UInt8) then (semantic_compareBuildComponents.j0 k t231 t232 (!t232.toList.isEmpty)) else (semantic_compareBuildComponents.j0 k t231 t232 false)))))) = some r := h
  clear h
  replace H := Option.bind_eq_some_iff.mp H
  obtain ⟨t229, A30, H⟩ := H
  replace H : ((semantic_removeBuildMetadata.f a1).bind fun t230 => ((strings_TrimPrefix.f t229 (⟨#[45]⟩ : ByteArray)).bind fun t231 => ((strings_TrimPrefix.f t230 (⟨#[45]⟩ : ByteArray)).bind fun t232 => (if t231.toList = ([] : List UInt8) then (semantic_compareBuildComponents.j0 k t231 t232 (!t232.toList.isEmpty)) else (semantic_compareBuildComponents.j0 k t231 t232 false))))) = some r := H
  have A3 := Aside0.mk A30
  clear A30
  replace H := Option.bind_eq_some_iff.mp H
  obtain ⟨t230, A40, H⟩ := H
  replace H : ((strings_TrimPrefix.f t229 (⟨#[45]⟩ : ByteArray)).bind fun t231 => ((strings_TrimPrefix.f t230 (⟨#[45]⟩ : ByteArray)).bind fun t232 => (if t231.toList = ([] : List UInt8) then (semantic_compareBuildComponents.j0 k t231 t232 (!t232.toList.isEmpty)) else (semantic_compareBuildComponents.j0 k t231 t232 false)))) = some r := H
  have A4 := Aside0.mk A40
  clear A40
  replace H := Option.bind_eq_some_iff.mp H
  obtain ⟨t231, A50, H⟩ := H
  replace H : ((strings_TrimPrefix.f t230 (⟨#[45]⟩ : ByteArray)).bind fun t232 => (if t231.toList = ([] : List UInt8) then (semantic_compareBuildComponents.j0 k t231 t232 (!t232.toList.isEmpty)) else (semantic_compareBuildComponents.j0 k t231 t232 false))) = some r := H
  have A5 := Aside0.mk A50
  clear A50
  replace H := Option.bind_eq_some_iff.mp H
  obtain ⟨t232, A60, H⟩ := H
  replace H : (if t231.toList = ([] : List UInt8) then (semantic_compareBuildComponents.j0 k t231 t232 (!t232.toList.isEmpty)) else (semantic_compareBuildComponents.j0 k t231 t232 false)) = some r := H
  have A6 := Aside0.mk A60
  clear A60
  have HC7 := Aside0.mk H
  clear H
  go_enter Tryz.func52, Tryz.ntmps52
  go_upto_region 5 with (first | ((with_reducible refine gate_callee (f := 66) rfl ?_); refine goesL_ (some 6) rfl rfl Tryz.func66 (by kernel_rfl) rfl #[.string a0] rfl (by (try simp only [List.map_toArray, List.map_cons, List.map_nil]); first | done | rfl | (simp only [List.length_drop, List.length_take]; rfl)) ?_; (with_reducible refine (semantic_removeBuildMetadata.calls a0 t229 _ A3.out).mono ?_); rintro e w8 ⟨rfl, hb⟩; refine ⟨_, rfl, ?_⟩; have n0_ := Aside0.mk (below_step (by repeat (first | (with_reducible first | exact HB.out | apply below_alloc | apply pw_below_drewN | apply below_drew1) | exact HB.out)) hb); clear HB; have HB := n0_; clear n0_; (try clear hb); (try clear hb2); (try clear hk); (try clear hi)) | ((with_reducible refine gate_callee (f := 66) rfl ?_); refine goesL_ (some 8) rfl rfl Tryz.func66 (by kernel_rfl) rfl #[.string a1] rfl (by (try simp only [List.map_toArray, List.map_cons, List.map_nil]); first | done | rfl | (simp only [List.length_drop, List.length_take]; rfl)) ?_; (with_reducible refine (semantic_removeBuildMetadata.calls a1 t230 _ A4.out).mono ?_); rintro e w9 ⟨rfl, hb⟩; refine ⟨_, rfl, ?_⟩; have n0_ := Aside0.mk (below_step (by repeat (first | (with_reducible first | exact HB.out | apply below_alloc | apply pw_below_drewN | apply below_drew1) | exact HB.out)) hb); clear HB; have HB := n0_; clear n0_; (try clear hb); (try clear hb2); (try clear hk); (try clear hi)) | ((with_reducible refine gate_callee (f := 67) rfl ?_); refine goesL_ (some 10) rfl rfl Tryz.func67 (by kernel_rfl) rfl #[.string t229, .string (⟨#[45]⟩ : ByteArray)] rfl (by (try simp only [List.map_toArray, List.map_cons, List.map_nil]); first | done | rfl | (simp only [List.length_drop, List.length_take]; rfl)) ?_; (with_reducible refine (strings_TrimPrefix.calls t229 (⟨#[45]⟩ : ByteArray) t231 _ A5.out).mono ?_); rintro e w' ⟨rfl, ⟨nd, rfl⟩⟩; refine ⟨_, rfl, ?_⟩) | ((with_reducible refine gate_callee (f := 67) rfl ?_); refine goesL_ (some 12) rfl rfl Tryz.func67 (by kernel_rfl) rfl #[.string t230, .string (⟨#[45]⟩ : ByteArray)] rfl (by (try simp only [List.map_toArray, List.map_cons, List.map_nil]); first | done | rfl | (simp only [List.length_drop, List.length_take]; rfl)) ?_; (with_reducible refine (strings_TrimPrefix.calls t230 (⟨#[45]⟩ : ByteArray) t232 _ A6.out).mono ?_); rintro e w' ⟨rfl, ⟨nd, rfl⟩⟩; refine ⟨_, rfl, ?_⟩))
  (try simp only [Act.put, List.setIfInBounds_toArray, List.set_cons_zero, List.set_cons_succ])
  go_cut [18] (fun v18 wc => ∃ (kq : Nat) (x18_6 : Bool), v18 = .bool x18_6 ∧ Aside0 (semantic_compareBuildComponents.j0 kq t231 t232 x18_6 = some r) ∧ Aside0 (kq ≤ k) ∧ Aside0 (Below w.heap.size w wc))
  case first =>
    have H := HC7.out
    clear HC7
    by_cases c10 : t231.toList = ([] : List UInt8)
    · rw [if_pos c10] at H
      have c10b0 : (t231.toList.isEmpty) = true := by simpa using c10
      have c10b1 : (!t231.toList.isEmpty) = false := by simpa using c10
      clear c10
      (first | rw [c10b0] | (simp only [i64_w, i32_w]; rw [c10b0]) | skip)
      have H' := Aside0.mk H
      clear H
      go_wp2
      go_meet
      case rel => exact ⟨_, (!(t232.toList.isEmpty)), (by first | rfl | (simp; done) | (simp [*]; done)), H', ⟨by first | omega | exact Nat.le_refl _⟩, ⟨by repeat (first | (with_reducible first | exact HB.out | apply below_alloc | apply pw_below_drewN | apply below_drew1) | exact HB.out)⟩⟩
    · rw [if_neg c10] at H
      have c10b0 : (t231.toList.isEmpty) = false := by simpa using c10
      have c10b1 : (!t231.toList.isEmpty) = true := by simpa using c10
      (first | rw [c10b0] | (simp only [i64_w, i32_w]; rw [c10b0]) | skip)
      have H' := Aside0.mk H
      clear H
      go_wp2
      go_meet
      case rel => exact ⟨_, (false), (by first | rfl | (simp; done) | (simp [*]; done)), H', ⟨by first | omega | exact Nat.le_refl _⟩, ⟨by repeat (first | (with_reducible first | exact HB.out | apply below_alloc | apply pw_below_drewN | apply below_drew1) | exact HB.out)⟩⟩
  case rest =>
    clear HC7
    try clear c1
    try clear p2
    try clear c5
    try clear c6
    try clear c10
    try clear c10b0
    try clear c10b1
    obtain ⟨kq, x18_6, rfl, HA, HJ6, HB⟩ := hcut
    cases kq with
    | zero => exact absurd HA.out (by simp [semantic_compareBuildComponents.j0])
    | succ kj6 =>
      have H := HA.out
      clear HA
      simp only [semantic_compareBuildComponents.j0] at H
      by_cases c11 : x18_6 = true
      · subst c11
        have H1 : (some 1) = some r := by rw [if_pos rfl] at H; exact H
        clear H
        have H := H1
        clear H1
        obtain rfl := Option.some.inj H
        go_wp2
        go_ret
        exact ⟨by first | rfl | (simp [errW_none, errW_some] <;> rfl) | (simp [*, errW_none, errW_some] <;> rfl), by repeat (first | (with_reducible first | exact HB.out | apply below_alloc | apply pw_below_drewN | apply below_drew1) | exact HB.out)⟩
      · replace c11 := Bool.eq_false_iff.mpr c11
        subst c11
        have H1 : (if t231.toList = ([] : List UInt8) then (semantic_compareBuildComponents.j1 kj6 t231 t232 false) else (semantic_compareBuildComponents.j1 kj6 t231 t232 (t232.toList.isEmpty))) = some r := by rw [if_neg (show ¬ (false = true) by decide)] at H; exact H
        clear H
        have H := H1
        clear H1
        have HC12 := Aside0.mk H
        clear H
        go_upto_region 7 with (fail)
        go_cut [24] (fun v24 wc => ∃ (kq : Nat) (x24_11 : Bool), v24 = .bool x24_11 ∧ Aside0 (semantic_compareBuildComponents.j1 kq t231 t232 x24_11 = some r) ∧ Aside0 (kq ≤ kj6) ∧ Aside0 (Below w.heap.size w wc))
        case first =>
          have H := HC12.out
          clear HC12
          by_cases c13 : t231.toList = ([] : List UInt8)
          · rw [if_pos c13] at H
            have c13b0 : (t231.toList.isEmpty) = true := by simpa using c13
            have c13b1 : (!t231.toList.isEmpty) = false := by simpa using c13
            clear c13
            (first | rw [c13b0] | (simp only [i64_w, i32_w]; rw [c13b0]) | skip)
            have H' := Aside0.mk H
            clear H
            go_wp2
            go_meet
            case rel => exact ⟨_, (false), (by first | rfl | (simp; done) | (simp [*]; done)), H', ⟨by have := HJ6.out; first | omega | exact Nat.le_refl _⟩, ⟨by repeat (first | (with_reducible first | exact HB.out | apply below_alloc | apply pw_below_drewN | apply below_drew1) | exact HB.out)⟩⟩
          · rw [if_neg c13] at H
            have c13b0 : (t231.toList.isEmpty) = false := by simpa using c13
            have c13b1 : (!t231.toList.isEmpty) = true := by simpa using c13
            (first | rw [c13b0] | (simp only [i64_w, i32_w]; rw [c13b0]) | skip)
            have H' := Aside0.mk H
            clear H
            go_wp2
            go_meet
            case rel => exact ⟨_, ((t232.toList.isEmpty)), (by first | rfl | (simp; done) | (simp [*]; done)), H', ⟨by have := HJ6.out; first | omega | exact Nat.le_refl _⟩, ⟨by repeat (first | (with_reducible first | exact HB.out | apply below_alloc | apply pw_below_drewN | apply below_drew1) | exact HB.out)⟩⟩
        case rest =>
          clear HC12
          try clear c1
          try clear p2
          try clear c5
          try clear c6
          try clear c10
          try clear c10b0
          try clear c10b1
          try clear c11
          try clear c13
          try clear c13b0
          try clear c13b1
          try clear p2
          obtain ⟨kq, x24_11, rfl, HA, HJ11, HB⟩ := hcut
          cases kq with
          | zero => exact absurd HA.out (by simp [semantic_compareBuildComponents.j1])
          | succ kj11 =>
            have H := HA.out
            clear HA
            simp only [semantic_compareBuildComponents.j1] at H
            by_cases c14 : x24_11 = true
            · subst c14
              have H1 : (some (-1)) = some r := by rw [if_pos rfl] at H; exact H
              clear H
              have H := H1
              clear H1
              obtain rfl := Option.some.inj H
              go_wp2
              go_ret
              exact ⟨by first | rfl | (simp [errW_none, errW_some] <;> rfl) | (simp [*, errW_none, errW_some] <;> rfl), by repeat (first | (with_reducible first | exact HB.out | apply below_alloc | apply pw_below_drewN | apply below_drew1) | exact HB.out)⟩
            · replace c14 := Bool.eq_false_iff.mpr c14
              subst c14
              have H1 : ((semantic_zzSplit.f t231 (⟨#[46]⟩ : ByteArray)).bind fun t233 => ((semantic_zzSplit.f t232 (⟨#[46]⟩ : ByteArray)).bind fun t236 => ((semantic_compareSemverBuildComponents.f t233 t236).bind fun t239 => (some t239)))) = some r := by rw [if_neg (show ¬ (false = true) by decide)] at H; exact H
              clear H
              have H := H1
              clear H1
              replace H := Option.bind_eq_some_iff.mp H
              obtain ⟨t233, A150, H⟩ := H
              replace H : ((semantic_zzSplit.f t232 (⟨#[46]⟩ : ByteArray)).bind fun t236 => ((semantic_compareSemverBuildComponents.f t233 t236).bind fun t239 => (some t239))) = some r := H
              have A15 := Aside0.mk A150
              clear A150
              replace H := Option.bind_eq_some_iff.mp H
              obtain ⟨t236, A160, H⟩ := H
              replace H : ((semantic_compareSemverBuildComponents.f t233 t236).bind fun t239 => (some t239)) = some r := H
              have A16 := Aside0.mk A160
              clear A160
              replace H := Option.bind_eq_some_iff.mp H
              obtain ⟨t239, A170, H⟩ := H
              replace H : (some t239) = some r := H
              have A17 := Aside0.mk A170
              clear A170
              obtain rfl := Option.some.inj H
              go_wp2_with (first | ((with_reducible refine gate_callee (f := 69) rfl ?_); refine goesL_ (some 26) rfl rfl Tryz.func69 (by kernel_rfl) rfl #[.string t231, .string (⟨#[46]⟩ : ByteArray)] rfl (by (try simp only [List.map_toArray, List.map_cons, List.map_nil]); first | done | rfl | (simp only [List.length_drop, List.length_take]; rfl)) ?_; (with_reducible refine (semantic_zzSplit.calls t231 (⟨#[46]⟩ : ByteArray) t233 _ A15.out).mono ?_); rintro e w18 ⟨v234, rfl, ho0, hb⟩; refine ⟨_, rfl, ?_⟩; have n0_ := Aside0.mk (Kd.R_lower ho0 (below_size (by repeat (first | (with_reducible first | exact HB.out | apply below_alloc | apply pw_below_drewN | apply below_drew1) | exact HB.out)))); have n1_ := Aside0.mk (below_step (by repeat (first | (with_reducible first | exact HB.out | apply below_alloc | apply pw_below_drewN | apply below_drew1) | exact HB.out)) hb); clear HB; have HO235 := n0_; have HB := n1_; clear n0_ n1_; (try clear hb); (try clear hb2); (try clear hk); (try clear hi); (try clear ho0)) | ((with_reducible refine gate_callee (f := 69) rfl ?_); refine goesL_ (some 28) rfl rfl Tryz.func69 (by kernel_rfl) rfl #[.string t232, .string (⟨#[46]⟩ : ByteArray)] rfl (by (try simp only [List.map_toArray, List.map_cons, List.map_nil]); first | done | rfl | (simp only [List.length_drop, List.length_take]; rfl)) ?_; (with_reducible refine (semantic_zzSplit.calls t232 (⟨#[46]⟩ : ByteArray) t236 _ A16.out).mono ?_); rintro e w19 ⟨v237, rfl, ho0, hb⟩; refine ⟨_, rfl, ?_⟩; have n0_ := Aside0.mk (Kd.R_elder' (by (with_reducible repeat (first | apply Kd.R_alloc | apply Kd.R_drewN | apply Kd.R_drew)); exact HO235.out) (Kd.R_base ho0) hb); have n1_ := Aside0.mk (Kd.R_lower (Kd.R_new' ho0 (Kd.R_lt (by (with_reducible repeat (first | apply Kd.R_alloc | apply Kd.R_drewN | apply Kd.R_drew)); exact HO235.out))) (below_size (by repeat (first | (with_reducible first | exact HB.out | apply below_alloc | apply pw_below_drewN | apply below_drew1) | exact HB.out)))); have n2_ := Aside0.mk (below_step (by repeat (first | (with_reducible first | exact HB.out | apply below_alloc | apply pw_below_drewN | apply below_drew1) | exact HB.out)) hb); clear HO235; clear HB; have HO235 := n0_; have HO238 := n1_; have HB := n2_; clear n0_ n1_ n2_; (try clear hb); (try clear hb2); (try clear hk); (try clear hi); (try clear ho0); obtain ⟨Ao20, co20, eo20⟩ := Kd.R_slice HO235.out; subst eo20; obtain ⟨Ao21, co21, eo21⟩ := Kd.R_slice HO238.out; subst eo21) | ((with_reducible refine gate_callee (f := 68) rfl ?_); refine goesL_ (some 29) rfl rfl Tryz.func68 (by kernel_rfl) rfl #[.slice Ao20 t233.length co20, .slice Ao21 t236.length co21] rfl (by (try simp only [List.map_toArray, List.map_cons, List.map_nil]); first | done | rfl | (simp only [List.length_drop, List.length_take]; rfl)) ?_; (with_reducible refine (semantic_compareSemverBuildComponents.calls _ _ t233 _ _ t236 t239 _ ?side1 ?side2 ?side3 ?side4 ?side5 A17.out).mono ?_); (case side1 => repeat (first | exact (Kd.R_reads' HO235.out).2.2 | (with_reducible refine Kd.C_alloc ?_ _) | (with_reducible refine Kd.C_drewN ?_ _) | (with_reducible refine Kd.C_drew ?_))); (case side2 => exact (Kd.R_reads' HO235.out).2.1); (case side3 => repeat (first | exact (Kd.R_reads' HO238.out).2.2 | (with_reducible refine Kd.C_alloc ?_ _) | (with_reducible refine Kd.C_drewN ?_ _) | (with_reducible refine Kd.C_drew ?_))); (case side4 => exact (Kd.R_reads' HO238.out).2.1); (case side5 => first | exact HG.out | exact GW.below HG.out (by repeat (first | (with_reducible first | exact HB.out | exact Below.refl _ _ | apply below_alloc | apply pw_below_drewN | apply below_drew1 | apply below_drew | refine below_set ?_ (Aside0.out (by assumption))) | exact HB.out))); rintro e w22 ⟨rfl, hb⟩; refine ⟨_, rfl, ?_⟩; have n0_ := Aside0.mk (Kd.R_below (by (with_reducible repeat (first | apply Kd.R_alloc | apply Kd.R_drewN | apply Kd.R_drew)); exact HO235.out) hb); have n1_ := Aside0.mk (Kd.R_below (by (with_reducible repeat (first | apply Kd.R_alloc | apply Kd.R_drewN | apply Kd.R_drew)); exact HO238.out) hb); have n2_ := Aside0.mk (below_step (by repeat (first | (with_reducible first | exact HB.out | apply below_alloc | apply pw_below_drewN | apply below_drew1) | exact HB.out)) hb); clear HO235; clear HO238; clear HB; have HO235 := n0_; have HO238 := n1_; have HB := n2_; clear n0_ n1_ n2_; (try clear hb); (try clear hb2); (try clear hk); (try clear hi)))
              go_ret
              exact ⟨by first | rfl | (simp [errW_none, errW_some] <;> rfl) | (simp [*, errW_none, errW_some] <;> rfl), by repeat (first | (with_reducible first | exact HB.out | apply below_alloc | apply pw_below_drewN | apply below_drew1) | exact HB.out)⟩

/-! ### semantic_zzCut: function 60 -/
def semantic_zzCut.f (k : Nat) (a0 : ByteArray) (a1 : ByteArray) : Option (ByteArray × ByteArray × Bool) := (semantic_zzIndex.f k a0 a1).bind fun t240 => (if t240 ≥ 0 then (if 0 ≤ t240 then (if t240 ≤ (a0.size : Int) then (if 0 ≤ (wrap64 (t240 + (a1.size : Int))) then (if (wrap64 (t240 + (a1.size : Int))) ≤ (a0.size : Int) then (some (a0.extract 0 (t240 : Int).toNat, a0.extract ((wrap64 (t240 + (a1.size : Int))) : Int).toNat a0.size, true)) else (none)) else (none)) else (none)) else (none)) else (some (a0, (⟨#[]⟩ : ByteArray), false)))
theorem semantic_zzCut.mono : ∀ a0 a1 k, LeO (semantic_zzCut.f k a0 a1) (semantic_zzCut.f (k + 1) a0 a1) := by
  intro a0 a1 k
  unfold semantic_zzCut.f
  repeat' first
      | (with_reducible exact semantic_zzIndex.mono _ _ _)
      | (with_reducible exact LeO.refl _)
      | (with_reducible exact LeO.none _)
      | (with_reducible refine LeO.ite ?_ ?_)
      | (with_reducible refine LeO.bind ?_ (fun _ => ?_))
      | exact semantic_zzIndex.mono _ _ _
      | exact LeO.none _
      | refine LeO.ite ?_ ?_
      | refine LeO.bind ?_ (fun _ => ?_)
set_option maxHeartbeats 8000000 in
set_option maxRecDepth 100000 in
theorem semantic_zzCut.calls (k : Nat) (a0 : ByteArray) (a1 : ByteArray) (r1 : ByteArray) (r2 : ByteArray) (r3 : Bool) (w : World) (h : semantic_zzCut.f k a0 a1 = some (r1, r2, r3)) :
    Calls Tryz.prog 60 #[.string a0, .string a1] w fun e w' => e = .returned (.tuple #[.string r1, .string r2, .bool r3]) ∧ Drawn0 w w' := by
  have H : ((semantic_zzIndex.f k a0 a1).bind fun t240 => (if t240 ≥ 0 then (if 0 ≤ t240 then (if t240 ≤ (a0.size : Int) then (if 0 ≤ (wrap64 (t240 + (a1.size : Int))) then (if (wrap64 (t240 + (a1.size : Int))) ≤ (a0.size : Int) then (some (a0.extract 0 (t240 : Int).toNat, a0.extract ((wrap64 (t240 + (a1.size : Int))) : Int).toNat a0.size, true)) else (none)) else (none)) else (none)) else (none)) else (some (a0, (⟨#[]⟩ : ByteArray), false)))) = some (r1, r2, r3) := h
  clear h
  replace H := Option.bind_eq_some_iff.mp H
  obtain ⟨t240, A30, H⟩ := H
  replace H : (if t240 ≥ 0 then (if 0 ≤ t240 then (if t240 ≤ (a0.size : Int) then (if 0 ≤ (wrap64 (t240 + (a1.size : Int))) then (if (wrap64 (t240 + (a1.size : Int))) ≤ (a0.size : Int) then (some (a0.extract 0 (t240 : Int).toNat, a0.extract ((wrap64 (t240 + (a1.size : Int))) : Int).toNat a0.size, true)) else (none)) else (none)) else (none)) else (none)) else (some (a0, (⟨#[]⟩ : ByteArray), false))) = some (r1, r2, r3) := H
  have A3 := Aside0.mk A30
  clear A30
  by_cases c4 : t240 ≥ 0
  · rw [if_pos c4] at H
    have c4b0 : decide (0 ≤ t240) = true := decide_eq_true c4
    clear c4
    by_cases c5 : 0 ≤ t240
    · rw [if_pos c5] at H
      have c5b0 := eq_true c5
      have c5b1 : decide (0 ≤ t240) = true := decide_eq_true c5
      clear c5
      by_cases c6 : t240 ≤ (a0.size : Int)
      · rw [if_pos c6] at H
        have c6b0 := eq_true c6
        have c6b1 : decide (t240 ≤ (a0.size : Int)) = true := decide_eq_true c6
        clear c6
        obtain ⟨ji7, hji7⟩ : ∃ j_ : Int, (wrap64 (t240 + (a1.size : Int))) = j_ := ⟨_, rfl⟩
        replace H : (if 0 ≤ (ji7) then (if (ji7) ≤ (a0.size : Int) then (some (a0.extract 0 (t240 : Int).toNat, a0.extract ((ji7) : Int).toNat a0.size, true)) else (none)) else (none)) = some (r1, r2, r3) := by first | (rw [hji7] at H; exact H) | (simp only [hji7] at H ⊢; exact H)
        (try rw [hji7] at A3)
        have hji7w : (IntKind.i64.wrap (t240 + (a1.size : Int))) = ji7 := (i64_w _).trans hji7
        by_cases c8 : 0 ≤ (ji7)
        · rw [if_pos c8] at H
          have c8b0 := eq_true c8
          have c8b1 : decide (0 ≤ (ji7)) = true := decide_eq_true c8
          clear c8
          by_cases c9 : (ji7) ≤ (a0.size : Int)
          · rw [if_pos c9] at H
            have c9b0 := eq_true c9
            have c9b1 : decide ((ji7) ≤ (a0.size : Int)) = true := decide_eq_true c9
            clear c9
            simp only [Option.some.injEq, Prod.mk.injEq] at H
            obtain ⟨rfl, rfl, rfl⟩ := H
            go_enter Tryz.func60, Tryz.ntmps60
            go_wp2_with (first | (go_at_call 74; (with_reducible refine (semantic_zzIndex.calls k a0 a1 t240 _ A3.out).mono ?_); rintro e w' ⟨rfl, ⟨nd, rfl⟩⟩; (try first | exact ⟨rfl, _, World.drewN_drewN _ _ _⟩ | exact ⟨rfl, _, Eq.trans (World.drewN_drewN _ _ _) (congrArg (World.drewN _) (Nat.add_assoc _ _ _))⟩)))
            repeat (go_quiet (first | (go_at_call 74; (with_reducible refine (semantic_zzIndex.calls k a0 a1 t240 _ A3.out).mono ?_); rintro e w' ⟨rfl, ⟨nd, rfl⟩⟩; (try first | exact ⟨rfl, _, World.drewN_drewN _ _ _⟩ | exact ⟨rfl, _, Eq.trans (World.drewN_drewN _ _ _) (congrArg (World.drewN _) (Nat.add_assoc _ _ _))⟩))); try go_wp2_with (first | (go_at_call 74; (with_reducible refine (semantic_zzIndex.calls k a0 a1 t240 _ A3.out).mono ?_); rintro e w' ⟨rfl, ⟨nd, rfl⟩⟩; (try first | exact ⟨rfl, _, World.drewN_drewN _ _ _⟩ | exact ⟨rfl, _, Eq.trans (World.drewN_drewN _ _ _) (congrArg (World.drewN _) (Nat.add_assoc _ _ _))⟩))))
            go_ret3
            exact ⟨by first | rfl | (simp; done) | (simp only [← hji7] <;> (first | rfl | simp)) | (simp [*]; done), by repeat (first | exact Drawn0.refl _ | apply Drawn0.step)⟩
          · rw [if_neg c9] at H
            exact absurd H (by simp)
        · rw [if_neg c8] at H
          exact absurd H (by simp)
      · rw [if_neg c6] at H
        exact absurd H (by simp)
    · rw [if_neg c5] at H
      exact absurd H (by simp)
  · rw [if_neg c4] at H
    have c4b0 : decide (0 ≤ t240) = false := decide_eq_false c4
    clear c4
    simp only [Option.some.injEq, Prod.mk.injEq] at H
    obtain ⟨rfl, rfl, rfl⟩ := H
    go_enter Tryz.func60, Tryz.ntmps60
    go_wp2_with (first | (go_at_call 74; (with_reducible refine (semantic_zzIndex.calls k a0 a1 t240 _ A3.out).mono ?_); rintro e w' ⟨rfl, ⟨nd, rfl⟩⟩; (try first | exact ⟨rfl, _, World.drewN_drewN _ _ _⟩ | exact ⟨rfl, _, Eq.trans (World.drewN_drewN _ _ _) (congrArg (World.drewN _) (Nat.add_assoc _ _ _))⟩)))
    repeat (go_quiet (first | (go_at_call 74; (with_reducible refine (semantic_zzIndex.calls k a0 a1 t240 _ A3.out).mono ?_); rintro e w' ⟨rfl, ⟨nd, rfl⟩⟩; (try first | exact ⟨rfl, _, World.drewN_drewN _ _ _⟩ | exact ⟨rfl, _, Eq.trans (World.drewN_drewN _ _ _) (congrArg (World.drewN _) (Nat.add_assoc _ _ _))⟩))); try go_wp2_with (first | (go_at_call 74; (with_reducible refine (semantic_zzIndex.calls k a0 a1 t240 _ A3.out).mono ?_); rintro e w' ⟨rfl, ⟨nd, rfl⟩⟩; (try first | exact ⟨rfl, _, World.drewN_drewN _ _ _⟩ | exact ⟨rfl, _, Eq.trans (World.drewN_drewN _ _ _) (congrArg (World.drewN _) (Nat.add_assoc _ _ _))⟩))))
    go_ret3
    exact ⟨by first | rfl | (simp; done) | (simp [*]; done), by repeat (first | exact Drawn0.refl _ | apply Drawn0.step)⟩

end Go.Proofs.YtajglnedoeboaaaGreatDoor.Z
