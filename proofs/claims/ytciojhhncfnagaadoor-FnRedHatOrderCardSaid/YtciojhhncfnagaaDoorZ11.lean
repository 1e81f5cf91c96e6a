-- Written by a program of this session (myprint.py).
import Derived.Test.YtciojhhncfnagaaDoorZ0
import Derived.Test.YtciojhhncfnagaaDoorZ5
import Derived.Test.YtciojhhncfnagaaDoorZ7
import Derived.Test.YtciojhhncfnagaaDoorGe
namespace Go.Proofs.YtciojhhncfnagaaDoor.Z
open Go.RowKit Go.Proofs.YtciojhhncfnagaaDoorW.PrintWords Go.Proofs.YtciojhhncfnagaaDoorW.PrintLast Go.Proofs.YtciojhhncfnagaaDoorW.PrintMore
attribute [local go_sem high] Go.Proofs.YtciojhhncfnagaaDoor.Ge.gtr_str
attribute [local go_sem] max2_int min2_int max_two min_two max_three min_three max_four min_four   -- for this text's walks alone
set_option linter.unusedVariables false
set_option linter.unusedSimpArgs false

/-! ### semantic_ZZRedHatParts: function 27 -/
def semantic_ZZRedHatParts.f (a0 : ByteArray) (a1 : ByteArray) : Option (Int) := (semantic_compareRedHatComponents.f a0 a1).bind fun t200 => (some t200)
set_option maxHeartbeats 8000000 in
set_option maxRecDepth 100000 in
theorem semantic_ZZRedHatParts.calls (a0 : ByteArray) (a1 : ByteArray) (r : Int) (w : World) (h : semantic_ZZRedHatParts.f a0 a1 = some r) :
    Calls Tryd.prog 27 #[.string a0, .string a1] w fun e w' => e = .returned (.int .i64 r) ∧ Below w.heap.size w w' := by
  have HB := Aside0.mk (Below.refl w.heap.size w)
  have H : ((semantic_compareRedHatComponents.f a0 a1).bind fun t200 => (some t200)) = some r := h
  clear h
  replace H := Option.bind_eq_some_iff.mp H
  obtain ⟨t200, A30, H⟩ := H
  replace H : (some t200) = some r := H
  have A3 := Aside0.mk A30
  clear A30
  obtain rfl := Option.some.inj H
  go_enter Tryd.func27, Tryd.ntmps27
  go_wp2_with (first | ((with_reducible refine gate_callee (f := 38) rfl ?_); refine goesL_ (some 7) rfl rfl Tryd.func38 (by kernel_rfl) rfl #[.string a0, .string a1] rfl (by (try simp only [List.map_toArray, List.map_cons, List.map_nil]); first | done | rfl | (simp only [List.length_drop, List.length_take]; rfl)) ?_; (with_reducible refine (semantic_compareRedHatComponents.calls a0 a1 t200 _ A3.out).mono ?_); rintro e w4 ⟨rfl, hb⟩; refine ⟨_, rfl, ?_⟩; have n0_ := Aside0.mk (below_step (by repeat (first | (with_reducible first | exact HB.out | apply below_alloc | apply pw_below_drewN | apply below_drew1) | exact HB.out)) hb); clear HB; have HB := n0_; clear n0_; (try clear hb); (try clear hb2); (try clear hk); (try clear hi)))
  go_ret
  exact ⟨by first | rfl | (simp [errW_none, errW_some] <;> rfl) | (simp [*, errW_none, errW_some] <;> rfl), by repeat (first | (with_reducible first | exact HB.out | apply below_alloc | apply pw_below_drewN | apply below_drew1) | exact HB.out)⟩

/-! ### impl_RedHatParts: function 17 -/
def impl_RedHatParts.f (a0 : ByteArray) (a1 : ByteArray) : Option (Int) := (semantic_ZZRedHatParts.f a0 a1).bind fun t201 => (some t201)
set_option maxHeartbeats 8000000 in
set_option maxRecDepth 100000 in
theorem impl_RedHatParts.calls (a0 : ByteArray) (a1 : ByteArray) (r : Int) (w : World) (h : impl_RedHatParts.f a0 a1 = some r) :
    Calls Tryd.prog 17 #[.string a0, .string a1] w fun e w' => e = .returned (.int .i64 r) ∧ Below w.heap.size w w' := by
  have HB := Aside0.mk (Below.refl w.heap.size w)
  have H : ((semantic_ZZRedHatParts.f a0 a1).bind fun t201 => (some t201)) = some r := h
  clear h
  replace H := Option.bind_eq_some_iff.mp H
  obtain ⟨t201, A30, H⟩ := H
  replace H : (some t201) = some r := H
  have A3 := Aside0.mk A30
  clear A30
  obtain rfl := Option.some.inj H
  go_enter Tryd.func17, Tryd.ntmps17
  go_wp2_with (first | ((with_reducible refine gate_callee (f := 27) rfl ?_); refine goesL_ (some 7) rfl rfl Tryd.func27 (by kernel_rfl) rfl #[.string a0, .string a1] rfl (by (try simp only [List.map_toArray, List.map_cons, List.map_nil]); first | done | rfl | (simp only [List.length_drop, List.length_take]; rfl)) ?_; (with_reducible refine (semantic_ZZRedHatParts.calls a0 a1 t201 _ A3.out).mono ?_); rintro e w4 ⟨rfl, hb⟩; refine ⟨_, rfl, ?_⟩; have n0_ := Aside0.mk (below_step (by repeat (first | (with_reducible first | exact HB.out | apply below_alloc | apply pw_below_drewN | apply below_drew1) | exact HB.out)) hb); clear HB; have HB := n0_; clear n0_; (try clear hb); (try clear hb2); (try clear hk); (try clear hi)))
  go_ret
  exact ⟨by first | rfl | (simp [errW_none, errW_some] <;> rfl) | (simp [*, errW_none, errW_some] <;> rfl), by repeat (first | (with_reducible first | exact HB.out | apply below_alloc | apply pw_below_drewN | apply below_drew1) | exact HB.out)⟩

/-! ### laws_redhatAwake: function 16 -/
def laws_redhatAwake.f (k : Nat)  : Option (Bool) := (impl_RedHatCompare.f k (⟨#[49]⟩ : ByteArray) (⟨#[50]⟩ : ByteArray)).bind fun bt202 => (if bt202.2 = true then (if bt202.1 = (-1) then ((impl_RedHatParts.f (⟨#[49]⟩ : ByteArray) (⟨#[50]⟩ : ByteArray)).bind fun t204 => (some (t204 == (-1)))) else (some false)) else (some false))
theorem laws_redhatAwake.mono : ∀ k, LeO (laws_redhatAwake.f k ) (laws_redhatAwake.f (k + 1) ) := by
  intro  k
  unfold laws_redhatAwake.f
  repeat' first
      | (with_reducible exact impl_RedHatCompare.mono _ _ _)
      | (with_reducible exact LeO.refl _)
      | (with_reducible exact LeO.none _)
      | (with_reducible refine LeO.ite ?_ ?_)
      | (with_reducible refine LeO.bind ?_ (fun _ => ?_))
      | exact impl_RedHatCompare.mono _ _ _
      | exact LeO.none _
      | refine LeO.ite ?_ ?_
      | refine LeO.bind ?_ (fun _ => ?_)
set_option maxHeartbeats 8000000 in
set_option maxRecDepth 100000 in
theorem laws_redhatAwake.calls (k : Nat)  (r : Bool) (w : World) (h : laws_redhatAwake.f k  = some r) :
    Calls Tryd.prog 16 #[] w fun e w' => e = .returned (.bool r) ∧ Below w.heap.size w w' := by
  have HB := Aside0.mk (Below.refl w.heap.size w)
  have H : ((impl_RedHatCompare.f k (⟨#[49]⟩ : ByteArray) (⟨#[50]⟩ : ByteArray)).bind fun bt202 => (if bt202.2 = true then (if bt202.1 = (-1) then ((impl_RedHatParts.f (⟨#[49]⟩ : ByteArray) (⟨#[50]⟩ : ByteArray)).bind fun t204 => (some (t204 == (-1)))) else (some false)) else (some false))) = some r := h
  clear h
  replace H := Option.bind_eq_some_iff.mp H
  obtain ⟨⟨t202, t203⟩, A10, H⟩ := H
  replace H : (if t203 = true then (if t202 = (-1) then ((impl_RedHatParts.f (⟨#[49]⟩ : ByteArray) (⟨#[50]⟩ : ByteArray)).bind fun t204 => (some (t204 == (-1)))) else (some false)) else (some false)) = some r := H
  have A1 := Aside0.mk A10
  clear A10
  by_cases c2 : t203 = true
  · subst c2
    have H1 : (if t202 = (-1) then ((impl_RedHatParts.f (⟨#[49]⟩ : ByteArray) (⟨#[50]⟩ : ByteArray)).bind fun t204 => (some (t204 == (-1)))) else (some false)) = some r := by rw [if_pos rfl] at H; exact H
    clear H
    have H := H1
    clear H1
    by_cases c3 : t202 = (-1)
    · rw [if_pos c3] at H
      have c3b0 : (t202 == (-1)) = true := beq_iff_eq.mpr c3
      have c3b1 : (t202 != (-1)) = false := bne_eq_false_iff_eq.mpr c3
      clear c3
      replace H := Option.bind_eq_some_iff.mp H
      obtain ⟨t204, A40, H⟩ := H
      replace H : (some (t204 == (-1))) = some r := H
      have A4 := Aside0.mk A40
      clear A40
      obtain rfl := Option.some.inj H
      go_enter Tryd.func16, Tryd.ntmps16
      go_wp2_with (first | ((with_reducible refine gate_callee (f := 13) rfl ?_); refine goesL_ (some 4) rfl rfl Tryd.func13 (by kernel_rfl) rfl #[.string (⟨#[49]⟩ : ByteArray), .string (⟨#[50]⟩ : ByteArray)] rfl (by (try simp only [List.map_toArray, List.map_cons, List.map_nil]); first | done | rfl | (simp only [List.length_drop, List.length_take]; rfl)) ?_; (with_reducible refine (impl_RedHatCompare.calls k (⟨#[49]⟩ : ByteArray) (⟨#[50]⟩ : ByteArray) t202 true _ A1.out).mono ?_); rintro e w5 ⟨rfl, hb⟩; refine ⟨_, rfl, ?_⟩; have n0_ := Aside0.mk (below_step (by repeat (first | (with_reducible first | exact HB.out | apply below_alloc | apply pw_below_drewN | apply below_drew1) | exact HB.out)) hb); clear HB; have HB := n0_; clear n0_; (try clear hb); (try clear hb2); (try clear hk); (try clear hi)) | (go_at_call 17; (with_reducible refine (impl_RedHatParts.calls (⟨#[49]⟩ : ByteArray) (⟨#[50]⟩ : ByteArray) t204 _ A4.out).mono ?_); rintro e w6 ⟨rfl, hb⟩; have n0_ := Aside0.mk (below_step (by repeat (first | (with_reducible first | exact HB.out | apply below_alloc | apply pw_below_drewN | apply below_drew1) | exact HB.out)) hb); clear HB; have HB := n0_; clear n0_; (try clear hb); (try clear hb2); (try clear hk); (try clear hi)))
      go_ret
      exact ⟨by first | rfl | (simp [errW_none, errW_some] <;> rfl) | (simp [*, errW_none, errW_some] <;> rfl), by repeat (first | (with_reducible first | exact HB.out | apply below_alloc | apply pw_below_drewN | apply below_drew1) | exact HB.out)⟩
    · rw [if_neg c3] at H
      have c3b0 : (t202 == (-1)) = false := beq_eq_false_iff_ne.mpr c3
      have c3b1 : (t202 != (-1)) = true := bne_iff_ne.mpr c3
      obtain rfl := Option.some.inj H
      go_enter Tryd.func16, Tryd.ntmps16
      go_wp2_with (first | ((with_reducible refine gate_callee (f := 13) rfl ?_); refine goesL_ (some 4) rfl rfl Tryd.func13 (by kernel_rfl) rfl #[.string (⟨#[49]⟩ : ByteArray), .string (⟨#[50]⟩ : ByteArray)] rfl (by (try simp only [List.map_toArray, List.map_cons, List.map_nil]); first | done | rfl | (simp only [List.length_drop, List.length_take]; rfl)) ?_; (with_reducible refine (impl_RedHatCompare.calls k (⟨#[49]⟩ : ByteArray) (⟨#[50]⟩ : ByteArray) t202 true _ A1.out).mono ?_); rintro e w7 ⟨rfl, hb⟩; refine ⟨_, rfl, ?_⟩; have n0_ := Aside0.mk (below_step (by repeat (first | (with_reducible first | exact HB.out | apply below_alloc | apply pw_below_drewN | apply below_drew1) | exact HB.out)) hb); clear HB; have HB := n0_; clear n0_; (try clear hb); (try clear hb2); (try clear hk); (try clear hi)))
      go_ret
      exact ⟨by first | rfl | (simp [errW_none, errW_some] <;> rfl) | (simp [*, errW_none, errW_some] <;> rfl), by repeat (first | (with_reducible first | exact HB.out | apply below_alloc | apply pw_below_drewN | apply below_drew1) | exact HB.out)⟩
  · replace c2 := Bool.eq_false_iff.mpr c2
    subst c2
    have H1 : (some false) = some r := by rw [if_neg (show ¬ (false = true) by decide)] at H; exact H
    clear H
    have H := H1
    clear H1
    obtain rfl := Option.some.inj H
    go_enter Tryd.func16, Tryd.ntmps16
    go_wp2_with (first | ((with_reducible refine gate_callee (f := 13) rfl ?_); refine goesL_ (some 4) rfl rfl Tryd.func13 (by kernel_rfl) rfl #[.string (⟨#[49]⟩ : ByteArray), .string (⟨#[50]⟩ : ByteArray)] rfl (by (try simp only [List.map_toArray, List.map_cons, List.map_nil]); first | done | rfl | (simp only [List.length_drop, List.length_take]; rfl)) ?_; (with_reducible refine (impl_RedHatCompare.calls k (⟨#[49]⟩ : ByteArray) (⟨#[50]⟩ : ByteArray) t202 false _ A1.out).mono ?_); rintro e w8 ⟨rfl, hb⟩; refine ⟨_, rfl, ?_⟩; have n0_ := Aside0.mk (below_step (by repeat (first | (with_reducible first | exact HB.out | apply below_alloc | apply pw_below_drewN | apply below_drew1) | exact HB.out)) hb); clear HB; have HB := n0_; clear n0_; (try clear hb); (try clear hb2); (try clear hk); (try clear hi)))
    go_ret
    exact ⟨by first | rfl | (simp [errW_none, errW_some] <;> rfl) | (simp [*, errW_none, errW_some] <;> rfl), by repeat (first | (with_reducible first | exact HB.out | apply below_alloc | apply pw_below_drewN | apply below_drew1) | exact HB.out)⟩

end Go.Proofs.YtciojhhncfnagaaDoor.Z
