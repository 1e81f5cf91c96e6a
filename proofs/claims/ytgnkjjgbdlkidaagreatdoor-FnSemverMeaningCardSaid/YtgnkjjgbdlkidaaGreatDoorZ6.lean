-- Written by a program of this session (myprint.py).
import Derived.Test.YtgnkjjgbdlkidaaGreatDoorZ0
import Derived.Test.YtgnkjjgbdlkidaaGreatDoorZ5
import Derived.Test.YtgnkjjgbdlkidaaGreatDoorGe
namespace Go.Proofs.YtgnkjjgbdlkidaaGreatDoor.Z
open Go.Proofs.YtgnkjjgbdlkidaaGreatDoor.Gw
open Go.RowKit Go.Proofs.YtgnkjjgbdlkidaaGreatDoorW.PrintWords Go.Proofs.YtgnkjjgbdlkidaaGreatDoorW.PrintLast Go.Proofs.YtgnkjjgbdlkidaaGreatDoorW.PrintMore
attribute [local go_sem high] Go.Proofs.YtgnkjjgbdlkidaaGreatDoor.Ge.gtr_str
attribute [local go_sem] max2_int min2_int max_two min_two max_three min_three max_four min_four   -- for this text's walks alone
set_option linter.unusedVariables false
set_option linter.unusedSimpArgs false

/-! ### semantic_removeBuildMetadata: function 25 -/
def semantic_removeBuildMetadata.f (a0 : ByteArray) : Option (ByteArray) := (semantic_zzSplit.f a0 (⟨#[43]⟩ : ByteArray)).bind fun t110 => (if 0 < (t110.length : Int) then (some (rdOf ByteArray.empty t110 0)) else (none))
set_option maxHeartbeats 8000000 in
set_option maxRecDepth 100000 in
theorem semantic_removeBuildMetadata.calls (a0 : ByteArray) (r : ByteArray) (w : World) (h : semantic_removeBuildMetadata.f a0 = some r) :
    Calls Tryz.prog 25 #[.string a0] w fun e w' => e = .returned (.string r) ∧ Below w.heap.size w w' := by
  have HB := Aside0.mk (Below.refl w.heap.size w)
  have H : ((semantic_zzSplit.f a0 (⟨#[43]⟩ : ByteArray)).bind fun t110 => (if 0 < (t110.length : Int) then (some (rdOf ByteArray.empty t110 0)) else (none))) = some r := h
  clear h
  replace H := Option.bind_eq_some_iff.mp H
  obtain ⟨t110, A20, H⟩ := H
  replace H : (if 0 < (t110.length : Int) then (some (rdOf ByteArray.empty t110 0)) else (none)) = some r := H
  have A2 := Aside0.mk A20
  clear A20
  by_cases c3 : 0 < (t110.length : Int)
  · rw [if_pos c3] at H
    have c3b0 : decide (0 < (t110.length : Int)) = true := decide_eq_true c3
    have c3b1 : decide (0 < t110.length) = true := decide_eq_true (by omega)
    clear c3
    obtain rfl := Option.some.inj H
    go_enter Tryz.func25, Tryz.ntmps25
    go_wp2_with (first | ((with_reducible refine gate_callee (f := 27) rfl ?_); refine goesL_ (some 5) rfl rfl Tryz.func27 (by kernel_rfl) rfl #[.string a0, .string (⟨#[43]⟩ : ByteArray)] rfl (by (try simp only [List.map_toArray, List.map_cons, List.map_nil]); first | done | rfl | (simp only [List.length_drop, List.length_take]; rfl)) ?_; (with_reducible refine (semantic_zzSplit.calls a0 (⟨#[43]⟩ : ByteArray) t110 _ A2.out).mono ?_); rintro e w4 ⟨v111, rfl, ho0, hb⟩; refine ⟨_, rfl, ?_⟩; have n0_ := Aside0.mk (Kd.R_lower ho0 (below_size (by repeat (first | (with_reducible first | exact HB.out | apply below_alloc | apply pw_below_drewN | apply below_drew1) | exact HB.out)))); have n1_ := Aside0.mk (below_step (by repeat (first | (with_reducible first | exact HB.out | apply below_alloc | apply pw_below_drewN | apply below_drew1) | exact HB.out)) hb); clear HB; have HO112 := n0_; have HB := n1_; clear n0_ n1_; (try clear hb); (try clear hb2); (try clear hk); (try clear hi); (try clear ho0); obtain ⟨Ao5, co5, eo5⟩ := Kd.R_slice HO112.out; subst eo5; have p113 : 0 ≤ (0 : Int) := (by omega); have q113 : 0 < (t110.length : Int) := of_decide_eq_true (by first | (with_reducible assumption) | assumption); obtain ⟨ad113, e113, hx113_0⟩ := Kd.at_string (Kd.R_reads' HO112.out).2.2 0 p113 q113; cases e113; have qi113 : (0 < t110.length) = True := eq_true (by omega); (try rw [show ((0 : Int)).toNat = 0 from rfl] at hx113_0); (try rw [Addr.add_zero'] at hx113_0); replace p113 := eq_true p113; replace q113 := eq_true q113))
    go_ret
    exact ⟨by first | rfl | (simp [errW_none, errW_some] <;> rfl) | (simp [*, errW_none, errW_some] <;> rfl), by repeat (first | (with_reducible first | exact HB.out | apply below_alloc | apply pw_below_drewN | apply below_drew1) | exact HB.out)⟩
  · rw [if_neg c3] at H
    exact absurd H (by simp)

end Go.Proofs.YtgnkjjgbdlkidaaGreatDoor.Z
