-- Written by a program of this session (myprint.py).
import Derived.Test.YtkcciinapkeaiaaDoorZ0
import Derived.Test.YtkcciinapkeaiaaDoorZ7
import Derived.Test.YtkcciinapkeaiaaDoorZ8
import Derived.Test.YtkcciinapkeaiaaDoorGe
namespace Go.Proofs.YtkcciinapkeaiaaDoor.Z
open Go.Proofs.YtkcciinapkeaiaaDoor.Gw
open Go.RowKit Go.Proofs.YtkcciinapkeaiaaDoorW.PrintWords Go.Proofs.YtkcciinapkeaiaaDoorW.PrintLast Go.Proofs.YtkcciinapkeaiaaDoorW.PrintMore
attribute [local go_sem high] Go.Proofs.YtkcciinapkeaiaaDoor.Ge.gtr_str
attribute [local go_sem] max2_int min2_int max_two min_two max_three min_three max_four min_four   -- for this text's walks alone
set_option linter.unusedVariables false
set_option linter.unusedSimpArgs false

/-! ### semantic_splitAround: function 44 -/
def semantic_splitAround.f (k : Nat) (a0 : ByteArray) (a1 : ByteArray) (a2 : Bool) : Option (ByteArray × ByteArray) := if a2 = true then ((strings_LastIndex.f a0 a1).bind fun t124 => (if t124 = (-1) then (some (a0, (⟨#[]⟩ : ByteArray))) else (if 0 ≤ t124 then (if t124 ≤ (a0.size : Int) then (if 0 ≤ (wrap64 (t124 + 1)) then (if (wrap64 (t124 + 1)) ≤ (a0.size : Int) then (some (a0.extract 0 (t124 : Int).toNat, a0.extract ((wrap64 (t124 + 1)) : Int).toNat a0.size)) else (none)) else (none)) else (none)) else (none)))) else ((semantic_zzIndex.f k a0 a1).bind fun t125 => (if t125 = (-1) then (some (a0, (⟨#[]⟩ : ByteArray))) else (if 0 ≤ t125 then (if t125 ≤ (a0.size : Int) then (if 0 ≤ (wrap64 (t125 + 1)) then (if (wrap64 (t125 + 1)) ≤ (a0.size : Int) then (some (a0.extract 0 (t125 : Int).toNat, a0.extract ((wrap64 (t125 + 1)) : Int).toNat a0.size)) else (none)) else (none)) else (none)) else (none))))
theorem semantic_splitAround.mono : ∀ a0 a1 a2 k, LeO (semantic_splitAround.f k a0 a1 a2) (semantic_splitAround.f (k + 1) a0 a1 a2) := by
  intro a0 a1 a2 k
  unfold semantic_splitAround.f
  repeat' first
      | (with_reducible exact semantic_zzIndex.mono _ _ _)
      | (with_reducible exact LeO.refl _)
      | (with_reducible exact LeO.none _)
      | (with_reducible refine LeO.ite ?_ ?_)
      | (with_reducible refine LeO.bind ?_ (fun _ => ?_))
      | exact semantic_zzIndex.mono _ _ _
      | exact LeO.none _
      | refine LeO.ite ?_ ?_
      | refine LeO.bind ?_ (fun _ => ?_)
set_option maxHeartbeats 8000000 in
set_option maxRecDepth 100000 in
theorem semantic_splitAround.calls (k : Nat) (a0 : ByteArray) (a1 : ByteArray) (a2 : Bool) (r1 : ByteArray) (r2 : ByteArray) (w : World) (h : semantic_splitAround.f k a0 a1 a2 = some (r1, r2)) :
    Calls Tryd.prog 44 #[.string a0, .string a1, .bool a2] w fun e w' => e = .returned (.tuple #[.string r1, .string r2]) ∧ Below w.heap.size w w' := by
  have HB := Aside0.mk (Below.refl w.heap.size w)
  have H : (if a2 = true then ((strings_LastIndex.f a0 a1).bind fun t124 => (if t124 = (-1) then (some (a0, (⟨#[]⟩ : ByteArray))) else (if 0 ≤ t124 then (if t124 ≤ (a0.size : Int) then (if 0 ≤ (wrap64 (t124 + 1)) then (if (wrap64 (t124 + 1)) ≤ (a0.size : Int) then (some (a0.extract 0 (t124 : Int).toNat, a0.extract ((wrap64 (t124 + 1)) : Int).toNat a0.size)) else (none)) else (none)) else (none)) else (none)))) else ((semantic_zzIndex.f k a0 a1).bind fun t125 => (if t125 = (-1) then (some (a0, (⟨#[]⟩ : ByteArray))) else (if 0 ≤ t125 then (if t125 ≤ (a0.size : Int) then (if 0 ≤ (wrap64 (t125 + 1)) then (if (wrap64 (t125 + 1)) ≤ (a0.size : Int) then (some (a0.extract 0 (t125 : Int).toNat, a0.extract ((wrap64 (t125 + 1)) : Int).toNat a0.size)) else (none)) else (none)) else (none)) else (none))))) = some (r1, r2) := h
  clear h
  by_cases c4 : a2 = true
  · subst c4
    have H1 : ((strings_LastIndex.f a0 a1).bind fun t124 => (if t124 = (-1) then (some (a0, (⟨#[]⟩ : ByteArray))) else (if 0 ≤ t124 then (if t124 ≤ (a0.size : Int) then (if 0 ≤ (wrap64 (t124 + 1)) then (if (wrap64 (t124 + 1)) ≤ (a0.size : Int) then (some (a0.extract 0 (t124 : Int).toNat, a0.extract ((wrap64 (t124 + 1)) : Int).toNat a0.size)) else (none)) else (none)) else (none)) else (none)))) = some (r1, r2) := by rw [if_pos rfl] at H; exact H
    clear H
    have H := H1
    clear H1
    replace H := Option.bind_eq_some_iff.mp H
    obtain ⟨t124, A50, H⟩ := H
    replace H : (if t124 = (-1) then (some (a0, (⟨#[]⟩ : ByteArray))) else (if 0 ≤ t124 then (if t124 ≤ (a0.size : Int) then (if 0 ≤ (wrap64 (t124 + 1)) then (if (wrap64 (t124 + 1)) ≤ (a0.size : Int) then (some (a0.extract 0 (t124 : Int).toNat, a0.extract ((wrap64 (t124 + 1)) : Int).toNat a0.size)) else (none)) else (none)) else (none)) else (none))) = some (r1, r2) := H
    have A5 := Aside0.mk A50
    clear A50
    by_cases c6 : t124 = (-1)
    · rw [if_pos c6] at H
      have c6b0 : (t124 == (-1)) = true := beq_iff_eq.mpr c6
      have c6b1 : (t124 != (-1)) = false := bne_eq_false_iff_eq.mpr c6
      clear c6
      simp only [Option.some.injEq, Prod.mk.injEq] at H
      obtain ⟨rfl, rfl⟩ := H
      go_enter Tryd.func44, Tryd.ntmps44
      go_wp2_with (first | (go_at_call 57; (with_reducible refine (strings_LastIndex.calls a0 a1 t124 _ A5.out).mono ?_); rintro e w7 ⟨rfl, hb⟩; have n0_ := Aside0.mk (below_step (by repeat (first | (with_reducible first | exact HB.out | apply below_alloc | apply pw_below_drewN | apply below_drew1) | exact HB.out)) hb); clear HB; have HB := n0_; clear n0_; (try clear hb); (try clear hb2); (try clear hk); (try clear hi)))
      repeat (go_quiet (first | (go_at_call 57; (with_reducible refine (strings_LastIndex.calls a0 a1 t124 _ A5.out).mono ?_); rintro e w7 ⟨rfl, hb⟩; have n0_ := Aside0.mk (below_step (by repeat (first | (with_reducible first | exact HB.out | apply below_alloc | apply pw_below_drewN | apply below_drew1) | exact HB.out)) hb); clear HB; have HB := n0_; clear n0_; (try clear hb); (try clear hb2); (try clear hk); (try clear hi))); try go_wp2_with (first | (go_at_call 57; (with_reducible refine (strings_LastIndex.calls a0 a1 t124 _ A5.out).mono ?_); rintro e w7 ⟨rfl, hb⟩; have n0_ := Aside0.mk (below_step (by repeat (first | (with_reducible first | exact HB.out | apply below_alloc | apply pw_below_drewN | apply below_drew1) | exact HB.out)) hb); clear HB; have HB := n0_; clear n0_; (try clear hb); (try clear hb2); (try clear hk); (try clear hi))))
      go_ret2
      exact ⟨by first | rfl | (simp [errW_none, errW_some] <;> rfl) | (simp [*, errW_none, errW_some] <;> rfl), by repeat (first | (with_reducible first | exact HB.out | apply below_alloc | apply pw_below_drewN | apply below_drew1) | exact HB.out)⟩
    · rw [if_neg c6] at H
      have c6b0 : (t124 == (-1)) = false := beq_eq_false_iff_ne.mpr c6
      have c6b1 : (t124 != (-1)) = true := bne_iff_ne.mpr c6
      by_cases c8 : 0 ≤ t124
      · rw [if_pos c8] at H
        have c8b0 := eq_true c8
        have c8b1 : decide (0 ≤ t124) = true := decide_eq_true c8
        clear c8
        by_cases c9 : t124 ≤ (a0.size : Int)
        · rw [if_pos c9] at H
          have c9b0 := eq_true c9
          have c9b1 : decide (t124 ≤ (a0.size : Int)) = true := decide_eq_true c9
          clear c9
          obtain ⟨ji10, hji10⟩ : ∃ j_ : Int, (wrap64 (t124 + 1)) = j_ := ⟨_, rfl⟩
          replace H : (if 0 ≤ (ji10) then (if (ji10) ≤ (a0.size : Int) then (some (a0.extract 0 (t124 : Int).toNat, a0.extract ((ji10) : Int).toNat a0.size)) else (none)) else (none)) = some (r1, r2) := by first | (rw [hji10] at H; exact H) | (simp only [hji10] at H ⊢; exact H)
          (try rw [hji10] at A5)
          have hji10w : (IntKind.i64.wrap (t124 + 1)) = ji10 := (i64_w _).trans hji10
          by_cases c11 : 0 ≤ (ji10)
          · rw [if_pos c11] at H
            have c11b0 := eq_true c11
            have c11b1 : decide (0 ≤ (ji10)) = true := decide_eq_true c11
            clear c11
            by_cases c12 : (ji10) ≤ (a0.size : Int)
            · rw [if_pos c12] at H
              have c12b0 := eq_true c12
              have c12b1 : decide ((ji10) ≤ (a0.size : Int)) = true := decide_eq_true c12
              clear c12
              simp only [Option.some.injEq, Prod.mk.injEq] at H
              obtain ⟨rfl, rfl⟩ := H
              go_enter Tryd.func44, Tryd.ntmps44
              go_wp2_with (first | (go_at_call 57; (with_reducible refine (strings_LastIndex.calls a0 a1 t124 _ A5.out).mono ?_); rintro e w13 ⟨rfl, hb⟩; have n0_ := Aside0.mk (below_step (by repeat (first | (with_reducible first | exact HB.out | apply below_alloc | apply pw_below_drewN | apply below_drew1) | exact HB.out)) hb); clear HB; have HB := n0_; clear n0_; (try clear hb); (try clear hb2); (try clear hk); (try clear hi)))
              repeat (go_quiet (first | (go_at_call 57; (with_reducible refine (strings_LastIndex.calls a0 a1 t124 _ A5.out).mono ?_); rintro e w13 ⟨rfl, hb⟩; have n0_ := Aside0.mk (below_step (by repeat (first | (with_reducible first | exact HB.out | apply below_alloc | apply pw_below_drewN | apply below_drew1) | exact HB.out)) hb); clear HB; have HB := n0_; clear n0_; (try clear hb); (try clear hb2); (try clear hk); (try clear hi))); try go_wp2_with (first | (go_at_call 57; (with_reducible refine (strings_LastIndex.calls a0 a1 t124 _ A5.out).mono ?_); rintro e w13 ⟨rfl, hb⟩; have n0_ := Aside0.mk (below_step (by repeat (first | (with_reducible first | exact HB.out | apply below_alloc | apply pw_below_drewN | apply below_drew1) | exact HB.out)) hb); clear HB; have HB := n0_; clear n0_; (try clear hb); (try clear hb2); (try clear hk); (try clear hi))))
              go_ret2
              exact ⟨by first | rfl | (simp [errW_none, errW_some] <;> rfl) | (simp only [← hji10]; first | rfl | (simp [errW_none, errW_some] <;> rfl)) | (simp [*, errW_none, errW_some] <;> rfl), by repeat (first | (with_reducible first | exact HB.out | apply below_alloc | apply pw_below_drewN | apply below_drew1) | exact HB.out)⟩
            · rw [if_neg c12] at H
              exact absurd H (by simp)
          · rw [if_neg c11] at H
            exact absurd H (by simp)
        · rw [if_neg c9] at H
          exact absurd H (by simp)
      · rw [if_neg c8] at H
        exact absurd H (by simp)
  · replace c4 := Bool.eq_false_iff.mpr c4
    subst c4
    have H1 : ((semantic_zzIndex.f k a0 a1).bind fun t125 => (if t125 = (-1) then (some (a0, (⟨#[]⟩ : ByteArray))) else (if 0 ≤ t125 then (if t125 ≤ (a0.size : Int) then (if 0 ≤ (wrap64 (t125 + 1)) then (if (wrap64 (t125 + 1)) ≤ (a0.size : Int) then (some (a0.extract 0 (t125 : Int).toNat, a0.extract ((wrap64 (t125 + 1)) : Int).toNat a0.size)) else (none)) else (none)) else (none)) else (none)))) = some (r1, r2) := by rw [if_neg (show ¬ (false = true) by decide)] at H; exact H
    clear H
    have H := H1
    clear H1
    replace H := Option.bind_eq_some_iff.mp H
    obtain ⟨t125, A140, H⟩ := H
    replace H : (if t125 = (-1) then (some (a0, (⟨#[]⟩ : ByteArray))) else (if 0 ≤ t125 then (if t125 ≤ (a0.size : Int) then (if 0 ≤ (wrap64 (t125 + 1)) then (if (wrap64 (t125 + 1)) ≤ (a0.size : Int) then (some (a0.extract 0 (t125 : Int).toNat, a0.extract ((wrap64 (t125 + 1)) : Int).toNat a0.size)) else (none)) else (none)) else (none)) else (none))) = some (r1, r2) := H
    have A14 := Aside0.mk A140
    clear A140
    by_cases c15 : t125 = (-1)
    · rw [if_pos c15] at H
      have c15b0 : (t125 == (-1)) = true := beq_iff_eq.mpr c15
      have c15b1 : (t125 != (-1)) = false := bne_eq_false_iff_eq.mpr c15
      clear c15
      simp only [Option.some.injEq, Prod.mk.injEq] at H
      obtain ⟨rfl, rfl⟩ := H
      go_enter Tryd.func44, Tryd.ntmps44
      go_wp2_with (first | (go_at_call 56; (with_reducible refine (semantic_zzIndex.calls k a0 a1 t125 _ A14.out).mono ?_); rintro e w' ⟨rfl, ⟨nd, rfl⟩⟩; (try first | exact ⟨rfl, _, World.drewN_drewN _ _ _⟩ | exact ⟨rfl, _, Eq.trans (World.drewN_drewN _ _ _) (congrArg (World.drewN _) (Nat.add_assoc _ _ _))⟩)))
      repeat (go_quiet (first | (go_at_call 56; (with_reducible refine (semantic_zzIndex.calls k a0 a1 t125 _ A14.out).mono ?_); rintro e w' ⟨rfl, ⟨nd, rfl⟩⟩; (try first | exact ⟨rfl, _, World.drewN_drewN _ _ _⟩ | exact ⟨rfl, _, Eq.trans (World.drewN_drewN _ _ _) (congrArg (World.drewN _) (Nat.add_assoc _ _ _))⟩))); try go_wp2_with (first | (go_at_call 56; (with_reducible refine (semantic_zzIndex.calls k a0 a1 t125 _ A14.out).mono ?_); rintro e w' ⟨rfl, ⟨nd, rfl⟩⟩; (try first | exact ⟨rfl, _, World.drewN_drewN _ _ _⟩ | exact ⟨rfl, _, Eq.trans (World.drewN_drewN _ _ _) (congrArg (World.drewN _) (Nat.add_assoc _ _ _))⟩))))
      go_ret2
      exact ⟨by first | rfl | (simp [errW_none, errW_some] <;> rfl) | (simp [*, errW_none, errW_some] <;> rfl), by repeat (first | (with_reducible first | exact HB.out | apply below_alloc | apply pw_below_drewN | apply below_drew1) | exact HB.out)⟩
    · rw [if_neg c15] at H
      have c15b0 : (t125 == (-1)) = false := beq_eq_false_iff_ne.mpr c15
      have c15b1 : (t125 != (-1)) = true := bne_iff_ne.mpr c15
      by_cases c16 : 0 ≤ t125
      · rw [if_pos c16] at H
        have c16b0 := eq_true c16
        have c16b1 : decide (0 ≤ t125) = true := decide_eq_true c16
        clear c16
        by_cases c17 : t125 ≤ (a0.size : Int)
        · rw [if_pos c17] at H
          have c17b0 := eq_true c17
          have c17b1 : decide (t125 ≤ (a0.size : Int)) = true := decide_eq_true c17
          clear c17
          obtain ⟨ji18, hji18⟩ : ∃ j_ : Int, (wrap64 (t125 + 1)) = j_ := ⟨_, rfl⟩
          replace H : (if 0 ≤ (ji18) then (if (ji18) ≤ (a0.size : Int) then (some (a0.extract 0 (t125 : Int).toNat, a0.extract ((ji18) : Int).toNat a0.size)) else (none)) else (none)) = some (r1, r2) := by first | (rw [hji18] at H; exact H) | (simp only [hji18] at H ⊢; exact H)
          (try rw [hji18] at A14)
          have hji18w : (IntKind.i64.wrap (t125 + 1)) = ji18 := (i64_w _).trans hji18
          by_cases c19 : 0 ≤ (ji18)
          · rw [if_pos c19] at H
            have c19b0 := eq_true c19
            have c19b1 : decide (0 ≤ (ji18)) = true := decide_eq_true c19
            clear c19
            by_cases c20 : (ji18) ≤ (a0.size : Int)
            · rw [if_pos c20] at H
              have c20b0 := eq_true c20
              have c20b1 : decide ((ji18) ≤ (a0.size : Int)) = true := decide_eq_true c20
              clear c20
              simp only [Option.some.injEq, Prod.mk.injEq] at H
              obtain ⟨rfl, rfl⟩ := H
              go_enter Tryd.func44, Tryd.ntmps44
              go_wp2_with (first | (go_at_call 56; (with_reducible refine (semantic_zzIndex.calls k a0 a1 t125 _ A14.out).mono ?_); rintro e w' ⟨rfl, ⟨nd, rfl⟩⟩; (try first | exact ⟨rfl, _, World.drewN_drewN _ _ _⟩ | exact ⟨rfl, _, Eq.trans (World.drewN_drewN _ _ _) (congrArg (World.drewN _) (Nat.add_assoc _ _ _))⟩)))
              repeat (go_quiet (first | (go_at_call 56; (with_reducible refine (semantic_zzIndex.calls k a0 a1 t125 _ A14.out).mono ?_); rintro e w' ⟨rfl, ⟨nd, rfl⟩⟩; (try first | exact ⟨rfl, _, World.drewN_drewN _ _ _⟩ | exact ⟨rfl, _, Eq.trans (World.drewN_drewN _ _ _) (congrArg (World.drewN _) (Nat.add_assoc _ _ _))⟩))); try go_wp2_with (first | (go_at_call 56; (with_reducible refine (semantic_zzIndex.calls k a0 a1 t125 _ A14.out).mono ?_); rintro e w' ⟨rfl, ⟨nd, rfl⟩⟩; (try first | exact ⟨rfl, _, World.drewN_drewN _ _ _⟩ | exact ⟨rfl, _, Eq.trans (World.drewN_drewN _ _ _) (congrArg (World.drewN _) (Nat.add_assoc _ _ _))⟩))))
              go_ret2
              exact ⟨by first | rfl | (simp [errW_none, errW_some] <;> rfl) | (simp only [← hji18]; first | rfl | (simp [errW_none, errW_some] <;> rfl)) | (simp [*, errW_none, errW_some] <;> rfl), by repeat (first | (with_reducible first | exact HB.out | apply below_alloc | apply pw_below_drewN | apply below_drew1) | exact HB.out)⟩
            · rw [if_neg c20] at H
              exact absurd H (by simp)
          · rw [if_neg c19] at H
            exact absurd H (by simp)
        · rw [if_neg c17] at H
          exact absurd H (by simp)
      · rw [if_neg c16] at H
        exact absurd H (by simp)

end Go.Proofs.YtkcciinapkeaiaaDoor.Z
