-- Written by a program of this session (myprint.py).
import Derived.Test.YtciojhhncfnagaaDoorZ0
import Derived.Test.YtciojhhncfnagaaDoorZ1
import Derived.Test.YtciojhhncfnagaaDoorZ11
import Derived.Test.YtciojhhncfnagaaDoorZ13
import Derived.Test.YtciojhhncfnagaaDoorGe
namespace Go.Proofs.YtciojhhncfnagaaDoor.Z
open Go.RowKit Go.Proofs.YtciojhhncfnagaaDoorW.PrintWords Go.Proofs.YtciojhhncfnagaaDoorW.PrintLast Go.Proofs.YtciojhhncfnagaaDoorW.PrintMore
attribute [local go_sem high] Go.Proofs.YtciojhhncfnagaaDoor.Ge.gtr_str
attribute [local go_sem] max2_int min2_int max_two min_two max_three min_three max_four min_four   -- for this text's walks alone
set_option linter.unusedVariables false
set_option linter.unusedSimpArgs false

/-! ### laws_FnRedHatZeros: function 6 -/
mutual
def laws_FnRedHatZeros.j0 : Nat → ByteArray → ByteArray → Bool → Option (Bool)
  | 0, _, _, _ => none
  | k + 1, x0, x1, x12 => if x12 = true then (some true) else ((laws_short.f k (([x0, x1] : List ByteArray))).bind fun t220 => (if t220 = true then ((laws_plain.f k x0 (⟨#[46, 95, 43, 126, 94]⟩ : ByteArray)).bind fun t221 => (if t221 = true then ((laws_plain.f k x1 (⟨#[46, 95, 43, 126, 94]⟩ : ByteArray)).bind fun t222 => (laws_FnRedHatZeros.j1 k x0 x1 (!t222))) else (laws_FnRedHatZeros.j1 k x0 x1 true))) else (laws_FnRedHatZeros.j1 k x0 x1 true)))
def laws_FnRedHatZeros.j1 : Nat → ByteArray → ByteArray → Bool → Option (Bool)
  | 0, _, _, _ => none
  | k + 1, x0, x1, x27 => if x27 = true then (some true) else ((laws_redhatAwake.f k).bind fun t223 => (if t223 = true then ((laws_zeroed.f k x0).bind fun t224 => ((impl_RedHatParts.f x0 t224).bind fun t225 => (if t225 = 0 then ((impl_RedHatParts.f t224 x1).bind fun t226 => ((impl_RedHatParts.f x0 x1).bind fun t227 => (some (t226 == t227)))) else (some false)))) else (some false)))
end
def laws_FnRedHatZeros.f (k : Nat) (a0 : ByteArray) (a1 : ByteArray) : Option (Bool) := if (a0.size : Int) > 2147483647 then (laws_FnRedHatZeros.j0 k a0 a1 true) else (laws_FnRedHatZeros.j0 k a0 a1 (decide ((a1.size : Int) > 2147483647)))
theorem laws_FnRedHatZeros.mono_l : ∀ k, (∀ y0 y1 y2, LeO (laws_FnRedHatZeros.j0 k y0 y1 y2) (laws_FnRedHatZeros.j0 (k + 1) y0 y1 y2)) ∧ (∀ y0 y1 y2, LeO (laws_FnRedHatZeros.j1 k y0 y1 y2) (laws_FnRedHatZeros.j1 (k + 1) y0 y1 y2))
  | 0 => ⟨fun _ _ _ r h => by simp [laws_FnRedHatZeros.j0] at h, fun _ _ _ r h => by simp [laws_FnRedHatZeros.j1] at h⟩
  | k + 1 => by
    obtain ⟨ih0, ih1⟩ := laws_FnRedHatZeros.mono_l k
    refine ⟨?_, ?_⟩
    · intro y0 y1 y2
      unfold laws_FnRedHatZeros.j0
      repeat' first
      | (with_reducible exact ih0 _ _ _)
      | (with_reducible exact ih1 _ _ _)
      | (with_reducible exact laws_plain.mono _ _ _)
      | (with_reducible exact laws_redhatAwake.mono _)
      | (with_reducible exact laws_short.mono _ _)
      | (with_reducible exact laws_zeroed.mono _ _)
      | (with_reducible exact LeO.refl _)
      | (with_reducible exact LeO.none _)
      | (with_reducible refine LeO.ite ?_ ?_)
      | (with_reducible refine LeO.bind ?_ (fun _ => ?_))
      | exact ih0 _ _ _
      | exact ih1 _ _ _
      | exact laws_plain.mono _ _ _
      | exact laws_redhatAwake.mono _
      | exact laws_short.mono _ _
      | exact laws_zeroed.mono _ _
      | exact LeO.none _
      | refine LeO.ite ?_ ?_
      | refine LeO.bind ?_ (fun _ => ?_)
    · intro y0 y1 y2
      unfold laws_FnRedHatZeros.j1
      repeat' first
      | (with_reducible exact ih0 _ _ _)
      | (with_reducible exact ih1 _ _ _)
      | (with_reducible exact laws_plain.mono _ _ _)
      | (with_reducible exact laws_redhatAwake.mono _)
      | (with_reducible exact laws_short.mono _ _)
      | (with_reducible exact laws_zeroed.mono _ _)
      | (with_reducible exact LeO.refl _)
      | (with_reducible exact LeO.none _)
      | (with_reducible refine LeO.ite ?_ ?_)
      | (with_reducible refine LeO.bind ?_ (fun _ => ?_))
      | exact ih0 _ _ _
      | exact ih1 _ _ _
      | exact laws_plain.mono _ _ _
      | exact laws_redhatAwake.mono _
      | exact laws_short.mono _ _
      | exact laws_zeroed.mono _ _
      | exact LeO.none _
      | refine LeO.ite ?_ ?_
      | refine LeO.bind ?_ (fun _ => ?_)
theorem laws_FnRedHatZeros.mono : ∀ a0 a1 k, LeO (laws_FnRedHatZeros.f k a0 a1) (laws_FnRedHatZeros.f (k + 1) a0 a1) := by
  intro a0 a1 k
  obtain ⟨ih0, ih1⟩ := laws_FnRedHatZeros.mono_l k
  unfold laws_FnRedHatZeros.f
  repeat' first
      | (with_reducible exact ih0 _ _ _)
      | (with_reducible exact ih1 _ _ _)
      | (with_reducible exact laws_plain.mono _ _ _)
      | (with_reducible exact laws_redhatAwake.mono _)
      | (with_reducible exact laws_short.mono _ _)
      | (with_reducible exact laws_zeroed.mono _ _)
      | (with_reducible exact LeO.refl _)
      | (with_reducible exact LeO.none _)
      | (with_reducible refine LeO.ite ?_ ?_)
      | (with_reducible refine LeO.bind ?_ (fun _ => ?_))
      | exact ih0 _ _ _
      | exact ih1 _ _ _
      | exact laws_plain.mono _ _ _
      | exact laws_redhatAwake.mono _
      | exact laws_short.mono _ _
      | exact laws_zeroed.mono _ _
      | exact LeO.none _
      | refine LeO.ite ?_ ?_
      | refine LeO.bind ?_ (fun _ => ?_)
set_option maxHeartbeats 8000000 in
set_option maxRecDepth 100000 in
theorem laws_FnRedHatZeros.calls (k : Nat) (a0 : ByteArray) (a1 : ByteArray) (r : Bool) (w : World) (h : laws_FnRedHatZeros.f k a0 a1 = some r) :
    Calls Tryd.prog 6 #[.string a0, .string a1] w fun e w' => e = .returned (.bool r) ∧ Below w.heap.size w w' := by
  have HB := Aside0.mk (Below.refl w.heap.size w)
  have H : (if (a0.size : Int) > 2147483647 then (laws_FnRedHatZeros.j0 k a0 a1 true) else (laws_FnRedHatZeros.j0 k a0 a1 (decide ((a1.size : Int) > 2147483647)))) = some r := h
  clear h
  have HC3 := Aside0.mk H
  clear H
  go_enter Tryd.func6, Tryd.ntmps6
  go_upto_region 1 with (fail)
  go_cut [12] (fun v12 wc => ∃ (kq : Nat) (x12_2 : Bool), v12 = .bool x12_2 ∧ Aside0 (laws_FnRedHatZeros.j0 kq a0 a1 x12_2 = some r) ∧ Aside0 (kq ≤ k) ∧ Aside0 (Below w.heap.size w wc))
  case first =>
    have H := HC3.out
    clear HC3
    by_cases c4 : (a0.size : Int) > 2147483647
    · rw [if_pos c4] at H
      have c4b0 : decide (2147483647 < (a0.size : Int)) = true := decide_eq_true c4
      have c4b1 : decide (2147483647 < a0.size) = true := decide_eq_true (by omega)
      clear c4
      (first | rw [c4b0] | (simp only [i64_w, i32_w]; rw [c4b0]) | skip)
      have H' := Aside0.mk H
      clear H
      go_wp2
      go_meet
      case rel => exact ⟨_, (true), (by first | rfl | (simp; done) | (simp [*]; done)), H', ⟨by first | omega | exact Nat.le_refl _⟩, ⟨by repeat (first | (with_reducible first | exact HB.out | apply below_alloc | apply pw_below_drewN | apply below_drew1) | exact HB.out)⟩⟩
    · rw [if_neg c4] at H
      have c4b0 : decide (2147483647 < (a0.size : Int)) = false := decide_eq_false c4
      have c4b1 : decide (2147483647 < a0.size) = false := decide_eq_false (by omega)
      clear c4
      (first | rw [c4b0] | (simp only [i64_w, i32_w]; rw [c4b0]) | skip)
      have H' := Aside0.mk H
      clear H
      go_wp2
      go_meet
      case rel => exact ⟨_, (decide ((a1.size : Int) > 2147483647)), (by first | rfl | (simp; done) | (simp [*]; done)), H', ⟨by first | omega | exact Nat.le_refl _⟩, ⟨by repeat (first | (with_reducible first | exact HB.out | apply below_alloc | apply pw_below_drewN | apply below_drew1) | exact HB.out)⟩⟩
  case rest =>
    clear HC3
    try clear p2
    try clear c4
    try clear c4b0
    try clear c4b1
    obtain ⟨kq, x12_2, rfl, HA, HJ2, HB⟩ := hcut
    cases kq with
    | zero => exact absurd HA.out (by simp [laws_FnRedHatZeros.j0])
    | succ kj2 =>
      have H := HA.out
      clear HA
      simp only [laws_FnRedHatZeros.j0] at H
      by_cases c5 : x12_2 = true
      · subst c5
        have H1 : (some true) = some r := by rw [if_pos rfl] at H; exact H
        clear H
        have H := H1
        clear H1
        obtain rfl := Option.some.inj H
        go_wp2
        go_ret
        exact ⟨by first | rfl | (simp [errW_none, errW_some] <;> rfl) | (simp [*, errW_none, errW_some] <;> rfl), by repeat (first | (with_reducible first | exact HB.out | apply below_alloc | apply pw_below_drewN | apply below_drew1) | exact HB.out)⟩
      · replace c5 := Bool.eq_false_iff.mpr c5
        subst c5
        have H1 : ((laws_short.f kj2 (([a0, a1] : List ByteArray))).bind fun t220 => (if t220 = true then ((laws_plain.f kj2 a0 (⟨#[46, 95, 43, 126, 94]⟩ : ByteArray)).bind fun t221 => (if t221 = true then ((laws_plain.f kj2 a1 (⟨#[46, 95, 43, 126, 94]⟩ : ByteArray)).bind fun t222 => (laws_FnRedHatZeros.j1 kj2 a0 a1 (!t222))) else (laws_FnRedHatZeros.j1 kj2 a0 a1 true))) else (laws_FnRedHatZeros.j1 kj2 a0 a1 true))) = some r := by rw [if_neg (show ¬ (false = true) by decide)] at H; exact H
        clear H
        have H := H1
        clear H1
        have HC6 := Aside0.mk H
        clear H
        go_upto_region 3 with (fail)
        go_cut [27] (fun v27 wc => ∃ (kq : Nat) (x27_5 : Bool), v27 = .bool x27_5 ∧ Aside0 (laws_FnRedHatZeros.j1 kq a0 a1 x27_5 = some r) ∧ Aside0 (kq ≤ kj2) ∧ Aside0 (Below w.heap.size w wc))
        case first =>
          have H := HC6.out
          clear HC6
          obtain ⟨y217, hy217⟩ : ∃ y_ : List ByteArray, y_ = (([a0, a1] : List ByteArray)) := ⟨_, rfl⟩
          replace H : ((laws_short.f kj2 y217).bind fun t220 => (if t220 = true then ((laws_plain.f kj2 a0 (⟨#[46, 95, 43, 126, 94]⟩ : ByteArray)).bind fun t221 => (if t221 = true then ((laws_plain.f kj2 a1 (⟨#[46, 95, 43, 126, 94]⟩ : ByteArray)).bind fun t222 => (laws_FnRedHatZeros.j1 kj2 a0 a1 (!t222))) else (laws_FnRedHatZeros.j1 kj2 a0 a1 true))) else (laws_FnRedHatZeros.j1 kj2 a0 a1 true))) = some r := by first | (rw [hy217]; with_reducible exact H) | (have H2_ := (Option.bind_some _ _).symm.trans H; rw [hy217]; with_reducible exact H2_) | (have H2_ := (Option.bind_some _ _).symm.trans H; with_reducible exact H2_) | with_reducible exact H | (rw [hy217]; exact H) | exact H
          have Ny217 := Aside0.mk hy217
          clear hy217
          replace H := Option.bind_eq_some_iff.mp H
          obtain ⟨t220, A70, H⟩ := H
          replace H : (if t220 = true then ((laws_plain.f kj2 a0 (⟨#[46, 95, 43, 126, 94]⟩ : ByteArray)).bind fun t221 => (if t221 = true then ((laws_plain.f kj2 a1 (⟨#[46, 95, 43, 126, 94]⟩ : ByteArray)).bind fun t222 => (laws_FnRedHatZeros.j1 kj2 a0 a1 (!t222))) else (laws_FnRedHatZeros.j1 kj2 a0 a1 true))) else (laws_FnRedHatZeros.j1 kj2 a0 a1 true)) = some r := H
          have A7 := Aside0.mk A70
          clear A70
          by_cases c8 : t220 = true
          · subst c8
            have H1 : ((laws_plain.f kj2 a0 (⟨#[46, 95, 43, 126, 94]⟩ : ByteArray)).bind fun t221 => (if t221 = true then ((laws_plain.f kj2 a1 (⟨#[46, 95, 43, 126, 94]⟩ : ByteArray)).bind fun t222 => (laws_FnRedHatZeros.j1 kj2 a0 a1 (!t222))) else (laws_FnRedHatZeros.j1 kj2 a0 a1 true))) = some r := by rw [if_pos rfl] at H; exact H
            clear H
            have H := H1
            clear H1
            replace H := Option.bind_eq_some_iff.mp H
            obtain ⟨t221, A90, H⟩ := H
            replace H : (if t221 = true then ((laws_plain.f kj2 a1 (⟨#[46, 95, 43, 126, 94]⟩ : ByteArray)).bind fun t222 => (laws_FnRedHatZeros.j1 kj2 a0 a1 (!t222))) else (laws_FnRedHatZeros.j1 kj2 a0 a1 true)) = some r := H
            have A9 := Aside0.mk A90
            clear A90
            by_cases c10 : t221 = true
            · subst c10
              have H1 : ((laws_plain.f kj2 a1 (⟨#[46, 95, 43, 126, 94]⟩ : ByteArray)).bind fun t222 => (laws_FnRedHatZeros.j1 kj2 a0 a1 (!t222))) = some r := by rw [if_pos rfl] at H; exact H
              clear H
              have H := H1
              clear H1
              replace H := Option.bind_eq_some_iff.mp H
              obtain ⟨t222, A110, H⟩ := H
              replace H : (laws_FnRedHatZeros.j1 kj2 a0 a1 (!t222)) = some r := H
              have A11 := Aside0.mk A110
              clear A110
              have H' := Aside0.mk H
              clear H
              go_wp2_with (first | ((with_reducible refine gate_dst (N := 15) rfl ?_); (try (refine gate_guard (by rfl) ?_; dsimp only)); refine Kd.R_lit Kd.string _ 9 ?hg (N := 15) ?hd (xs := ([a0, a1] : List ByteArray)) (inner := [.string a0, .string a1]) (ok := fun _ => True) (okp := fun _ => True) ?hr ?hp (fun _ hk => hk) trivial (Below.refl _ _) (Nat.le_refl _) (by simp) ?_; (case hd => rfl); (case hg => rfl); (case hr => first | (go_simp; done) | (go_simp; rfl)); (case hp => exact (Reps.one (show Kd.M Kd.string _ _ _ a0 [.string a0] from rfl) (Reps.one (show Kd.M Kd.string _ _ _ a1 [.string a1] from rfl) (Reps.none _ _)))); intro v218 w12 ho13 hb hg_ hnew_; clear hg_ hnew_; (first | rw [← Ny217.out] at ho13 | (simp only [Int.reduceToNat] at ho13; rw [← Ny217.out] at ho13)); have n0_ := Aside0.mk (Kd.R_lower ho13 (below_size (by repeat (first | (with_reducible first | exact HB.out | apply below_alloc | apply pw_below_drewN | apply below_drew1) | exact HB.out)))); have n1_ := Aside0.mk (below_step (by repeat (first | (with_reducible first | exact HB.out | apply below_alloc | apply pw_below_drewN | apply below_drew1) | exact HB.out)) hb); clear HB; have HO219 := n0_; have HB := n1_; clear n0_ n1_; clear hb ho13; obtain ⟨Ao14, co14, eo14⟩ := Kd.R_slice HO219.out; subst eo14) | ((with_reducible refine gate_callee (f := 8) rfl ?_); refine goesL_ (some 16) rfl rfl Tryd.func8 (by kernel_rfl) rfl #[.slice Ao14 y217.length co14] rfl (by (try simp only [List.map_toArray, List.map_cons, List.map_nil]); first | done | rfl | (simp only [List.length_drop, List.length_take]; rfl)) ?_; (with_reducible refine (laws_short.calls kj2 _ _ y217 true _ ?side1 ?side2 A7.out).mono ?_); (case side1 => repeat (first | exact (Kd.R_reads' HO219.out).2.2 | (with_reducible refine Kd.C_alloc ?_ _) | (with_reducible refine Kd.C_drewN ?_ _) | (with_reducible refine Kd.C_drew ?_))); (case side2 => exact (Kd.R_reads' HO219.out).2.1); rintro e w' ⟨rfl, ⟨nd, rfl⟩⟩; refine ⟨_, rfl, ?_⟩) | (go_at_call 9; (with_reducible refine (laws_plain.calls kj2 a0 (⟨#[46, 95, 43, 126, 94]⟩ : ByteArray) true _ A9.out).mono ?_); rintro e w' ⟨rfl, ⟨nd, rfl⟩⟩) | (go_at_call 9; (with_reducible refine (laws_plain.calls kj2 a1 (⟨#[46, 95, 43, 126, 94]⟩ : ByteArray) t222 _ A11.out).mono ?_); rintro e w' ⟨rfl, ⟨nd, rfl⟩⟩))
              go_meet
              case rel => exact ⟨_, (!t222), (by first | rfl | (simp; done) | (simp [*]; done)), H', ⟨by have := HJ2.out; first | omega | exact Nat.le_refl _⟩, ⟨by repeat (first | (with_reducible first | exact HB.out | apply below_alloc | apply pw_below_drewN | apply below_drew1) | exact HB.out)⟩⟩
            · replace c10 := Bool.eq_false_iff.mpr c10
              subst c10
              have H1 : (laws_FnRedHatZeros.j1 kj2 a0 a1 true) = some r := by rw [if_neg (show ¬ (false = true) by decide)] at H; exact H
              clear H
              have H := H1
              clear H1
              have H' := Aside0.mk H
              clear H
              go_wp2_with (first | ((with_reducible refine gate_dst (N := 15) rfl ?_); (try (refine gate_guard (by rfl) ?_; dsimp only)); refine Kd.R_lit Kd.string _ 9 ?hg (N := 15) ?hd (xs := ([a0, a1] : List ByteArray)) (inner := [.string a0, .string a1]) (ok := fun _ => True) (okp := fun _ => True) ?hr ?hp (fun _ hk => hk) trivial (Below.refl _ _) (Nat.le_refl _) (by simp) ?_; (case hd => rfl); (case hg => rfl); (case hr => first | (go_simp; done) | (go_simp; rfl)); (case hp => exact (Reps.one (show Kd.M Kd.string _ _ _ a0 [.string a0] from rfl) (Reps.one (show Kd.M Kd.string _ _ _ a1 [.string a1] from rfl) (Reps.none _ _)))); intro v218 w15 ho16 hb hg_ hnew_; clear hg_ hnew_; (first | rw [← Ny217.out] at ho16 | (simp only [Int.reduceToNat] at ho16; rw [← Ny217.out] at ho16)); have n0_ := Aside0.mk (Kd.R_lower ho16 (below_size (by repeat (first | (with_reducible first | exact HB.out | apply below_alloc | apply pw_below_drewN | apply below_drew1) | exact HB.out)))); have n1_ := Aside0.mk (below_step (by repeat (first | (with_reducible first | exact HB.out | apply below_alloc | apply pw_below_drewN | apply below_drew1) | exact HB.out)) hb); clear HB; have HO219 := n0_; have HB := n1_; clear n0_ n1_; clear hb ho16; obtain ⟨Ao17, co17, eo17⟩ := Kd.R_slice HO219.out; subst eo17) | ((with_reducible refine gate_callee (f := 8) rfl ?_); refine goesL_ (some 16) rfl rfl Tryd.func8 (by kernel_rfl) rfl #[.slice Ao17 y217.length co17] rfl (by (try simp only [List.map_toArray, List.map_cons, List.map_nil]); first | done | rfl | (simp only [List.length_drop, List.length_take]; rfl)) ?_; (with_reducible refine (laws_short.calls kj2 _ _ y217 true _ ?side1 ?side2 A7.out).mono ?_); (case side1 => repeat (first | exact (Kd.R_reads' HO219.out).2.2 | (with_reducible refine Kd.C_alloc ?_ _) | (with_reducible refine Kd.C_drewN ?_ _) | (with_reducible refine Kd.C_drew ?_))); (case side2 => exact (Kd.R_reads' HO219.out).2.1); rintro e w' ⟨rfl, ⟨nd, rfl⟩⟩; refine ⟨_, rfl, ?_⟩) | (go_at_call 9; (with_reducible refine (laws_plain.calls kj2 a0 (⟨#[46, 95, 43, 126, 94]⟩ : ByteArray) false _ A9.out).mono ?_); rintro e w' ⟨rfl, ⟨nd, rfl⟩⟩))
              go_meet
              case rel => exact ⟨_, (true), (by first | rfl | (simp; done) | (simp [*]; done)), H', ⟨by have := HJ2.out; first | omega | exact Nat.le_refl _⟩, ⟨by repeat (first | (with_reducible first | exact HB.out | apply below_alloc | apply pw_below_drewN | apply below_drew1) | exact HB.out)⟩⟩
          · replace c8 := Bool.eq_false_iff.mpr c8
            subst c8
            have H1 : (laws_FnRedHatZeros.j1 kj2 a0 a1 true) = some r := by rw [if_neg (show ¬ (false = true) by decide)] at H; exact H
            clear H
            have H := H1
            clear H1
            have H' := Aside0.mk H
            clear H
            go_wp2_with (first | ((with_reducible refine gate_dst (N := 15) rfl ?_); (try (refine gate_guard (by rfl) ?_; dsimp only)); refine Kd.R_lit Kd.string _ 9 ?hg (N := 15) ?hd (xs := ([a0, a1] : List ByteArray)) (inner := [.string a0, .string a1]) (ok := fun _ => True) (okp := fun _ => True) ?hr ?hp (fun _ hk => hk) trivial (Below.refl _ _) (Nat.le_refl _) (by simp) ?_; (case hd => rfl); (case hg => rfl); (case hr => first | (go_simp; done) | (go_simp; rfl)); (case hp => exact (Reps.one (show Kd.M Kd.string _ _ _ a0 [.string a0] from rfl) (Reps.one (show Kd.M Kd.string _ _ _ a1 [.string a1] from rfl) (Reps.none _ _)))); intro v218 w18 ho19 hb hg_ hnew_; clear hg_ hnew_; (first | rw [← Ny217.out] at ho19 | (simp only [Int.reduceToNat] at ho19; rw [← Ny217.out] at ho19)); have n0_ := Aside0.mk (Kd.R_lower ho19 (below_size (by repeat (first | (with_reducible first | exact HB.out | apply below_alloc | apply pw_below_drewN | apply below_drew1) | exact HB.out)))); have n1_ := Aside0.mk (below_step (by repeat (first | (with_reducible first | exact HB.out | apply below_alloc | apply pw_below_drewN | apply below_drew1) | exact HB.out)) hb); clear HB; have HO219 := n0_; have HB := n1_; clear n0_ n1_; clear hb ho19; obtain ⟨Ao20, co20, eo20⟩ := Kd.R_slice HO219.out; subst eo20) | ((with_reducible refine gate_callee (f := 8) rfl ?_); refine goesL_ (some 16) rfl rfl Tryd.func8 (by kernel_rfl) rfl #[.slice Ao20 y217.length co20] rfl (by (try simp only [List.map_toArray, List.map_cons, List.map_nil]); first | done | rfl | (simp only [List.length_drop, List.length_take]; rfl)) ?_; (with_reducible refine (laws_short.calls kj2 _ _ y217 false _ ?side1 ?side2 A7.out).mono ?_); (case side1 => repeat (first | exact (Kd.R_reads' HO219.out).2.2 | (with_reducible refine Kd.C_alloc ?_ _) | (with_reducible refine Kd.C_drewN ?_ _) | (with_reducible refine Kd.C_drew ?_))); (case side2 => exact (Kd.R_reads' HO219.out).2.1); rintro e w' ⟨rfl, ⟨nd, rfl⟩⟩; refine ⟨_, rfl, ?_⟩))
            go_meet
            case rel => exact ⟨_, (true), (by first | rfl | (simp; done) | (simp [*]; done)), H', ⟨by have := HJ2.out; first | omega | exact Nat.le_refl _⟩, ⟨by repeat (first | (with_reducible first | exact HB.out | apply below_alloc | apply pw_below_drewN | apply below_drew1) | exact HB.out)⟩⟩
        case rest =>
          clear HC6
          try clear c1
          try clear p2
          try clear c4
          try clear c4b0
          try clear c4b1
          try clear c5
          try clear c6
          try clear c8
          try clear c10
          try clear p2
          obtain ⟨kq, x27_5, rfl, HA, HJ5, HB⟩ := hcut
          cases kq with
          | zero => exact absurd HA.out (by simp [laws_FnRedHatZeros.j1])
          | succ kj5 =>
            have H := HA.out
            clear HA
            simp only [laws_FnRedHatZeros.j1] at H
            by_cases c21 : x27_5 = true
            · subst c21
              have H1 : (some true) = some r := by rw [if_pos rfl] at H; exact H
              clear H
              have H := H1
              clear H1
              obtain rfl := Option.some.inj H
              go_wp2
              go_ret
              exact ⟨by first | rfl | (simp [errW_none, errW_some] <;> rfl) | (simp [*, errW_none, errW_some] <;> rfl), by repeat (first | (with_reducible first | exact HB.out | apply below_alloc | apply pw_below_drewN | apply below_drew1) | exact HB.out)⟩
            · replace c21 := Bool.eq_false_iff.mpr c21
              subst c21
              have H1 : ((laws_redhatAwake.f kj5).bind fun t223 => (if t223 = true then ((laws_zeroed.f kj5 a0).bind fun t224 => ((impl_RedHatParts.f a0 t224).bind fun t225 => (if t225 = 0 then ((impl_RedHatParts.f t224 a1).bind fun t226 => ((impl_RedHatParts.f a0 a1).bind fun t227 => (some (t226 == t227)))) else (some false)))) else (some false))) = some r := by rw [if_neg (show ¬ (false = true) by decide)] at H; exact H
              clear H
              have H := H1
              clear H1
              replace H := Option.bind_eq_some_iff.mp H
              obtain ⟨t223, A220, H⟩ := H
              replace H : (if t223 = true then ((laws_zeroed.f kj5 a0).bind fun t224 => ((impl_RedHatParts.f a0 t224).bind fun t225 => (if t225 = 0 then ((impl_RedHatParts.f t224 a1).bind fun t226 => ((impl_RedHatParts.f a0 a1).bind fun t227 => (some (t226 == t227)))) else (some false)))) else (some false)) = some r := H
              have A22 := Aside0.mk A220
              clear A220
              by_cases c23 : t223 = true
              · subst c23
                have H1 : ((laws_zeroed.f kj5 a0).bind fun t224 => ((impl_RedHatParts.f a0 t224).bind fun t225 => (if t225 = 0 then ((impl_RedHatParts.f t224 a1).bind fun t226 => ((impl_RedHatParts.f a0 a1).bind fun t227 => (some (t226 == t227)))) else (some false)))) = some r := by rw [if_pos rfl] at H; exact H
                clear H
                have H := H1
                clear H1
                replace H := Option.bind_eq_some_iff.mp H
                obtain ⟨t224, A240, H⟩ := H
                replace H : ((impl_RedHatParts.f a0 t224).bind fun t225 => (if t225 = 0 then ((impl_RedHatParts.f t224 a1).bind fun t226 => ((impl_RedHatParts.f a0 a1).bind fun t227 => (some (t226 == t227)))) else (some false))) = some r := H
                have A24 := Aside0.mk A240
                clear A240
                replace H := Option.bind_eq_some_iff.mp H
                obtain ⟨t225, A250, H⟩ := H
                replace H : (if t225 = 0 then ((impl_RedHatParts.f t224 a1).bind fun t226 => ((impl_RedHatParts.f a0 a1).bind fun t227 => (some (t226 == t227)))) else (some false)) = some r := H
                have A25 := Aside0.mk A250
                clear A250
                by_cases c26 : t225 = 0
                · rw [if_pos c26] at H
                  have c26b0 : (t225 == 0) = true := beq_iff_eq.mpr c26
                  have c26b1 : (t225 != 0) = false := bne_eq_false_iff_eq.mpr c26
                  clear c26
                  replace H := Option.bind_eq_some_iff.mp H
                  obtain ⟨t226, A270, H⟩ := H
                  replace H : ((impl_RedHatParts.f a0 a1).bind fun t227 => (some (t226 == t227))) = some r := H
                  have A27 := Aside0.mk A270
                  clear A270
                  replace H := Option.bind_eq_some_iff.mp H
                  obtain ⟨t227, A280, H⟩ := H
                  replace H : (some (t226 == t227)) = some r := H
                  have A28 := Aside0.mk A280
                  clear A280
                  obtain rfl := Option.some.inj H
                  go_wp2_with (first | ((with_reducible refine gate_callee (f := 16) rfl ?_); refine goesL_ (some 28) rfl rfl Tryd.func16 (by kernel_rfl) rfl #[] rfl (by (try simp only [List.map_toArray, List.map_cons, List.map_nil]); first | done | rfl | (simp only [List.length_drop, List.length_take]; rfl)) ?_; (with_reducible refine (laws_redhatAwake.calls kj5  true _ A22.out).mono ?_); rintro e w29 ⟨rfl, hb⟩; refine ⟨_, rfl, ?_⟩; have n0_ := Aside0.mk (below_step (by repeat (first | (with_reducible first | exact HB.out | apply below_alloc | apply pw_below_drewN | apply below_drew1) | exact HB.out)) hb); clear HB; have HB := n0_; clear n0_; (try clear hb); (try clear hb2); (try clear hk); (try clear hi)) | (go_at_call 18; (with_reducible refine (laws_zeroed.calls kj5 a0 t224 _ A24.out).mono ?_); rintro e w' ⟨rfl, ⟨nd, rfl⟩⟩) | (go_at_call 17; (with_reducible refine (impl_RedHatParts.calls a0 t224 t225 _ A25.out).mono ?_); rintro e w30 ⟨rfl, hb⟩; have n0_ := Aside0.mk (below_step (by repeat (first | (with_reducible first | exact HB.out | apply below_alloc | apply pw_below_drewN | apply below_drew1) | exact HB.out)) hb); clear HB; have HB := n0_; clear n0_; (try clear hb); (try clear hb2); (try clear hk); (try clear hi)) | (go_at_call 17; (with_reducible refine (impl_RedHatParts.calls t224 a1 t226 _ A27.out).mono ?_); rintro e w31 ⟨rfl, hb⟩; have n0_ := Aside0.mk (below_step (by repeat (first | (with_reducible first | exact HB.out | apply below_alloc | apply pw_below_drewN | apply below_drew1) | exact HB.out)) hb); clear HB; have HB := n0_; clear n0_; (try clear hb); (try clear hb2); (try clear hk); (try clear hi)) | (go_at_call 17; (with_reducible refine (impl_RedHatParts.calls a0 a1 t227 _ A28.out).mono ?_); rintro e w32 ⟨rfl, hb⟩; have n0_ := Aside0.mk (below_step (by repeat (first | (with_reducible first | exact HB.out | apply below_alloc | apply pw_below_drewN | apply below_drew1) | exact HB.out)) hb); clear HB; have HB := n0_; clear n0_; (try clear hb); (try clear hb2); (try clear hk); (try clear hi)))
                  go_ret
                  exact ⟨by first | rfl | (simp [errW_none, errW_some] <;> rfl) | (simp [*, errW_none, errW_some] <;> rfl), by repeat (first | (with_reducible first | exact HB.out | apply below_alloc | apply pw_below_drewN | apply below_drew1) | exact HB.out)⟩
                · rw [if_neg c26] at H
                  have c26b0 : (t225 == 0) = false := beq_eq_false_iff_ne.mpr c26
                  have c26b1 : (t225 != 0) = true := bne_iff_ne.mpr c26
                  obtain rfl := Option.some.inj H
                  go_wp2_with (first | ((with_reducible refine gate_callee (f := 16) rfl ?_); refine goesL_ (some 28) rfl rfl Tryd.func16 (by kernel_rfl) rfl #[] rfl (by (try simp only [List.map_toArray, List.map_cons, List.map_nil]); first | done | rfl | (simp only [List.length_drop, List.length_take]; rfl)) ?_; (with_reducible refine (laws_redhatAwake.calls kj5  true _ A22.out).mono ?_); rintro e w33 ⟨rfl, hb⟩; refine ⟨_, rfl, ?_⟩; have n0_ := Aside0.mk (below_step (by repeat (first | (with_reducible first | exact HB.out | apply below_alloc | apply pw_below_drewN | apply below_drew1) | exact HB.out)) hb); clear HB; have HB := n0_; clear n0_; (try clear hb); (try clear hb2); (try clear hk); (try clear hi)) | (go_at_call 18; (with_reducible refine (laws_zeroed.calls kj5 a0 t224 _ A24.out).mono ?_); rintro e w' ⟨rfl, ⟨nd, rfl⟩⟩) | (go_at_call 17; (with_reducible refine (impl_RedHatParts.calls a0 t224 t225 _ A25.out).mono ?_); rintro e w34 ⟨rfl, hb⟩; have n0_ := Aside0.mk (below_step (by repeat (first | (with_reducible first | exact HB.out | apply below_alloc | apply pw_below_drewN | apply below_drew1) | exact HB.out)) hb); clear HB; have HB := n0_; clear n0_; (try clear hb); (try clear hb2); (try clear hk); (try clear hi)))
                  go_ret
                  exact ⟨by first | rfl | (simp [errW_none, errW_some] <;> rfl) | (simp [*, errW_none, errW_some] <;> rfl), by repeat (first | (with_reducible first | exact HB.out | apply below_alloc | apply pw_below_drewN | apply below_drew1) | exact HB.out)⟩
              · replace c23 := Bool.eq_false_iff.mpr c23
                subst c23
                have H1 : (some false) = some r := by rw [if_neg (show ¬ (false = true) by decide)] at H; exact H
                clear H
                have H := H1
                clear H1
                obtain rfl := Option.some.inj H
                go_wp2_with (first | ((with_reducible refine gate_callee (f := 16) rfl ?_); refine goesL_ (some 28) rfl rfl Tryd.func16 (by kernel_rfl) rfl #[] rfl (by (try simp only [List.map_toArray, List.map_cons, List.map_nil]); first | done | rfl | (simp only [List.length_drop, List.length_take]; rfl)) ?_; (with_reducible refine (laws_redhatAwake.calls kj5  false _ A22.out).mono ?_); rintro e w35 ⟨rfl, hb⟩; refine ⟨_, rfl, ?_⟩; have n0_ := Aside0.mk (below_step (by repeat (first | (with_reducible first | exact HB.out | apply below_alloc | apply pw_below_drewN | apply below_drew1) | exact HB.out)) hb); clear HB; have HB := n0_; clear n0_; (try clear hb); (try clear hb2); (try clear hk); (try clear hi)))
                go_ret
                exact ⟨by first | rfl | (simp [errW_none, errW_some] <;> rfl) | (simp [*, errW_none, errW_some] <;> rfl), by repeat (first | (with_reducible first | exact HB.out | apply below_alloc | apply pw_below_drewN | apply below_drew1) | exact HB.out)⟩

/-- THE ONE PURE STATEMENT of laws_FnRedHatZeros. -/
def laws_FnRedHatZeros.Pure : Prop := ∀ (a0 : ByteArray) (a1 : ByteArray), a0.size ≤ 140737488351232 → a1.size ≤ 140737488351232 → ∃ k, laws_FnRedHatZeros.f k a0 a1 = some true
theorem laws_FnRedHatZeros.walk (P : laws_FnRedHatZeros.Pure) (a0 : ByteArray) (a1 : ByteArray) (w : World) (hm0 : a0.size ≤ 140737488351232) (hm1 : a1.size ≤ 140737488351232)  :
    Calls Tryd.prog 6 #[.string a0, .string a1] w fun e w' => e = .returned (.bool true) ∧ Below w.heap.size w w' := by
  obtain ⟨k, h⟩ := P a0 a1 hm0 hm1
  refine (laws_FnRedHatZeros.calls k a0 a1 true w  h).mono ?_
  rintro e w' ⟨rfl, hd⟩
  exact ⟨rfl, hd⟩

end Go.Proofs.YtciojhhncfnagaaDoor.Z
