-- Written by a program of this session (myprint.py).
import Derived.Test.YtmhlmkefnmdbcaaDoorZ0
import Derived.Test.YtmhlmkefnmdbcaaDoorZ2
import Derived.Test.YtmhlmkefnmdbcaaDoorZ14
import Derived.Test.YtmhlmkefnmdbcaaDoorZ15
import Derived.Test.YtmhlmkefnmdbcaaDoorGe
namespace Go.Proofs.YtmhlmkefnmdbcaaDoor.Z
open Go.Proofs.YtmhlmkefnmdbcaaDoor.Gw
open Go.RowKit Go.Proofs.YtmhlmkefnmdbcaaDoorW.PrintWords Go.Proofs.YtmhlmkefnmdbcaaDoorW.PrintLast Go.Proofs.YtmhlmkefnmdbcaaDoorW.PrintMore
attribute [local go_sem high] Go.Proofs.YtmhlmkefnmdbcaaDoor.Ge.gtr_str
attribute [local go_sem] max2_int min2_int max_two min_two max_three min_three max_four min_four   -- for this text's walks alone
set_option linter.unusedVariables false
set_option linter.unusedSimpArgs false

/-! ### laws_FnCRANOrder: function 6 -/
mutual
def laws_FnCRANOrder.j0 : Nat → ByteArray → ByteArray → ByteArray → Bool → Option (Bool)
  | 0, _, _, _, _ => none
  | k + 1, x0, x1, x2, x25 => if x25 = true then (some true) else ((laws_short.f k (([x0, x1, x2] : List ByteArray))).bind fun t180 => (if t180 = true then ((laws_plain.f k x0 (⟨#[46, 45]⟩ : ByteArray)).bind fun t181 => (if t181 = true then ((laws_plain.f k x1 (⟨#[46, 45]⟩ : ByteArray)).bind fun t182 => (if t182 = true then ((laws_plain.f k x2 (⟨#[46, 45]⟩ : ByteArray)).bind fun t183 => (laws_FnCRANOrder.j1 k x0 x1 x2 (!t183))) else (laws_FnCRANOrder.j1 k x0 x1 x2 true))) else (laws_FnCRANOrder.j1 k x0 x1 x2 true))) else (laws_FnCRANOrder.j1 k x0 x1 x2 true)))
def laws_FnCRANOrder.j1 : Nat → ByteArray → ByteArray → ByteArray → Bool → Option (Bool)
  | 0, _, _, _, _ => none
  | k + 1, x0, x1, x2, x46 => if x46 = true then (some true) else ((impl_CRANCompare.f x0 x1).bind fun bt184 => ((impl_CRANCompare.f x1 x2).bind fun bt186 => ((impl_CRANCompare.f x0 x2).bind fun bt188 => (if bt184.2 = true then (if bt186.2 = true then (laws_FnCRANOrder.j2 k bt184.1 bt184.2 bt186.1 bt186.2 bt188.1 bt188.2 (!bt188.2)) else (laws_FnCRANOrder.j2 k bt184.1 bt184.2 bt186.1 bt186.2 bt188.1 bt188.2 true)) else (laws_FnCRANOrder.j2 k bt184.1 bt184.2 bt186.1 bt186.2 bt188.1 bt188.2 true)))))
def laws_FnCRANOrder.j2 : Nat → Int → Bool → Int → Bool → Int → Bool → Bool → Option (Bool)
  | 0, _, _, _, _, _, _, _ => none
  | k + 1, x7, x8, x9, x10, x11, x12, x74 => if x74 = true then ((laws_cranAwake.f).bind fun t190 => (if t190 = true then (if x8 = true then (if x10 = true then (if x12 = true then (some false) else (some (x11 == 0))) else (if x9 = 0 then (some true) else (if x12 = true then (some false) else (some (x11 == 0))))) else (if x7 = 0 then (some true) else (if x10 = true then (if x12 = true then (some false) else (some (x11 == 0))) else (if x9 = 0 then (some true) else (if x12 = true then (some false) else (some (x11 == 0))))))) else (some false))) else ((laws_cranAwake.f).bind fun t191 => (if t191 = true then ((laws_chained.f k x7 x9 x11).bind fun t192 => (some t192)) else (some false)))
end
def laws_FnCRANOrder.f (k : Nat) (a0 : ByteArray) (a1 : ByteArray) (a2 : ByteArray) : Option (Bool) := if (a0.size : Int) > 2147483647 then (laws_FnCRANOrder.j0 k a0 a1 a2 true) else (if (a1.size : Int) > 2147483647 then (laws_FnCRANOrder.j0 k a0 a1 a2 true) else (laws_FnCRANOrder.j0 k a0 a1 a2 (decide ((a2.size : Int) > 2147483647))))
theorem laws_FnCRANOrder.mono_l : ∀ k, (∀ y0 y1 y2 y3, LeO (laws_FnCRANOrder.j0 k y0 y1 y2 y3) (laws_FnCRANOrder.j0 (k + 1) y0 y1 y2 y3)) ∧ (∀ y0 y1 y2 y3, LeO (laws_FnCRANOrder.j1 k y0 y1 y2 y3) (laws_FnCRANOrder.j1 (k + 1) y0 y1 y2 y3)) ∧ (∀ y0 y1 y2 y3 y4 y5 y6, LeO (laws_FnCRANOrder.j2 k y0 y1 y2 y3 y4 y5 y6) (laws_FnCRANOrder.j2 (k + 1) y0 y1 y2 y3 y4 y5 y6))
  | 0 => ⟨fun _ _ _ _ r h => by simp [laws_FnCRANOrder.j0] at h, fun _ _ _ _ r h => by simp [laws_FnCRANOrder.j1] at h, fun _ _ _ _ _ _ _ r h => by simp [laws_FnCRANOrder.j2] at h⟩
  | k + 1 => by
    obtain ⟨ih0, ih1, ih2⟩ := laws_FnCRANOrder.mono_l k
    refine ⟨?_, ?_, ?_⟩
    · intro y0 y1 y2 y3
      unfold laws_FnCRANOrder.j0
      repeat' first
      | (with_reducible exact ih0 _ _ _ _)
      | (with_reducible exact ih1 _ _ _ _)
      | (with_reducible exact ih2 _ _ _ _ _ _ _)
      | (with_reducible exact laws_chained.mono _ _ _ _)
      | (with_reducible exact laws_plain.mono _ _ _)
      | (with_reducible exact laws_short.mono _ _)
      | (with_reducible exact LeO.refl _)
      | (with_reducible exact LeO.none _)
      | (with_reducible refine LeO.ite ?_ ?_)
      | (with_reducible refine LeO.bind ?_ (fun _ => ?_))
      | exact ih0 _ _ _ _
      | exact ih1 _ _ _ _
      | exact ih2 _ _ _ _ _ _ _
      | exact laws_chained.mono _ _ _ _
      | exact laws_plain.mono _ _ _
      | exact laws_short.mono _ _
      | exact LeO.none _
      | refine LeO.ite ?_ ?_
      | refine LeO.bind ?_ (fun _ => ?_)
    · intro y0 y1 y2 y3
      unfold laws_FnCRANOrder.j1
      repeat' first
      | (with_reducible exact ih0 _ _ _ _)
      | (with_reducible exact ih1 _ _ _ _)
      | (with_reducible exact ih2 _ _ _ _ _ _ _)
      | (with_reducible exact laws_chained.mono _ _ _ _)
      | (with_reducible exact laws_plain.mono _ _ _)
      | (with_reducible exact laws_short.mono _ _)
      | (with_reducible exact LeO.refl _)
      | (with_reducible exact LeO.none _)
      | (with_reducible refine LeO.ite ?_ ?_)
      | (with_reducible refine LeO.bind ?_ (fun _ => ?_))
      | exact ih0 _ _ _ _
      | exact ih1 _ _ _ _
      | exact ih2 _ _ _ _ _ _ _
      | exact laws_chained.mono _ _ _ _
      | exact laws_plain.mono _ _ _
      | exact laws_short.mono _ _
      | exact LeO.none _
      | refine LeO.ite ?_ ?_
      | refine LeO.bind ?_ (fun _ => ?_)
    · intro y0 y1 y2 y3 y4 y5 y6
      unfold laws_FnCRANOrder.j2
      repeat' first
      | (with_reducible exact ih0 _ _ _ _)
      | (with_reducible exact ih1 _ _ _ _)
      | (with_reducible exact ih2 _ _ _ _ _ _ _)
      | (with_reducible exact laws_chained.mono _ _ _ _)
      | (with_reducible exact laws_plain.mono _ _ _)
      | (with_reducible exact laws_short.mono _ _)
      | (with_reducible exact LeO.refl _)
      | (with_reducible exact LeO.none _)
      | (with_reducible refine LeO.ite ?_ ?_)
      | (with_reducible refine LeO.bind ?_ (fun _ => ?_))
      | exact ih0 _ _ _ _
      | exact ih1 _ _ _ _
      | exact ih2 _ _ _ _ _ _ _
      | exact laws_chained.mono _ _ _ _
      | exact laws_plain.mono _ _ _
      | exact laws_short.mono _ _
      | exact LeO.none _
      | refine LeO.ite ?_ ?_
      | refine LeO.bind ?_ (fun _ => ?_)
theorem laws_FnCRANOrder.mono : ∀ a0 a1 a2 k, LeO (laws_FnCRANOrder.f k a0 a1 a2) (laws_FnCRANOrder.f (k + 1) a0 a1 a2) := by
  intro a0 a1 a2 k
  obtain ⟨ih0, ih1, ih2⟩ := laws_FnCRANOrder.mono_l k
  unfold laws_FnCRANOrder.f
  repeat' first
      | (with_reducible exact ih0 _ _ _ _)
      | (with_reducible exact ih1 _ _ _ _)
      | (with_reducible exact ih2 _ _ _ _ _ _ _)
      | (with_reducible exact laws_chained.mono _ _ _ _)
      | (with_reducible exact laws_plain.mono _ _ _)
      | (with_reducible exact laws_short.mono _ _)
      | (with_reducible exact LeO.refl _)
      | (with_reducible exact LeO.none _)
      | (with_reducible refine LeO.ite ?_ ?_)
      | (with_reducible refine LeO.bind ?_ (fun _ => ?_))
      | exact ih0 _ _ _ _
      | exact ih1 _ _ _ _
      | exact ih2 _ _ _ _ _ _ _
      | exact laws_chained.mono _ _ _ _
      | exact laws_plain.mono _ _ _
      | exact laws_short.mono _ _
      | exact LeO.none _
      | refine LeO.ite ?_ ?_
      | refine LeO.bind ?_ (fun _ => ?_)
set_option maxHeartbeats 8000000 in
set_option maxRecDepth 100000 in
theorem laws_FnCRANOrder.calls (k : Nat) (a0 : ByteArray) (a1 : ByteArray) (a2 : ByteArray) (r : Bool) (w : World) (hG : GW w) (h : laws_FnCRANOrder.f k a0 a1 a2 = some r) :
    Calls Tryd.prog 6 #[.string a0, .string a1, .string a2] w fun e w' => e = .returned (.bool r) ∧ Below w.heap.size w w' := by
  have HG := Aside0.mk hG
  clear hG
  have HB := Aside0.mk (Below.refl w.heap.size w)
  have H : (if (a0.size : Int) > 2147483647 then (laws_FnCRANOrder.j0 k a0 a1 a2 true) else (if (a1.size : Int) > 2147483647 then (laws_FnCRANOrder.j0 k a0 a1 a2 true) else (laws_FnCRANOrder.j0 k a0 a1 a2 (decide ((a2.size : Int) > 2147483647))))) = some r := h
  clear h
  have HC4 := Aside0.mk H
  clear H
  go_enter Tryd.func6, Tryd.ntmps6
  go_upto_region 1 with (fail)
  go_cut [25] (fun v25 wc => ∃ (kq : Nat) (x25_3 : Bool), v25 = .bool x25_3 ∧ Aside0 (laws_FnCRANOrder.j0 kq a0 a1 a2 x25_3 = some r) ∧ Aside0 (kq ≤ k) ∧ Aside0 (Below w.heap.size w wc))
  case first =>
    have H := HC4.out
    clear HC4
    by_cases c5 : (a0.size : Int) > 2147483647
    · rw [if_pos c5] at H
      have c5b0 : decide (2147483647 < (a0.size : Int)) = true := decide_eq_true c5
      have c5b1 : decide (2147483647 < a0.size) = true := decide_eq_true (by omega)
      clear c5
      (first | rw [c5b0] | (simp only [i64_w, i32_w]; rw [c5b0]) | skip)
      have H' := Aside0.mk H
      clear H
      go_wp2
      go_meet
      case rel => exact ⟨_, (true), (by first | rfl | (simp; done) | (simp [*]; done)), H', ⟨by first | omega | exact Nat.le_refl _⟩, ⟨by repeat (first | (with_reducible first | exact HB.out | apply below_alloc | apply pw_below_drewN | apply below_drew1) | exact HB.out)⟩⟩
    · rw [if_neg c5] at H
      have c5b0 : decide (2147483647 < (a0.size : Int)) = false := decide_eq_false c5
      have c5b1 : decide (2147483647 < a0.size) = false := decide_eq_false (by omega)
      clear c5
      (first | rw [c5b0] | (simp only [i64_w, i32_w]; rw [c5b0]) | skip)
      by_cases c6 : (a1.size : Int) > 2147483647
      · rw [if_pos c6] at H
        have c6b0 : decide (2147483647 < (a1.size : Int)) = true := decide_eq_true c6
        have c6b1 : decide (2147483647 < a1.size) = true := decide_eq_true (by omega)
        clear c6
        have H' := Aside0.mk H
        clear H
        go_wp2
        go_meet
        case rel => exact ⟨_, (true), (by first | rfl | (simp; done) | (simp [*]; done)), H', ⟨by first | omega | exact Nat.le_refl _⟩, ⟨by repeat (first | (with_reducible first | exact HB.out | apply below_alloc | apply pw_below_drewN | apply below_drew1) | exact HB.out)⟩⟩
      · rw [if_neg c6] at H
        have c6b0 : decide (2147483647 < (a1.size : Int)) = false := decide_eq_false c6
        have c6b1 : decide (2147483647 < a1.size) = false := decide_eq_false (by omega)
        clear c6
        have H' := Aside0.mk H
        clear H
        go_wp2
        go_meet
        case rel => exact ⟨_, (decide ((a2.size : Int) > 2147483647)), (by first | rfl | (simp; done) | (simp [*]; done)), H', ⟨by first | omega | exact Nat.le_refl _⟩, ⟨by repeat (first | (with_reducible first | exact HB.out | apply below_alloc | apply pw_below_drewN | apply below_drew1) | exact HB.out)⟩⟩
  case rest =>
    clear HC4
    try clear p2
    try clear c5
    try clear c5b0
    try clear c5b1
    try clear c6
    try clear c6b0
    try clear c6b1
    obtain ⟨kq, x25_3, rfl, HA, HJ3, HB⟩ := hcut
    cases kq with
    | zero => exact absurd HA.out (by simp [laws_FnCRANOrder.j0])
    | succ kj3 =>
      have H := HA.out
      clear HA
      simp only [laws_FnCRANOrder.j0] at H
      by_cases c7 : x25_3 = true
      · subst c7
        have H1 : (some true) = some r := by rw [if_pos rfl] at H; exact H
        clear H
        have H := H1
        clear H1
        obtain rfl := Option.some.inj H
        go_wp2
        go_ret
        exact ⟨by first | rfl | (simp [errW_none, errW_some] <;> rfl) | (simp [*, errW_none, errW_some] <;> rfl), by repeat (first | (with_reducible first | exact HB.out | apply below_alloc | apply pw_below_drewN | apply below_drew1) | exact HB.out)⟩
      · replace c7 := Bool.eq_false_iff.mpr c7
        subst c7
        have H1 : ((laws_short.f kj3 (([a0, a1, a2] : List ByteArray))).bind fun t180 => (if t180 = true then ((laws_plain.f kj3 a0 (⟨#[46, 45]⟩ : ByteArray)).bind fun t181 => (if t181 = true then ((laws_plain.f kj3 a1 (⟨#[46, 45]⟩ : ByteArray)).bind fun t182 => (if t182 = true then ((laws_plain.f kj3 a2 (⟨#[46, 45]⟩ : ByteArray)).bind fun t183 => (laws_FnCRANOrder.j1 kj3 a0 a1 a2 (!t183))) else (laws_FnCRANOrder.j1 kj3 a0 a1 a2 true))) else (laws_FnCRANOrder.j1 kj3 a0 a1 a2 true))) else (laws_FnCRANOrder.j1 kj3 a0 a1 a2 true))) = some r := by rw [if_neg (show ¬ (false = true) by decide)] at H; exact H
        clear H
        have H := H1
        clear H1
        have HC8 := Aside0.mk H
        clear H
        go_upto_region 3 with (fail)
        go_cut [46] (fun v46 wc => ∃ (kq : Nat) (x46_7 : Bool), v46 = .bool x46_7 ∧ Aside0 (laws_FnCRANOrder.j1 kq a0 a1 a2 x46_7 = some r) ∧ Aside0 (kq ≤ kj3) ∧ Aside0 (Below w.heap.size w wc))
        case first =>
          have H := HC8.out
          clear HC8
          obtain ⟨y177, hy177⟩ : ∃ y_ : List ByteArray, y_ = (([a0, a1, a2] : List ByteArray)) := ⟨_, rfl⟩
          replace H : ((laws_short.f kj3 y177).bind fun t180 => (if t180 = true then ((laws_plain.f kj3 a0 (⟨#[46, 45]⟩ : ByteArray)).bind fun t181 => (if t181 = true then ((laws_plain.f kj3 a1 (⟨#[46, 45]⟩ : ByteArray)).bind fun t182 => (if t182 = true then ((laws_plain.f kj3 a2 (⟨#[46, 45]⟩ : ByteArray)).bind fun t183 => (laws_FnCRANOrder.j1 kj3 a0 a1 a2 (!t183))) else (laws_FnCRANOrder.j1 kj3 a0 a1 a2 true))) else (laws_FnCRANOrder.j1 kj3 a0 a1 a2 true))) else (laws_FnCRANOrder.j1 kj3 a0 a1 a2 true))) = some r := by first | (rw [hy177]; with_reducible exact H) | (have H2_ := (Option.bind_some _ _).symm.trans H; rw [hy177]; with_reducible exact H2_) | (have H2_ := (Option.bind_some _ _).symm.trans H; with_reducible exact H2_) | with_reducible exact H | (rw [hy177]; exact H) | exact H
          have Ny177 := Aside0.mk hy177
          clear hy177
          replace H := Option.bind_eq_some_iff.mp H
          obtain ⟨t180, A90, H⟩ := H
          replace H : (if t180 = true then ((laws_plain.f kj3 a0 (⟨#[46, 45]⟩ : ByteArray)).bind fun t181 => (if t181 = true then ((laws_plain.f kj3 a1 (⟨#[46, 45]⟩ : ByteArray)).bind fun t182 => (if t182 = true then ((laws_plain.f kj3 a2 (⟨#[46, 45]⟩ : ByteArray)).bind fun t183 => (laws_FnCRANOrder.j1 kj3 a0 a1 a2 (!t183))) else (laws_FnCRANOrder.j1 kj3 a0 a1 a2 true))) else (laws_FnCRANOrder.j1 kj3 a0 a1 a2 true))) else (laws_FnCRANOrder.j1 kj3 a0 a1 a2 true)) = some r := H
          have A9 := Aside0.mk A90
          clear A90
          by_cases c10 : t180 = true
          · subst c10
            have H1 : ((laws_plain.f kj3 a0 (⟨#[46, 45]⟩ : ByteArray)).bind fun t181 => (if t181 = true then ((laws_plain.f kj3 a1 (⟨#[46, 45]⟩ : ByteArray)).bind fun t182 => (if t182 = true then ((laws_plain.f kj3 a2 (⟨#[46, 45]⟩ : ByteArray)).bind fun t183 => (laws_FnCRANOrder.j1 kj3 a0 a1 a2 (!t183))) else (laws_FnCRANOrder.j1 kj3 a0 a1 a2 true))) else (laws_FnCRANOrder.j1 kj3 a0 a1 a2 true))) = some r := by rw [if_pos rfl] at H; exact H
            clear H
            have H := H1
            clear H1
            replace H := Option.bind_eq_some_iff.mp H
            obtain ⟨t181, A110, H⟩ := H
            replace H : (if t181 = true then ((laws_plain.f kj3 a1 (⟨#[46, 45]⟩ : ByteArray)).bind fun t182 => (if t182 = true then ((laws_plain.f kj3 a2 (⟨#[46, 45]⟩ : ByteArray)).bind fun t183 => (laws_FnCRANOrder.j1 kj3 a0 a1 a2 (!t183))) else (laws_FnCRANOrder.j1 kj3 a0 a1 a2 true))) else (laws_FnCRANOrder.j1 kj3 a0 a1 a2 true)) = some r := H
            have A11 := Aside0.mk A110
            clear A110
            by_cases c12 : t181 = true
            · subst c12
              have H1 : ((laws_plain.f kj3 a1 (⟨#[46, 45]⟩ : ByteArray)).bind fun t182 => (if t182 = true then ((laws_plain.f kj3 a2 (⟨#[46, 45]⟩ : ByteArray)).bind fun t183 => (laws_FnCRANOrder.j1 kj3 a0 a1 a2 (!t183))) else (laws_FnCRANOrder.j1 kj3 a0 a1 a2 true))) = some r := by rw [if_pos rfl] at H; exact H
              clear H
              have H := H1
              clear H1
              replace H := Option.bind_eq_some_iff.mp H
              obtain ⟨t182, A130, H⟩ := H
              replace H : (if t182 = true then ((laws_plain.f kj3 a2 (⟨#[46, 45]⟩ : ByteArray)).bind fun t183 => (laws_FnCRANOrder.j1 kj3 a0 a1 a2 (!t183))) else (laws_FnCRANOrder.j1 kj3 a0 a1 a2 true)) = some r := H
              have A13 := Aside0.mk A130
              clear A130
              by_cases c14 : t182 = true
              · subst c14
                have H1 : ((laws_plain.f kj3 a2 (⟨#[46, 45]⟩ : ByteArray)).bind fun t183 => (laws_FnCRANOrder.j1 kj3 a0 a1 a2 (!t183))) = some r := by rw [if_pos rfl] at H; exact H
                clear H
                have H := H1
                clear H1
                replace H := Option.bind_eq_some_iff.mp H
                obtain ⟨t183, A150, H⟩ := H
                replace H : (laws_FnCRANOrder.j1 kj3 a0 a1 a2 (!t183)) = some r := H
                have A15 := Aside0.mk A150
                clear A150
                have H' := Aside0.mk H
                clear H
                go_wp2_with (first | ((with_reducible refine gate_dst (N := 29) rfl ?_); (try (refine gate_guard (by rfl) ?_; dsimp only)); refine Kd.R_lit Kd.string _ 9 ?hg (N := 29) ?hd (xs := ([a0, a1, a2] : List ByteArray)) (inner := [.string a0, .string a1, .string a2]) (ok := fun _ => True) (okp := fun _ => True) ?hr ?hp (fun _ hk => hk) trivial (Below.refl _ _) (Nat.le_refl _) (by simp) ?_; (case hd => rfl); (case hg => rfl); (case hr => first | (go_simp; done) | (go_simp; rfl)); (case hp => exact (Reps.one (show Kd.M Kd.string _ _ _ a0 [.string a0] from rfl) (Reps.one (show Kd.M Kd.string _ _ _ a1 [.string a1] from rfl) (Reps.one (show Kd.M Kd.string _ _ _ a2 [.string a2] from rfl) (Reps.none _ _))))); intro v178 w16 ho17 hb hg_ hnew_; clear hg_ hnew_; (first | rw [← Ny177.out] at ho17 | (simp only [Int.reduceToNat] at ho17; rw [← Ny177.out] at ho17)); have n0_ := Aside0.mk (Kd.R_lower ho17 (below_size (by repeat (first | (with_reducible first | exact HB.out | apply below_alloc | apply pw_below_drewN | apply below_drew1) | exact HB.out)))); have n1_ := Aside0.mk (below_step (by repeat (first | (with_reducible first | exact HB.out | apply below_alloc | apply pw_below_drewN | apply below_drew1) | exact HB.out)) hb); clear HB; have HO179 := n0_; have HB := n1_; clear n0_ n1_; clear hb ho17; obtain ⟨Ao18, co18, eo18⟩ := Kd.R_slice HO179.out; subst eo18) | ((with_reducible refine gate_callee (f := 11) rfl ?_); refine goesL_ (some 30) rfl rfl Tryd.func11 (by kernel_rfl) rfl #[.slice Ao18 y177.length co18] rfl (by (try simp only [List.map_toArray, List.map_cons, List.map_nil]); first | done | rfl | (simp only [List.length_drop, List.length_take]; rfl)) ?_; (with_reducible refine (laws_short.calls kj3 _ _ y177 true _ ?side1 ?side2 A9.out).mono ?_); (case side1 => repeat (first | exact (Kd.R_reads' HO179.out).2.2 | (with_reducible refine Kd.C_alloc ?_ _) | (with_reducible refine Kd.C_drewN ?_ _) | (with_reducible refine Kd.C_drew ?_))); (case side2 => exact (Kd.R_reads' HO179.out).2.1); rintro e w' ⟨rfl, ⟨nd, rfl⟩⟩; refine ⟨_, rfl, ?_⟩) | (go_at_call 19; (with_reducible refine (laws_plain.calls kj3 a0 (⟨#[46, 45]⟩ : ByteArray) true _ A11.out).mono ?_); rintro e w' ⟨rfl, ⟨nd, rfl⟩⟩) | (go_at_call 19; (with_reducible refine (laws_plain.calls kj3 a1 (⟨#[46, 45]⟩ : ByteArray) true _ A13.out).mono ?_); rintro e w' ⟨rfl, ⟨nd, rfl⟩⟩) | (go_at_call 19; (with_reducible refine (laws_plain.calls kj3 a2 (⟨#[46, 45]⟩ : ByteArray) t183 _ A15.out).mono ?_); rintro e w' ⟨rfl, ⟨nd, rfl⟩⟩))
                go_meet
                case rel => exact ⟨_, (!t183), (by first | rfl | (simp; done) | (simp [*]; done)), H', ⟨by have := HJ3.out; first | omega | exact Nat.le_refl _⟩, ⟨by repeat (first | (with_reducible first | exact HB.out | apply below_alloc | apply pw_below_drewN | apply below_drew1) | exact HB.out)⟩⟩
              · replace c14 := Bool.eq_false_iff.mpr c14
                subst c14
                have H1 : (laws_FnCRANOrder.j1 kj3 a0 a1 a2 true) = some r := by rw [if_neg (show ¬ (false = true) by decide)] at H; exact H
                clear H
                have H := H1
                clear H1
                have H' := Aside0.mk H
                clear H
                go_wp2_with (first | ((with_reducible refine gate_dst (N := 29) rfl ?_); (try (refine gate_guard (by rfl) ?_; dsimp only)); refine Kd.R_lit Kd.string _ 9 ?hg (N := 29) ?hd (xs := ([a0, a1, a2] : List ByteArray)) (inner := [.string a0, .string a1, .string a2]) (ok := fun _ => True) (okp := fun _ => True) ?hr ?hp (fun _ hk => hk) trivial (Below.refl _ _) (Nat.le_refl _) (by simp) ?_; (case hd => rfl); (case hg => rfl); (case hr => first | (go_simp; done) | (go_simp; rfl)); (case hp => exact (Reps.one (show Kd.M Kd.string _ _ _ a0 [.string a0] from rfl) (Reps.one (show Kd.M Kd.string _ _ _ a1 [.string a1] from rfl) (Reps.one (show Kd.M Kd.string _ _ _ a2 [.string a2] from rfl) (Reps.none _ _))))); intro v178 w19 ho20 hb hg_ hnew_; clear hg_ hnew_; (first | rw [← Ny177.out] at ho20 | (simp only [Int.reduceToNat] at ho20; rw [← Ny177.out] at ho20)); have n0_ := Aside0.mk (Kd.R_lower ho20 (below_size (by repeat (first | (with_reducible first | exact HB.out | apply below_alloc | apply pw_below_drewN | apply below_drew1) | exact HB.out)))); have n1_ := Aside0.mk (below_step (by repeat (first | (with_reducible first | exact HB.out | apply below_alloc | apply pw_below_drewN | apply below_drew1) | exact HB.out)) hb); clear HB; have HO179 := n0_; have HB := n1_; clear n0_ n1_; clear hb ho20; obtain ⟨Ao21, co21, eo21⟩ := Kd.R_slice HO179.out; subst eo21) | ((with_reducible refine gate_callee (f := 11) rfl ?_); refine goesL_ (some 30) rfl rfl Tryd.func11 (by kernel_rfl) rfl #[.slice Ao21 y177.length co21] rfl (by (try simp only [List.map_toArray, List.map_cons, List.map_nil]); first | done | rfl | (simp only [List.length_drop, List.length_take]; rfl)) ?_; (with_reducible refine (laws_short.calls kj3 _ _ y177 true _ ?side1 ?side2 A9.out).mono ?_); (case side1 => repeat (first | exact (Kd.R_reads' HO179.out).2.2 | (with_reducible refine Kd.C_alloc ?_ _) | (with_reducible refine Kd.C_drewN ?_ _) | (with_reducible refine Kd.C_drew ?_))); (case side2 => exact (Kd.R_reads' HO179.out).2.1); rintro e w' ⟨rfl, ⟨nd, rfl⟩⟩; refine ⟨_, rfl, ?_⟩) | (go_at_call 19; (with_reducible refine (laws_plain.calls kj3 a0 (⟨#[46, 45]⟩ : ByteArray) true _ A11.out).mono ?_); rintro e w' ⟨rfl, ⟨nd, rfl⟩⟩) | (go_at_call 19; (with_reducible refine (laws_plain.calls kj3 a1 (⟨#[46, 45]⟩ : ByteArray) false _ A13.out).mono ?_); rintro e w' ⟨rfl, ⟨nd, rfl⟩⟩))
                go_meet
                case rel => exact ⟨_, (true), (by first | rfl | (simp; done) | (simp [*]; done)), H', ⟨by have := HJ3.out; first | omega | exact Nat.le_refl _⟩, ⟨by repeat (first | (with_reducible first | exact HB.out | apply below_alloc | apply pw_below_drewN | apply below_drew1) | exact HB.out)⟩⟩
            · replace c12 := Bool.eq_false_iff.mpr c12
              subst c12
              have H1 : (laws_FnCRANOrder.j1 kj3 a0 a1 a2 true) = some r := by rw [if_neg (show ¬ (false = true) by decide)] at H; exact H
              clear H
              have H := H1
              clear H1
              have H' := Aside0.mk H
              clear H
              go_wp2_with (first | ((with_reducible refine gate_dst (N := 29) rfl ?_); (try (refine gate_guard (by rfl) ?_; dsimp only)); refine Kd.R_lit Kd.string _ 9 ?hg (N := 29) ?hd (xs := ([a0, a1, a2] : List ByteArray)) (inner := [.string a0, .string a1, .string a2]) (ok := fun _ => True) (okp := fun _ => True) ?hr ?hp (fun _ hk => hk) trivial (Below.refl _ _) (Nat.le_refl _) (by simp) ?_; (case hd => rfl); (case hg => rfl); (case hr => first | (go_simp; done) | (go_simp; rfl)); (case hp => exact (Reps.one (show Kd.M Kd.string _ _ _ a0 [.string a0] from rfl) (Reps.one (show Kd.M Kd.string _ _ _ a1 [.string a1] from rfl) (Reps.one (show Kd.M Kd.string _ _ _ a2 [.string a2] from rfl) (Reps.none _ _))))); intro v178 w22 ho23 hb hg_ hnew_; clear hg_ hnew_; (first | rw [← Ny177.out] at ho23 | (simp only [Int.reduceToNat] at ho23; rw [← Ny177.out] at ho23)); have n0_ := Aside0.mk (Kd.R_lower ho23 (below_size (by repeat (first | (with_reducible first | exact HB.out | apply below_alloc | apply pw_below_drewN | apply below_drew1) | exact HB.out)))); have n1_ := Aside0.mk (below_step (by repeat (first | (with_reducible first | exact HB.out | apply below_alloc | apply pw_below_drewN | apply below_drew1) | exact HB.out)) hb); clear HB; have HO179 := n0_; have HB := n1_; clear n0_ n1_; clear hb ho23; obtain ⟨Ao24, co24, eo24⟩ := Kd.R_slice HO179.out; subst eo24) | ((with_reducible refine gate_callee (f := 11) rfl ?_); refine goesL_ (some 30) rfl rfl Tryd.func11 (by kernel_rfl) rfl #[.slice Ao24 y177.length co24] rfl (by (try simp only [List.map_toArray, List.map_cons, List.map_nil]); first | done | rfl | (simp only [List.length_drop, List.length_take]; rfl)) ?_; (with_reducible refine (laws_short.calls kj3 _ _ y177 true _ ?side1 ?side2 A9.out).mono ?_); (case side1 => repeat (first | exact (Kd.R_reads' HO179.out).2.2 | (with_reducible refine Kd.C_alloc ?_ _) | (with_reducible refine Kd.C_drewN ?_ _) | (with_reducible refine Kd.C_drew ?_))); (case side2 => exact (Kd.R_reads' HO179.out).2.1); rintro e w' ⟨rfl, ⟨nd, rfl⟩⟩; refine ⟨_, rfl, ?_⟩) | (go_at_call 19; (with_reducible refine (laws_plain.calls kj3 a0 (⟨#[46, 45]⟩ : ByteArray) false _ A11.out).mono ?_); rintro e w' ⟨rfl, ⟨nd, rfl⟩⟩))
              go_meet
              case rel => exact ⟨_, (true), (by first | rfl | (simp; done) | (simp [*]; done)), H', ⟨by have := HJ3.out; first | omega | exact Nat.le_refl _⟩, ⟨by repeat (first | (with_reducible first | exact HB.out | apply below_alloc | apply pw_below_drewN | apply below_drew1) | exact HB.out)⟩⟩
          · replace c10 := Bool.eq_false_iff.mpr c10
            subst c10
            have H1 : (laws_FnCRANOrder.j1 kj3 a0 a1 a2 true) = some r := by rw [if_neg (show ¬ (false = true) by decide)] at H; exact H
            clear H
            have H := H1
            clear H1
            have H' := Aside0.mk H
            clear H
            go_wp2_with (first | ((with_reducible refine gate_dst (N := 29) rfl ?_); (try (refine gate_guard (by rfl) ?_; dsimp only)); refine Kd.R_lit Kd.string _ 9 ?hg (N := 29) ?hd (xs := ([a0, a1, a2] : List ByteArray)) (inner := [.string a0, .string a1, .string a2]) (ok := fun _ => True) (okp := fun _ => True) ?hr ?hp (fun _ hk => hk) trivial (Below.refl _ _) (Nat.le_refl _) (by simp) ?_; (case hd => rfl); (case hg => rfl); (case hr => first | (go_simp; done) | (go_simp; rfl)); (case hp => exact (Reps.one (show Kd.M Kd.string _ _ _ a0 [.string a0] from rfl) (Reps.one (show Kd.M Kd.string _ _ _ a1 [.string a1] from rfl) (Reps.one (show Kd.M Kd.string _ _ _ a2 [.string a2] from rfl) (Reps.none _ _))))); intro v178 w25 ho26 hb hg_ hnew_; clear hg_ hnew_; (first | rw [← Ny177.out] at ho26 | (simp only [Int.reduceToNat] at ho26; rw [← Ny177.out] at ho26)); have n0_ := Aside0.mk (Kd.R_lower ho26 (below_size (by repeat (first | (with_reducible first | exact HB.out | apply below_alloc | apply pw_below_drewN | apply below_drew1) | exact HB.out)))); have n1_ := Aside0.mk (below_step (by repeat (first | (with_reducible first | exact HB.out | apply below_alloc | apply pw_below_drewN | apply below_drew1) | exact HB.out)) hb); clear HB; have HO179 := n0_; have HB := n1_; clear n0_ n1_; clear hb ho26; obtain ⟨Ao27, co27, eo27⟩ := Kd.R_slice HO179.out; subst eo27) | ((with_reducible refine gate_callee (f := 11) rfl ?_); refine goesL_ (some 30) rfl rfl Tryd.func11 (by kernel_rfl) rfl #[.slice Ao27 y177.length co27] rfl (by (try simp only [List.map_toArray, List.map_cons, List.map_nil]); first | done | rfl | (simp only [List.length_drop, List.length_take]; rfl)) ?_; (with_reducible refine (laws_short.calls kj3 _ _ y177 false _ ?side1 ?side2 A9.out).mono ?_); (case side1 => repeat (first | exact (Kd.R_reads' HO179.out).2.2 | (with_reducible refine Kd.C_alloc ?_ _) | (with_reducible refine Kd.C_drewN ?_ _) | (with_reducible refine Kd.C_drew ?_))); (case side2 => exact (Kd.R_reads' HO179.out).2.1); rintro e w' ⟨rfl, ⟨nd, rfl⟩⟩; refine ⟨_, rfl, ?_⟩))
            go_meet
            case rel => exact ⟨_, (true), (by first | rfl | (simp; done) | (simp [*]; done)), H', ⟨by have := HJ3.out; first | omega | exact Nat.le_refl _⟩, ⟨by repeat (first | (with_reducible first | exact HB.out | apply below_alloc | apply pw_below_drewN | apply below_drew1) | exact HB.out)⟩⟩
        case rest =>
          clear HC8
          try clear c1
          try clear p2
          try clear c5
          try clear c5b0
          try clear c5b1
          try clear c6
          try clear c6b0
          try clear c6b1
          try clear c7
          try clear c10
          try clear c11
          try clear c12
          try clear c14
          try clear p2
          obtain ⟨kq, x46_7, rfl, HA, HJ7, HB⟩ := hcut
          cases kq with
          | zero => exact absurd HA.out (by simp [laws_FnCRANOrder.j1])
          | succ kj7 =>
            have H := HA.out
            clear HA
            simp only [laws_FnCRANOrder.j1] at H
            by_cases c28 : x46_7 = true
            · subst c28
              have H1 : (some true) = some r := by rw [if_pos rfl] at H; exact H
              clear H
              have H := H1
              clear H1
              obtain rfl := Option.some.inj H
              go_wp2
              go_ret
              exact ⟨by first | rfl | (simp [errW_none, errW_some] <;> rfl) | (simp [*, errW_none, errW_some] <;> rfl), by repeat (first | (with_reducible first | exact HB.out | apply below_alloc | apply pw_below_drewN | apply below_drew1) | exact HB.out)⟩
            · replace c28 := Bool.eq_false_iff.mpr c28
              subst c28
              have H1 : ((impl_CRANCompare.f a0 a1).bind fun bt184 => ((impl_CRANCompare.f a1 a2).bind fun bt186 => ((impl_CRANCompare.f a0 a2).bind fun bt188 => (if bt184.2 = true then (if bt186.2 = true then (laws_FnCRANOrder.j2 kj7 bt184.1 bt184.2 bt186.1 bt186.2 bt188.1 bt188.2 (!bt188.2)) else (laws_FnCRANOrder.j2 kj7 bt184.1 bt184.2 bt186.1 bt186.2 bt188.1 bt188.2 true)) else (laws_FnCRANOrder.j2 kj7 bt184.1 bt184.2 bt186.1 bt186.2 bt188.1 bt188.2 true))))) = some r := by rw [if_neg (show ¬ (false = true) by decide)] at H; exact H
              clear H
              have H := H1
              clear H1
              replace H := Option.bind_eq_some_iff.mp H
              obtain ⟨⟨t184, t185⟩, A290, H⟩ := H
              replace H : ((impl_CRANCompare.f a1 a2).bind fun bt186 => ((impl_CRANCompare.f a0 a2).bind fun bt188 => (if t185 = true then (if bt186.2 = true then (laws_FnCRANOrder.j2 kj7 t184 t185 bt186.1 bt186.2 bt188.1 bt188.2 (!bt188.2)) else (laws_FnCRANOrder.j2 kj7 t184 t185 bt186.1 bt186.2 bt188.1 bt188.2 true)) else (laws_FnCRANOrder.j2 kj7 t184 t185 bt186.1 bt186.2 bt188.1 bt188.2 true)))) = some r := H
              have A29 := Aside0.mk A290
              clear A290
              replace H := Option.bind_eq_some_iff.mp H
              obtain ⟨⟨t186, t187⟩, A300, H⟩ := H
              replace H : ((impl_CRANCompare.f a0 a2).bind fun bt188 => (if t185 = true then (if t187 = true then (laws_FnCRANOrder.j2 kj7 t184 t185 t186 t187 bt188.1 bt188.2 (!bt188.2)) else (laws_FnCRANOrder.j2 kj7 t184 t185 t186 t187 bt188.1 bt188.2 true)) else (laws_FnCRANOrder.j2 kj7 t184 t185 t186 t187 bt188.1 bt188.2 true))) = some r := H
              have A30 := Aside0.mk A300
              clear A300
              replace H := Option.bind_eq_some_iff.mp H
              obtain ⟨⟨t188, t189⟩, A310, H⟩ := H
              replace H : (if t185 = true then (if t187 = true then (laws_FnCRANOrder.j2 kj7 t184 t185 t186 t187 t188 t189 (!t189)) else (laws_FnCRANOrder.j2 kj7 t184 t185 t186 t187 t188 t189 true)) else (laws_FnCRANOrder.j2 kj7 t184 t185 t186 t187 t188 t189 true)) = some r := H
              have A31 := Aside0.mk A310
              clear A310
              have HC32 := Aside0.mk H
              clear H
              go_upto_region 8 with (first | ((with_reducible refine gate_callee (f := 17) rfl ?_); refine goesL_ (some 50) rfl rfl Tryd.func17 (by kernel_rfl) rfl #[.string a0, .string a1] rfl (by (try simp only [List.map_toArray, List.map_cons, List.map_nil]); first | done | rfl | (simp only [List.length_drop, List.length_take]; rfl)) ?_; (with_reducible refine (impl_CRANCompare.calls a0 a1 t184 t185 _ ?side1 A29.out).mono ?_); (case side1 => first | exact HG.out | exact GW.below HG.out (by repeat (first | (with_reducible first | exact HB.out | exact Below.refl _ _ | apply below_alloc | apply pw_below_drewN | apply below_drew1 | apply below_drew | refine below_set ?_ (Aside0.out (by assumption))) | exact HB.out))); rintro e w33 ⟨rfl, hb⟩; refine ⟨_, rfl, ?_⟩; have n0_ := Aside0.mk (below_step (by repeat (first | (with_reducible first | exact HB.out | apply below_alloc | apply pw_below_drewN | apply below_drew1) | exact HB.out)) hb); clear HB; have HB := n0_; clear n0_; (try clear hb); (try clear hb2); (try clear hk); (try clear hi)) | ((with_reducible refine gate_callee (f := 17) rfl ?_); refine goesL_ (some 56) rfl rfl Tryd.func17 (by kernel_rfl) rfl #[.string a1, .string a2] rfl (by (try simp only [List.map_toArray, List.map_cons, List.map_nil]); first | done | rfl | (simp only [List.length_drop, List.length_take]; rfl)) ?_; (with_reducible refine (impl_CRANCompare.calls a1 a2 t186 t187 _ ?side1 A30.out).mono ?_); (case side1 => first | exact HG.out | exact GW.below HG.out (by repeat (first | (with_reducible first | exact HB.out | exact Below.refl _ _ | apply below_alloc | apply pw_below_drewN | apply below_drew1 | apply below_drew | refine below_set ?_ (Aside0.out (by assumption))) | exact HB.out))); rintro e w34 ⟨rfl, hb⟩; refine ⟨_, rfl, ?_⟩; have n0_ := Aside0.mk (below_step (by repeat (first | (with_reducible first | exact HB.out | apply below_alloc | apply pw_below_drewN | apply below_drew1) | exact HB.out)) hb); clear HB; have HB := n0_; clear n0_; (try clear hb); (try clear hb2); (try clear hk); (try clear hi)) | ((with_reducible refine gate_callee (f := 17) rfl ?_); refine goesL_ (some 62) rfl rfl Tryd.func17 (by kernel_rfl) rfl #[.string a0, .string a2] rfl (by (try simp only [List.map_toArray, List.map_cons, List.map_nil]); first | done | rfl | (simp only [List.length_drop, List.length_take]; rfl)) ?_; (with_reducible refine (impl_CRANCompare.calls a0 a2 t188 t189 _ ?side1 A31.out).mono ?_); (case side1 => first | exact HG.out | exact GW.below HG.out (by repeat (first | (with_reducible first | exact HB.out | exact Below.refl _ _ | apply below_alloc | apply pw_below_drewN | apply below_drew1 | apply below_drew | refine below_set ?_ (Aside0.out (by assumption))) | exact HB.out))); rintro e w35 ⟨rfl, hb⟩; refine ⟨_, rfl, ?_⟩; have n0_ := Aside0.mk (below_step (by repeat (first | (with_reducible first | exact HB.out | apply below_alloc | apply pw_below_drewN | apply below_drew1) | exact HB.out)) hb); clear HB; have HB := n0_; clear n0_; (try clear hb); (try clear hb2); (try clear hk); (try clear hi)))
              (try simp only [Act.put, List.setIfInBounds_toArray, List.set_cons_zero, List.set_cons_succ])
              go_cut [74] (fun v74 wc => ∃ (kq : Nat) (x74_31 : Bool), v74 = .bool x74_31 ∧ Aside0 (laws_FnCRANOrder.j2 kq t184 t185 t186 t187 t188 t189 x74_31 = some r) ∧ Aside0 (kq ≤ kj7) ∧ Aside0 (Below w.heap.size w wc))
              case first =>
                have H := HC32.out
                clear HC32
                by_cases c36 : t185 = true
                · subst c36
                  have H1 : (if t187 = true then (laws_FnCRANOrder.j2 kj7 t184 true t186 t187 t188 t189 (!t189)) else (laws_FnCRANOrder.j2 kj7 t184 true t186 t187 t188 t189 true)) = some r := by rw [if_pos rfl] at H; exact H
                  clear H
                  have H := H1
                  clear H1
                  by_cases c37 : t187 = true
                  · subst c37
                    have H1 : (laws_FnCRANOrder.j2 kj7 t184 true t186 true t188 t189 (!t189)) = some r := by rw [if_pos rfl] at H; exact H
                    clear H
                    have H := H1
                    clear H1
                    have H' := Aside0.mk H
                    clear H
                    go_wp2
                    go_meet
                    case rel => exact ⟨_, (!t189), (by first | rfl | (simp; done) | (simp [*]; done)), H', ⟨by have := HJ3.out; have := HJ7.out; first | omega | exact Nat.le_refl _⟩, ⟨by repeat (first | (with_reducible first | exact HB.out | apply below_alloc | apply pw_below_drewN | apply below_drew1) | exact HB.out)⟩⟩
                  · replace c37 := Bool.eq_false_iff.mpr c37
                    subst c37
                    have H1 : (laws_FnCRANOrder.j2 kj7 t184 true t186 false t188 t189 true) = some r := by rw [if_neg (show ¬ (false = true) by decide)] at H; exact H
                    clear H
                    have H := H1
                    clear H1
                    have H' := Aside0.mk H
                    clear H
                    go_wp2
                    go_meet
                    case rel => exact ⟨_, (true), (by first | rfl | (simp; done) | (simp [*]; done)), H', ⟨by have := HJ3.out; have := HJ7.out; first | omega | exact Nat.le_refl _⟩, ⟨by repeat (first | (with_reducible first | exact HB.out | apply below_alloc | apply pw_below_drewN | apply below_drew1) | exact HB.out)⟩⟩
                · replace c36 := Bool.eq_false_iff.mpr c36
                  subst c36
                  have H1 : (laws_FnCRANOrder.j2 kj7 t184 false t186 t187 t188 t189 true) = some r := by rw [if_neg (show ¬ (false = true) by decide)] at H; exact H
                  clear H
                  have H := H1
                  clear H1
                  have H' := Aside0.mk H
                  clear H
                  go_wp2
                  go_meet
                  case rel => exact ⟨_, (true), (by first | rfl | (simp; done) | (simp [*]; done)), H', ⟨by have := HJ3.out; have := HJ7.out; first | omega | exact Nat.le_refl _⟩, ⟨by repeat (first | (with_reducible first | exact HB.out | apply below_alloc | apply pw_below_drewN | apply below_drew1) | exact HB.out)⟩⟩
              case rest =>
                clear HC32
                try clear c1
                try clear c2
                try clear p2
                try clear c3
                try clear c5
                try clear c5b0
                try clear c5b1
                try clear c6
                try clear c6b0
                try clear c6b1
                try clear c7
                try clear c10
                try clear c11
                try clear c12
                try clear c14
                try clear c17
                try clear c28
                try clear c36
                try clear c37
                try clear p2
                obtain ⟨kq, x74_31, rfl, HA, HJ31, HB⟩ := hcut
                cases kq with
                | zero => exact absurd HA.out (by simp [laws_FnCRANOrder.j2])
                | succ kj31 =>
                  have H := HA.out
                  clear HA
                  simp only [laws_FnCRANOrder.j2] at H
                  by_cases c38 : x74_31 = true
                  · subst c38
                    have H1 : ((laws_cranAwake.f).bind fun t190 => (if t190 = true then (if t185 = true then (if t187 = true then (if t189 = true then (some false) else (some (t188 == 0))) else (if t186 = 0 then (some true) else (if t189 = true then (some false) else (some (t188 == 0))))) else (if t184 = 0 then (some true) else (if t187 = true then (if t189 = true then (some false) else (some (t188 == 0))) else (if t186 = 0 then (some true) else (if t189 = true then (some false) else (some (t188 == 0))))))) else (some false))) = some r := by rw [if_pos rfl] at H; exact H
                    clear H
                    have H := H1
                    clear H1
                    replace H := Option.bind_eq_some_iff.mp H
                    obtain ⟨t190, A390, H⟩ := H
                    replace H : (if t190 = true then (if t185 = true then (if t187 = true then (if t189 = true then (some false) else (some (t188 == 0))) else (if t186 = 0 then (some true) else (if t189 = true then (some false) else (some (t188 == 0))))) else (if t184 = 0 then (some true) else (if t187 = true then (if t189 = true then (some false) else (some (t188 == 0))) else (if t186 = 0 then (some true) else (if t189 = true then (some false) else (some (t188 == 0))))))) else (some false)) = some r := H
                    have A39 := Aside0.mk A390
                    clear A390
                    by_cases c40 : t190 = true
                    · subst c40
                      have H1 : (if t185 = true then (if t187 = true then (if t189 = true then (some false) else (some (t188 == 0))) else (if t186 = 0 then (some true) else (if t189 = true then (some false) else (some (t188 == 0))))) else (if t184 = 0 then (some true) else (if t187 = true then (if t189 = true then (some false) else (some (t188 == 0))) else (if t186 = 0 then (some true) else (if t189 = true then (some false) else (some (t188 == 0))))))) = some r := by rw [if_pos rfl] at H; exact H
                      clear H
                      have H := H1
                      clear H1
                      by_cases c41 : t185 = true
                      · subst c41
                        have H1 : (if t187 = true then (if t189 = true then (some false) else (some (t188 == 0))) else (if t186 = 0 then (some true) else (if t189 = true then (some false) else (some (t188 == 0))))) = some r := by rw [if_pos rfl] at H; exact H
                        clear H
                        have H := H1
                        clear H1
                        by_cases c42 : t187 = true
                        · subst c42
                          have H1 : (if t189 = true then (some false) else (some (t188 == 0))) = some r := by rw [if_pos rfl] at H; exact H
                          clear H
                          have H := H1
                          clear H1
                          by_cases c43 : t189 = true
                          · subst c43
                            have H1 : (some false) = some r := by rw [if_pos rfl] at H; exact H
                            clear H
                            have H := H1
                            clear H1
                            obtain rfl := Option.some.inj H
                            go_wp2_with (first | ((with_reducible refine gate_callee (f := 20) rfl ?_); refine goesL_ (some 75) rfl rfl Tryd.func20 (by kernel_rfl) rfl #[] rfl (by (try simp only [List.map_toArray, List.map_cons, List.map_nil]); first | done | rfl | (simp only [List.length_drop, List.length_take]; rfl)) ?_; (with_reducible refine (laws_cranAwake.calls  true _ ?side1 A39.out).mono ?_); (case side1 => first | exact HG.out | exact GW.below HG.out (by repeat (first | (with_reducible first | exact HB.out | exact Below.refl _ _ | apply below_alloc | apply pw_below_drewN | apply below_drew1 | apply below_drew | refine below_set ?_ (Aside0.out (by assumption))) | exact HB.out))); rintro e w44 ⟨rfl, hb⟩; refine ⟨_, rfl, ?_⟩; have n0_ := Aside0.mk (below_step (by repeat (first | (with_reducible first | exact HB.out | apply below_alloc | apply pw_below_drewN | apply below_drew1) | exact HB.out)) hb); clear HB; have HB := n0_; clear n0_; (try clear hb); (try clear hb2); (try clear hk); (try clear hi)))
                            go_ret
                            exact ⟨by first | rfl | (simp [errW_none, errW_some] <;> rfl) | (simp [*, errW_none, errW_some] <;> rfl), by repeat (first | (with_reducible first | exact HB.out | apply below_alloc | apply pw_below_drewN | apply below_drew1) | exact HB.out)⟩
                          · replace c43 := Bool.eq_false_iff.mpr c43
                            subst c43
                            have H1 : (some (t188 == 0)) = some r := by rw [if_neg (show ¬ (false = true) by decide)] at H; exact H
                            clear H
                            have H := H1
                            clear H1
                            obtain rfl := Option.some.inj H
                            go_wp2_with (first | ((with_reducible refine gate_callee (f := 20) rfl ?_); refine goesL_ (some 75) rfl rfl Tryd.func20 (by kernel_rfl) rfl #[] rfl (by (try simp only [List.map_toArray, List.map_cons, List.map_nil]); first | done | rfl | (simp only [List.length_drop, List.length_take]; rfl)) ?_; (with_reducible refine (laws_cranAwake.calls  true _ ?side1 A39.out).mono ?_); (case side1 => first | exact HG.out | exact GW.below HG.out (by repeat (first | (with_reducible first | exact HB.out | exact Below.refl _ _ | apply below_alloc | apply pw_below_drewN | apply below_drew1 | apply below_drew | refine below_set ?_ (Aside0.out (by assumption))) | exact HB.out))); rintro e w45 ⟨rfl, hb⟩; refine ⟨_, rfl, ?_⟩; have n0_ := Aside0.mk (below_step (by repeat (first | (with_reducible first | exact HB.out | apply below_alloc | apply pw_below_drewN | apply below_drew1) | exact HB.out)) hb); clear HB; have HB := n0_; clear n0_; (try clear hb); (try clear hb2); (try clear hk); (try clear hi)))
                            go_ret
                            exact ⟨by first | rfl | (simp [errW_none, errW_some] <;> rfl) | (simp [*, errW_none, errW_some] <;> rfl), by repeat (first | (with_reducible first | exact HB.out | apply below_alloc | apply pw_below_drewN | apply below_drew1) | exact HB.out)⟩
                        · replace c42 := Bool.eq_false_iff.mpr c42
                          subst c42
                          have H1 : (if t186 = 0 then (some true) else (if t189 = true then (some false) else (some (t188 == 0)))) = some r := by rw [if_neg (show ¬ (false = true) by decide)] at H; exact H
                          clear H
                          have H := H1
                          clear H1
                          by_cases c46 : t186 = 0
                          · rw [if_pos c46] at H
                            have c46b0 : (t186 == 0) = true := beq_iff_eq.mpr c46
                            have c46b1 : (t186 != 0) = false := bne_eq_false_iff_eq.mpr c46
                            clear c46
                            obtain rfl := Option.some.inj H
                            go_wp2_with (first | ((with_reducible refine gate_callee (f := 20) rfl ?_); refine goesL_ (some 75) rfl rfl Tryd.func20 (by kernel_rfl) rfl #[] rfl (by (try simp only [List.map_toArray, List.map_cons, List.map_nil]); first | done | rfl | (simp only [List.length_drop, List.length_take]; rfl)) ?_; (with_reducible refine (laws_cranAwake.calls  true _ ?side1 A39.out).mono ?_); (case side1 => first | exact HG.out | exact GW.below HG.out (by repeat (first | (with_reducible first | exact HB.out | exact Below.refl _ _ | apply below_alloc | apply pw_below_drewN | apply below_drew1 | apply below_drew | refine below_set ?_ (Aside0.out (by assumption))) | exact HB.out))); rintro e w47 ⟨rfl, hb⟩; refine ⟨_, rfl, ?_⟩; have n0_ := Aside0.mk (below_step (by repeat (first | (with_reducible first | exact HB.out | apply below_alloc | apply pw_below_drewN | apply below_drew1) | exact HB.out)) hb); clear HB; have HB := n0_; clear n0_; (try clear hb); (try clear hb2); (try clear hk); (try clear hi)))
                            go_ret
                            exact ⟨by first | rfl | (simp [errW_none, errW_some] <;> rfl) | (simp [*, errW_none, errW_some] <;> rfl), by repeat (first | (with_reducible first | exact HB.out | apply below_alloc | apply pw_below_drewN | apply below_drew1) | exact HB.out)⟩
                          · rw [if_neg c46] at H
                            have c46b0 : (t186 == 0) = false := beq_eq_false_iff_ne.mpr c46
                            have c46b1 : (t186 != 0) = true := bne_iff_ne.mpr c46
                            by_cases c48 : t189 = true
                            · subst c48
                              have H1 : (some false) = some r := by rw [if_pos rfl] at H; exact H
                              clear H
                              have H := H1
                              clear H1
                              obtain rfl := Option.some.inj H
                              go_wp2_with (first | ((with_reducible refine gate_callee (f := 20) rfl ?_); refine goesL_ (some 75) rfl rfl Tryd.func20 (by kernel_rfl) rfl #[] rfl (by (try simp only [List.map_toArray, List.map_cons, List.map_nil]); first | done | rfl | (simp only [List.length_drop, List.length_take]; rfl)) ?_; (with_reducible refine (laws_cranAwake.calls  true _ ?side1 A39.out).mono ?_); (case side1 => first | exact HG.out | exact GW.below HG.out (by repeat (first | (with_reducible first | exact HB.out | exact Below.refl _ _ | apply below_alloc | apply pw_below_drewN | apply below_drew1 | apply below_drew | refine below_set ?_ (Aside0.out (by assumption))) | exact HB.out))); rintro e w49 ⟨rfl, hb⟩; refine ⟨_, rfl, ?_⟩; have n0_ := Aside0.mk (below_step (by repeat (first | (with_reducible first | exact HB.out | apply below_alloc | apply pw_below_drewN | apply below_drew1) | exact HB.out)) hb); clear HB; have HB := n0_; clear n0_; (try clear hb); (try clear hb2); (try clear hk); (try clear hi)))
                              go_ret
                              exact ⟨by first | rfl | (simp [errW_none, errW_some] <;> rfl) | (simp [*, errW_none, errW_some] <;> rfl), by repeat (first | (with_reducible first | exact HB.out | apply below_alloc | apply pw_below_drewN | apply below_drew1) | exact HB.out)⟩
                            · replace c48 := Bool.eq_false_iff.mpr c48
                              subst c48
                              have H1 : (some (t188 == 0)) = some r := by rw [if_neg (show ¬ (false = true) by decide)] at H; exact H
                              clear H
                              have H := H1
                              clear H1
                              obtain rfl := Option.some.inj H
                              go_wp2_with (first | ((with_reducible refine gate_callee (f := 20) rfl ?_); refine goesL_ (some 75) rfl rfl Tryd.func20 (by kernel_rfl) rfl #[] rfl (by (try simp only [List.map_toArray, List.map_cons, List.map_nil]); first | done | rfl | (simp only [List.length_drop, List.length_take]; rfl)) ?_; (with_reducible refine (laws_cranAwake.calls  true _ ?side1 A39.out).mono ?_); (case side1 => first | exact HG.out | exact GW.below HG.out (by repeat (first | (with_reducible first | exact HB.out | exact Below.refl _ _ | apply below_alloc | apply pw_below_drewN | apply below_drew1 | apply below_drew | refine below_set ?_ (Aside0.out (by assumption))) | exact HB.out))); rintro e w50 ⟨rfl, hb⟩; refine ⟨_, rfl, ?_⟩; have n0_ := Aside0.mk (below_step (by repeat (first | (with_reducible first | exact HB.out | apply below_alloc | apply pw_below_drewN | apply below_drew1) | exact HB.out)) hb); clear HB; have HB := n0_; clear n0_; (try clear hb); (try clear hb2); (try clear hk); (try clear hi)))
                              go_ret
                              exact ⟨by first | rfl | (simp [errW_none, errW_some] <;> rfl) | (simp [*, errW_none, errW_some] <;> rfl), by repeat (first | (with_reducible first | exact HB.out | apply below_alloc | apply pw_below_drewN | apply below_drew1) | exact HB.out)⟩
                      · replace c41 := Bool.eq_false_iff.mpr c41
                        subst c41
                        have H1 : (if t184 = 0 then (some true) else (if t187 = true then (if t189 = true then (some false) else (some (t188 == 0))) else (if t186 = 0 then (some true) else (if t189 = true then (some false) else (some (t188 == 0)))))) = some r := by rw [if_neg (show ¬ (false = true) by decide)] at H; exact H
                        clear H
                        have H := H1
                        clear H1
                        by_cases c51 : t184 = 0
                        · rw [if_pos c51] at H
                          have c51b0 : (t184 == 0) = true := beq_iff_eq.mpr c51
                          have c51b1 : (t184 != 0) = false := bne_eq_false_iff_eq.mpr c51
                          clear c51
                          obtain rfl := Option.some.inj H
                          go_wp2_with (first | ((with_reducible refine gate_callee (f := 20) rfl ?_); refine goesL_ (some 75) rfl rfl Tryd.func20 (by kernel_rfl) rfl #[] rfl (by (try simp only [List.map_toArray, List.map_cons, List.map_nil]); first | done | rfl | (simp only [List.length_drop, List.length_take]; rfl)) ?_; (with_reducible refine (laws_cranAwake.calls  true _ ?side1 A39.out).mono ?_); (case side1 => first | exact HG.out | exact GW.below HG.out (by repeat (first | (with_reducible first | exact HB.out | exact Below.refl _ _ | apply below_alloc | apply pw_below_drewN | apply below_drew1 | apply below_drew | refine below_set ?_ (Aside0.out (by assumption))) | exact HB.out))); rintro e w52 ⟨rfl, hb⟩; refine ⟨_, rfl, ?_⟩; have n0_ := Aside0.mk (below_step (by repeat (first | (with_reducible first | exact HB.out | apply below_alloc | apply pw_below_drewN | apply below_drew1) | exact HB.out)) hb); clear HB; have HB := n0_; clear n0_; (try clear hb); (try clear hb2); (try clear hk); (try clear hi)))
                          go_ret
                          exact ⟨by first | rfl | (simp [errW_none, errW_some] <;> rfl) | (simp [*, errW_none, errW_some] <;> rfl), by repeat (first | (with_reducible first | exact HB.out | apply below_alloc | apply pw_below_drewN | apply below_drew1) | exact HB.out)⟩
                        · rw [if_neg c51] at H
                          have c51b0 : (t184 == 0) = false := beq_eq_false_iff_ne.mpr c51
                          have c51b1 : (t184 != 0) = true := bne_iff_ne.mpr c51
                          by_cases c53 : t187 = true
                          · subst c53
                            have H1 : (if t189 = true then (some false) else (some (t188 == 0))) = some r := by rw [if_pos rfl] at H; exact H
                            clear H
                            have H := H1
                            clear H1
                            by_cases c54 : t189 = true
                            · subst c54
                              have H1 : (some false) = some r := by rw [if_pos rfl] at H; exact H
                              clear H
                              have H := H1
                              clear H1
                              obtain rfl := Option.some.inj H
                              go_wp2_with (first | ((with_reducible refine gate_callee (f := 20) rfl ?_); refine goesL_ (some 75) rfl rfl Tryd.func20 (by kernel_rfl) rfl #[] rfl (by (try simp only [List.map_toArray, List.map_cons, List.map_nil]); first | done | rfl | (simp only [List.length_drop, List.length_take]; rfl)) ?_; (with_reducible refine (laws_cranAwake.calls  true _ ?side1 A39.out).mono ?_); (case side1 => first | exact HG.out | exact GW.below HG.out (by repeat (first | (with_reducible first | exact HB.out | exact Below.refl _ _ | apply below_alloc | apply pw_below_drewN | apply below_drew1 | apply below_drew | refine below_set ?_ (Aside0.out (by assumption))) | exact HB.out))); rintro e w55 ⟨rfl, hb⟩; refine ⟨_, rfl, ?_⟩; have n0_ := Aside0.mk (below_step (by repeat (first | (with_reducible first | exact HB.out | apply below_alloc | apply pw_below_drewN | apply below_drew1) | exact HB.out)) hb); clear HB; have HB := n0_; clear n0_; (try clear hb); (try clear hb2); (try clear hk); (try clear hi)))
                              go_ret
                              exact ⟨by first | rfl | (simp [errW_none, errW_some] <;> rfl) | (simp [*, errW_none, errW_some] <;> rfl), by repeat (first | (with_reducible first | exact HB.out | apply below_alloc | apply pw_below_drewN | apply below_drew1) | exact HB.out)⟩
                            · replace c54 := Bool.eq_false_iff.mpr c54
                              subst c54
                              have H1 : (some (t188 == 0)) = some r := by rw [if_neg (show ¬ (false = true) by decide)] at H; exact H
                              clear H
                              have H := H1
                              clear H1
                              obtain rfl := Option.some.inj H
                              go_wp2_with (first | ((with_reducible refine gate_callee (f := 20) rfl ?_); refine goesL_ (some 75) rfl rfl Tryd.func20 (by kernel_rfl) rfl #[] rfl (by (try simp only [List.map_toArray, List.map_cons, List.map_nil]); first | done | rfl | (simp only [List.length_drop, List.length_take]; rfl)) ?_; (with_reducible refine (laws_cranAwake.calls  true _ ?side1 A39.out).mono ?_); (case side1 => first | exact HG.out | exact GW.below HG.out (by repeat (first | (with_reducible first | exact HB.out | exact Below.refl _ _ | apply below_alloc | apply pw_below_drewN | apply below_drew1 | apply below_drew | refine below_set ?_ (Aside0.out (by assumption))) | exact HB.out))); rintro e w56 ⟨rfl, hb⟩; refine ⟨_, rfl, ?_⟩; have n0_ := Aside0.mk (below_step (by repeat (first | (with_reducible first | exact HB.out | apply below_alloc | apply pw_below_drewN | apply below_drew1) | exact HB.out)) hb); clear HB; have HB := n0_; clear n0_; (try clear hb); (try clear hb2); (try clear hk); (try clear hi)))
                              go_ret
                              exact ⟨by first | rfl | (simp [errW_none, errW_some] <;> rfl) | (simp [*, errW_none, errW_some] <;> rfl), by repeat (first | (with_reducible first | exact HB.out | apply below_alloc | apply pw_below_drewN | apply below_drew1) | exact HB.out)⟩
                          · replace c53 := Bool.eq_false_iff.mpr c53
                            subst c53
                            have H1 : (if t186 = 0 then (some true) else (if t189 = true then (some false) else (some (t188 == 0)))) = some r := by rw [if_neg (show ¬ (false = true) by decide)] at H; exact H
                            clear H
                            have H := H1
                            clear H1
                            by_cases c57 : t186 = 0
                            · rw [if_pos c57] at H
                              have c57b0 : (t186 == 0) = true := beq_iff_eq.mpr c57
                              have c57b1 : (t186 != 0) = false := bne_eq_false_iff_eq.mpr c57
                              clear c57
                              obtain rfl := Option.some.inj H
                              go_wp2_with (first | ((with_reducible refine gate_callee (f := 20) rfl ?_); refine goesL_ (some 75) rfl rfl Tryd.func20 (by kernel_rfl) rfl #[] rfl (by (try simp only [List.map_toArray, List.map_cons, List.map_nil]); first | done | rfl | (simp only [List.length_drop, List.length_take]; rfl)) ?_; (with_reducible refine (laws_cranAwake.calls  true _ ?side1 A39.out).mono ?_); (case side1 => first | exact HG.out | exact GW.below HG.out (by repeat (first | (with_reducible first | exact HB.out | exact Below.refl _ _ | apply below_alloc | apply pw_below_drewN | apply below_drew1 | apply below_drew | refine below_set ?_ (Aside0.out (by assumption))) | exact HB.out))); rintro e w58 ⟨rfl, hb⟩; refine ⟨_, rfl, ?_⟩; have n0_ := Aside0.mk (below_step (by repeat (first | (with_reducible first | exact HB.out | apply below_alloc | apply pw_below_drewN | apply below_drew1) | exact HB.out)) hb); clear HB; have HB := n0_; clear n0_; (try clear hb); (try clear hb2); (try clear hk); (try clear hi)))
                              go_ret
                              exact ⟨by first | rfl | (simp [errW_none, errW_some] <;> rfl) | (simp [*, errW_none, errW_some] <;> rfl), by repeat (first | (with_reducible first | exact HB.out | apply below_alloc | apply pw_below_drewN | apply below_drew1) | exact HB.out)⟩
                            · rw [if_neg c57] at H
                              have c57b0 : (t186 == 0) = false := beq_eq_false_iff_ne.mpr c57
                              have c57b1 : (t186 != 0) = true := bne_iff_ne.mpr c57
                              by_cases c59 : t189 = true
                              · subst c59
                                have H1 : (some false) = some r := by rw [if_pos rfl] at H; exact H
                                clear H
                                have H := H1
                                clear H1
                                obtain rfl := Option.some.inj H
                                go_wp2_with (first | ((with_reducible refine gate_callee (f := 20) rfl ?_); refine goesL_ (some 75) rfl rfl Tryd.func20 (by kernel_rfl) rfl #[] rfl (by (try simp only [List.map_toArray, List.map_cons, List.map_nil]); first | done | rfl | (simp only [List.length_drop, List.length_take]; rfl)) ?_; (with_reducible refine (laws_cranAwake.calls  true _ ?side1 A39.out).mono ?_); (case side1 => first | exact HG.out | exact GW.below HG.out (by repeat (first | (with_reducible first | exact HB.out | exact Below.refl _ _ | apply below_alloc | apply pw_below_drewN | apply below_drew1 | apply below_drew | refine below_set ?_ (Aside0.out (by assumption))) | exact HB.out))); rintro e w60 ⟨rfl, hb⟩; refine ⟨_, rfl, ?_⟩; have n0_ := Aside0.mk (below_step (by repeat (first | (with_reducible first | exact HB.out | apply below_alloc | apply pw_below_drewN | apply below_drew1) | exact HB.out)) hb); clear HB; have HB := n0_; clear n0_; (try clear hb); (try clear hb2); (try clear hk); (try clear hi)))
                                go_ret
                                exact ⟨by first | rfl | (simp [errW_none, errW_some] <;> rfl) | (simp [*, errW_none, errW_some] <;> rfl), by repeat (first | (with_reducible first | exact HB.out | apply below_alloc | apply pw_below_drewN | apply below_drew1) | exact HB.out)⟩
                              · replace c59 := Bool.eq_false_iff.mpr c59
                                subst c59
                                have H1 : (some (t188 == 0)) = some r := by rw [if_neg (show ¬ (false = true) by decide)] at H; exact H
                                clear H
                                have H := H1
                                clear H1
                                obtain rfl := Option.some.inj H
                                go_wp2_with (first | ((with_reducible refine gate_callee (f := 20) rfl ?_); refine goesL_ (some 75) rfl rfl Tryd.func20 (by kernel_rfl) rfl #[] rfl (by (try simp only [List.map_toArray, List.map_cons, List.map_nil]); first | done | rfl | (simp only [List.length_drop, List.length_take]; rfl)) ?_; (with_reducible refine (laws_cranAwake.calls  true _ ?side1 A39.out).mono ?_); (case side1 => first | exact HG.out | exact GW.below HG.out (by repeat (first | (with_reducible first | exact HB.out | exact Below.refl _ _ | apply below_alloc | apply pw_below_drewN | apply below_drew1 | apply below_drew | refine below_set ?_ (Aside0.out (by assumption))) | exact HB.out))); rintro e w61 ⟨rfl, hb⟩; refine ⟨_, rfl, ?_⟩; have n0_ := Aside0.mk (below_step (by repeat (first | (with_reducible first | exact HB.out | apply below_alloc | apply pw_below_drewN | apply below_drew1) | exact HB.out)) hb); clear HB; have HB := n0_; clear n0_; (try clear hb); (try clear hb2); (try clear hk); (try clear hi)))
                                go_ret
                                exact ⟨by first | rfl | (simp [errW_none, errW_some] <;> rfl) | (simp [*, errW_none, errW_some] <;> rfl), by repeat (first | (with_reducible first | exact HB.out | apply below_alloc | apply pw_below_drewN | apply below_drew1) | exact HB.out)⟩
                    · replace c40 := Bool.eq_false_iff.mpr c40
                      subst c40
                      have H1 : (some false) = some r := by rw [if_neg (show ¬ (false = true) by decide)] at H; exact H
                      clear H
                      have H := H1
                      clear H1
                      obtain rfl := Option.some.inj H
                      go_wp2_with (first | ((with_reducible refine gate_callee (f := 20) rfl ?_); refine goesL_ (some 75) rfl rfl Tryd.func20 (by kernel_rfl) rfl #[] rfl (by (try simp only [List.map_toArray, List.map_cons, List.map_nil]); first | done | rfl | (simp only [List.length_drop, List.length_take]; rfl)) ?_; (with_reducible refine (laws_cranAwake.calls  false _ ?side1 A39.out).mono ?_); (case side1 => first | exact HG.out | exact GW.below HG.out (by repeat (first | (with_reducible first | exact HB.out | exact Below.refl _ _ | apply below_alloc | apply pw_below_drewN | apply below_drew1 | apply below_drew | refine below_set ?_ (Aside0.out (by assumption))) | exact HB.out))); rintro e w62 ⟨rfl, hb⟩; refine ⟨_, rfl, ?_⟩; have n0_ := Aside0.mk (below_step (by repeat (first | (with_reducible first | exact HB.out | apply below_alloc | apply pw_below_drewN | apply below_drew1) | exact HB.out)) hb); clear HB; have HB := n0_; clear n0_; (try clear hb); (try clear hb2); (try clear hk); (try clear hi)))
                      go_ret
                      exact ⟨by first | rfl | (simp [errW_none, errW_some] <;> rfl) | (simp [*, errW_none, errW_some] <;> rfl), by repeat (first | (with_reducible first | exact HB.out | apply below_alloc | apply pw_below_drewN | apply below_drew1) | exact HB.out)⟩
                  · replace c38 := Bool.eq_false_iff.mpr c38
                    subst c38
                    have H1 : ((laws_cranAwake.f).bind fun t191 => (if t191 = true then ((laws_chained.f kj31 t184 t186 t188).bind fun t192 => (some t192)) else (some false))) = some r := by rw [if_neg (show ¬ (false = true) by decide)] at H; exact H
                    clear H
                    have H := H1
                    clear H1
                    replace H := Option.bind_eq_some_iff.mp H
                    obtain ⟨t191, A630, H⟩ := H
                    replace H : (if t191 = true then ((laws_chained.f kj31 t184 t186 t188).bind fun t192 => (some t192)) else (some false)) = some r := H
                    have A63 := Aside0.mk A630
                    clear A630
                    by_cases c64 : t191 = true
                    · subst c64
                      have H1 : ((laws_chained.f kj31 t184 t186 t188).bind fun t192 => (some t192)) = some r := by rw [if_pos rfl] at H; exact H
                      clear H
                      have H := H1
                      clear H1
                      replace H := Option.bind_eq_some_iff.mp H
                      obtain ⟨t192, A650, H⟩ := H
                      replace H : (some t192) = some r := H
                      have A65 := Aside0.mk A650
                      clear A650
                      obtain rfl := Option.some.inj H
                      go_wp2_with (first | ((with_reducible refine gate_callee (f := 20) rfl ?_); refine goesL_ (some 100) rfl rfl Tryd.func20 (by kernel_rfl) rfl #[] rfl (by (try simp only [List.map_toArray, List.map_cons, List.map_nil]); first | done | rfl | (simp only [List.length_drop, List.length_take]; rfl)) ?_; (with_reducible refine (laws_cranAwake.calls  true _ ?side1 A63.out).mono ?_); (case side1 => first | exact HG.out | exact GW.below HG.out (by repeat (first | (with_reducible first | exact HB.out | exact Below.refl _ _ | apply below_alloc | apply pw_below_drewN | apply below_drew1 | apply below_drew | refine below_set ?_ (Aside0.out (by assumption))) | exact HB.out))); rintro e w66 ⟨rfl, hb⟩; refine ⟨_, rfl, ?_⟩; have n0_ := Aside0.mk (below_step (by repeat (first | (with_reducible first | exact HB.out | apply below_alloc | apply pw_below_drewN | apply below_drew1) | exact HB.out)) hb); clear HB; have HB := n0_; clear n0_; (try clear hb); (try clear hb2); (try clear hk); (try clear hi)) | (go_at_call 21; (with_reducible refine (laws_chained.calls kj31 t184 t186 t188 t192 _ A65.out).mono ?_); rintro e w' ⟨rfl, ⟨nd, rfl⟩⟩))
                      go_ret
                      exact ⟨by first | rfl | (simp [errW_none, errW_some] <;> rfl) | (simp [*, errW_none, errW_some] <;> rfl), by repeat (first | (with_reducible first | exact HB.out | apply below_alloc | apply pw_below_drewN | apply below_drew1) | exact HB.out)⟩
                    · replace c64 := Bool.eq_false_iff.mpr c64
                      subst c64
                      have H1 : (some false) = some r := by rw [if_neg (show ¬ (false = true) by decide)] at H; exact H
                      clear H
                      have H := H1
                      clear H1
                      obtain rfl := Option.some.inj H
                      go_wp2_with (first | ((with_reducible refine gate_callee (f := 20) rfl ?_); refine goesL_ (some 100) rfl rfl Tryd.func20 (by kernel_rfl) rfl #[] rfl (by (try simp only [List.map_toArray, List.map_cons, List.map_nil]); first | done | rfl | (simp only [List.length_drop, List.length_take]; rfl)) ?_; (with_reducible refine (laws_cranAwake.calls  false _ ?side1 A63.out).mono ?_); (case side1 => first | exact HG.out | exact GW.below HG.out (by repeat (first | (with_reducible first | exact HB.out | exact Below.refl _ _ | apply below_alloc | apply pw_below_drewN | apply below_drew1 | apply below_drew | refine below_set ?_ (Aside0.out (by assumption))) | exact HB.out))); rintro e w67 ⟨rfl, hb⟩; refine ⟨_, rfl, ?_⟩; have n0_ := Aside0.mk (below_step (by repeat (first | (with_reducible first | exact HB.out | apply below_alloc | apply pw_below_drewN | apply below_drew1) | exact HB.out)) hb); clear HB; have HB := n0_; clear n0_; (try clear hb); (try clear hb2); (try clear hk); (try clear hi)))
                      go_ret
                      exact ⟨by first | rfl | (simp [errW_none, errW_some] <;> rfl) | (simp [*, errW_none, errW_some] <;> rfl), by repeat (first | (with_reducible first | exact HB.out | apply below_alloc | apply pw_below_drewN | apply below_drew1) | exact HB.out)⟩

/-- THE ONE PURE STATEMENT of laws_FnCRANOrder. -/
def laws_FnCRANOrder.Pure : Prop := ∀ (a0 : ByteArray) (a1 : ByteArray) (a2 : ByteArray), a0.size ≤ 140737488351232 → a1.size ≤ 140737488351232 → a2.size ≤ 140737488351232 → ∃ k, laws_FnCRANOrder.f k a0 a1 a2 = some true
theorem laws_FnCRANOrder.walk (P : laws_FnCRANOrder.Pure) (a0 : ByteArray) (a1 : ByteArray) (a2 : ByteArray) (w : World) (hm0 : a0.size ≤ 140737488351232) (hm1 : a1.size ≤ 140737488351232) (hm2 : a2.size ≤ 140737488351232) (hG : GW w) :
    Calls Tryd.prog 6 #[.string a0, .string a1, .string a2] w fun e w' => e = .returned (.bool true) ∧ Below w.heap.size w w' := by
  obtain ⟨k, h⟩ := P a0 a1 a2 hm0 hm1 hm2
  refine (laws_FnCRANOrder.calls k a0 a1 a2 true w hG h).mono ?_
  rintro e w' ⟨rfl, hd⟩
  exact ⟨rfl, hd⟩

end Go.Proofs.YtmhlmkefnmdbcaaDoor.Z
