-- Written by a program of this session (myprint.py).
import Derived.Test.YtmhlmkefnmdbcaaDoorZ0
import Derived.Test.YtmhlmkefnmdbcaaDoorZ2
import Derived.Test.YtmhlmkefnmdbcaaDoorZ8
import Derived.Test.YtmhlmkefnmdbcaaDoorZ14
import Derived.Test.YtmhlmkefnmdbcaaDoorZ15
import Derived.Test.YtmhlmkefnmdbcaaDoorGe
namespace Go.Proofs.YtmhlmkefnmdbcaaDoor.Z
open Go.Proofs.YtmhlmkefnmdbcaaDoor.Gw
open Go.RowKit Go.Proofs.YtmhlmkefnmdbcaaDoorW.PrintWords Go.Proofs.YtmhlmkefnmdbcaaDoorW.PrintLast Go.Proofs.YtmhlmkefnmdbcaaDoorW.PrintMore
attribute [local go_sem high] Go.Proofs.YtmhlmkefnmdbcaaDoor.Ge.gtr_str
attribute [local go_sem] max2_int min2_int max_two min_two max_three min_three max_four min_four   -- for this text's walks alone
set_option linter.unusedVariables false
set_option linter.unusedSimpArgs false

/-! ### laws_FnCRANLonger: function 5 -/
mutual
def laws_FnCRANLonger.j0 : Nat → ByteArray → ByteArray → Bool → Option (Bool)
  | 0, _, _, _ => none
  | k + 1, x0, x1, x18 => if x18 = true then (some true) else ((laws_short.f k (([x0, x1] : List ByteArray))).bind fun t196 => (if t196 = true then ((laws_plain.f k x0 (⟨#[46, 45]⟩ : ByteArray)).bind fun t197 => (if t197 = true then ((laws_plain.f k x1 (⟨#[46, 45]⟩ : ByteArray)).bind fun t198 => (laws_FnCRANLonger.j1 k x0 x1 (!t198))) else (laws_FnCRANLonger.j1 k x0 x1 true))) else (laws_FnCRANLonger.j1 k x0 x1 true)))
def laws_FnCRANLonger.j1 : Nat → ByteArray → ByteArray → Bool → Option (Bool)
  | 0, _, _, _ => none
  | k + 1, x0, x1, x33 => if x33 = true then (some true) else ((impl_CRANParse.f x0).bind fun bt199 => ((impl_CRANParse.f x1).bind fun bt203 => (if bt199.2 = true then (laws_FnCRANLonger.j2 k x0 x1 (!bt203.2)) else (laws_FnCRANLonger.j2 k x0 x1 true))))
def laws_FnCRANLonger.j2 : Nat → ByteArray → ByteArray → Bool → Option (Bool)
  | 0, _, _, _ => none
  | k + 1, x0, x1, x49 => if x49 = true then ((laws_cranAwake.f).bind fun t207 => (some t207)) else (if x0.size + 1 ≤ 9223372036854775807 then (if (x0 ++ (⟨#[46]⟩ : ByteArray)).size + x1.size ≤ 9223372036854775807 then ((impl_CRANCompare.f ((x0 ++ (⟨#[46]⟩ : ByteArray)) ++ x1) x0).bind fun bt208 => (if bt208.2 = true then (some (bt208.1 == 1)) else (some false))) else (none)) else (none))
end
def laws_FnCRANLonger.f (k : Nat) (a0 : ByteArray) (a1 : ByteArray) : Option (Bool) := if (a0.size : Int) > 2147483647 then (laws_FnCRANLonger.j0 k a0 a1 true) else (laws_FnCRANLonger.j0 k a0 a1 (decide ((a1.size : Int) > 2147483647)))
theorem laws_FnCRANLonger.mono_l : ∀ k, (∀ y0 y1 y2, LeO (laws_FnCRANLonger.j0 k y0 y1 y2) (laws_FnCRANLonger.j0 (k + 1) y0 y1 y2)) ∧ (∀ y0 y1 y2, LeO (laws_FnCRANLonger.j1 k y0 y1 y2) (laws_FnCRANLonger.j1 (k + 1) y0 y1 y2)) ∧ (∀ y0 y1 y2, LeO (laws_FnCRANLonger.j2 k y0 y1 y2) (laws_FnCRANLonger.j2 (k + 1) y0 y1 y2))
  | 0 => ⟨fun _ _ _ r h => by simp [laws_FnCRANLonger.j0] at h, fun _ _ _ r h => by simp [laws_FnCRANLonger.j1] at h, fun _ _ _ r h => by simp [laws_FnCRANLonger.j2] at h⟩
  | k + 1 => by
    obtain ⟨ih0, ih1, ih2⟩ := laws_FnCRANLonger.mono_l k
    refine ⟨?_, ?_, ?_⟩
    · intro y0 y1 y2
      unfold laws_FnCRANLonger.j0
      repeat' first
      | (with_reducible exact ih0 _ _ _)
      | (with_reducible exact ih1 _ _ _)
      | (with_reducible exact ih2 _ _ _)
      | (with_reducible exact laws_plain.mono _ _ _)
      | (with_reducible exact laws_short.mono _ _)
      | (with_reducible exact LeO.refl _)
      | (with_reducible exact LeO.none _)
      | (with_reducible refine LeO.ite ?_ ?_)
      | (with_reducible refine LeO.bind ?_ (fun _ => ?_))
      | exact ih0 _ _ _
      | exact ih1 _ _ _
      | exact ih2 _ _ _
      | exact laws_plain.mono _ _ _
      | exact laws_short.mono _ _
      | exact LeO.none _
      | refine LeO.ite ?_ ?_
      | refine LeO.bind ?_ (fun _ => ?_)
    · intro y0 y1 y2
      unfold laws_FnCRANLonger.j1
      repeat' first
      | (with_reducible exact ih0 _ _ _)
      | (with_reducible exact ih1 _ _ _)
      | (with_reducible exact ih2 _ _ _)
      | (with_reducible exact laws_plain.mono _ _ _)
      | (with_reducible exact laws_short.mono _ _)
      | (with_reducible exact LeO.refl _)
      | (with_reducible exact LeO.none _)
      | (with_reducible refine LeO.ite ?_ ?_)
      | (with_reducible refine LeO.bind ?_ (fun _ => ?_))
      | exact ih0 _ _ _
      | exact ih1 _ _ _
      | exact ih2 _ _ _
      | exact laws_plain.mono _ _ _
      | exact laws_short.mono _ _
      | exact LeO.none _
      | refine LeO.ite ?_ ?_
      | refine LeO.bind ?_ (fun _ => ?_)
    · intro y0 y1 y2
      unfold laws_FnCRANLonger.j2
      repeat' first
      | (with_reducible exact ih0 _ _ _)
      | (with_reducible exact ih1 _ _ _)
      | (with_reducible exact ih2 _ _ _)
      | (with_reducible exact laws_plain.mono _ _ _)
      | (with_reducible exact laws_short.mono _ _)
      | (with_reducible exact LeO.refl _)
      | (with_reducible exact LeO.none _)
      | (with_reducible refine LeO.ite ?_ ?_)
      | (with_reducible refine LeO.bind ?_ (fun _ => ?_))
      | exact ih0 _ _ _
      | exact ih1 _ _ _
      | exact ih2 _ _ _
      | exact laws_plain.mono _ _ _
      | exact laws_short.mono _ _
      | exact LeO.none _
      | refine LeO.ite ?_ ?_
      | refine LeO.bind ?_ (fun _ => ?_)
theorem laws_FnCRANLonger.mono : ∀ a0 a1 k, LeO (laws_FnCRANLonger.f k a0 a1) (laws_FnCRANLonger.f (k + 1) a0 a1) := by
  intro a0 a1 k
  obtain ⟨ih0, ih1, ih2⟩ := laws_FnCRANLonger.mono_l k
  unfold laws_FnCRANLonger.f
  repeat' first
      | (with_reducible exact ih0 _ _ _)
      | (with_reducible exact ih1 _ _ _)
      | (with_reducible exact ih2 _ _ _)
      | (with_reducible exact laws_plain.mono _ _ _)
      | (with_reducible exact laws_short.mono _ _)
      | (with_reducible exact LeO.refl _)
      | (with_reducible exact LeO.none _)
      | (with_reducible refine LeO.ite ?_ ?_)
      | (with_reducible refine LeO.bind ?_ (fun _ => ?_))
      | exact ih0 _ _ _
      | exact ih1 _ _ _
      | exact ih2 _ _ _
      | exact laws_plain.mono _ _ _
      | exact laws_short.mono _ _
      | exact LeO.none _
      | refine LeO.ite ?_ ?_
      | refine LeO.bind ?_ (fun _ => ?_)
set_option maxHeartbeats 8000000 in
set_option maxRecDepth 100000 in
theorem laws_FnCRANLonger.calls (k : Nat) (a0 : ByteArray) (a1 : ByteArray) (r : Bool) (w : World) (hG : GW w) (h : laws_FnCRANLonger.f k a0 a1 = some r) :
    Calls Tryd.prog 5 #[.string a0, .string a1] w fun e w' => e = .returned (.bool r) ∧ Below w.heap.size w w' := by
  have HG := Aside0.mk hG
  clear hG
  have HB := Aside0.mk (Below.refl w.heap.size w)
  have H : (if (a0.size : Int) > 2147483647 then (laws_FnCRANLonger.j0 k a0 a1 true) else (laws_FnCRANLonger.j0 k a0 a1 (decide ((a1.size : Int) > 2147483647)))) = some r := h
  clear h
  have HC3 := Aside0.mk H
  clear H
  go_enter Tryd.func5, Tryd.ntmps5
  go_upto_region 1 with (fail)
  go_cut [18] (fun v18 wc => ∃ (kq : Nat) (x18_2 : Bool), v18 = .bool x18_2 ∧ Aside0 (laws_FnCRANLonger.j0 kq a0 a1 x18_2 = some r) ∧ Aside0 (kq ≤ k) ∧ Aside0 (Below w.heap.size w wc))
  case first =>
    have H := HC3.out
    clear HC3
    by_cases c4 : (a0.size : Int) > 2147483647
    · rw [if_pos c4] at H
      have c4b0 : decide (2147483647 < (a0.size : Int)) = true := decide_eq_true c4
      have c4b1 : decide (2147483647 < a0.size) = true := decide_eq_true (by omega)
      clear c4
      (first | rw [c4b0] | (simp only [i64_w, i32_w]; rw [c4b0]) | skip)
      have H' := Aside0.mk H
      clear H
      go_wp2
      go_meet
      case rel => exact ⟨_, (true), (by first | rfl | (simp; done) | (simp [*]; done)), H', ⟨by first | omega | exact Nat.le_refl _⟩, ⟨by repeat (first | (with_reducible first | exact HB.out | apply below_alloc | apply pw_below_drewN | apply below_drew1) | exact HB.out)⟩⟩
    · rw [if_neg c4] at H
      have c4b0 : decide (2147483647 < (a0.size : Int)) = false := decide_eq_false c4
      have c4b1 : decide (2147483647 < a0.size) = false := decide_eq_false (by omega)
      clear c4
      (first | rw [c4b0] | (simp only [i64_w, i32_w]; rw [c4b0]) | skip)
      have H' := Aside0.mk H
      clear H
      go_wp2
      go_meet
      case rel => exact ⟨_, (decide ((a1.size : Int) > 2147483647)), (by first | rfl | (simp; done) | (simp [*]; done)), H', ⟨by first | omega | exact Nat.le_refl _⟩, ⟨by repeat (first | (with_reducible first | exact HB.out | apply below_alloc | apply pw_below_drewN | apply below_drew1) | exact HB.out)⟩⟩
  case rest =>
    clear HC3
    try clear p2
    try clear c4
    try clear c4b0
    try clear c4b1
    obtain ⟨kq, x18_2, rfl, HA, HJ2, HB⟩ := hcut
    cases kq with
    | zero => exact absurd HA.out (by simp [laws_FnCRANLonger.j0])
    | succ kj2 =>
      have H := HA.out
      clear HA
      simp only [laws_FnCRANLonger.j0] at H
      by_cases c5 : x18_2 = true
      · subst c5
        have H1 : (some true) = some r := by rw [if_pos rfl] at H; exact H
        clear H
        have H := H1
        clear H1
        obtain rfl := Option.some.inj H
        go_wp2
        go_ret
        exact ⟨by first | rfl | (simp [errW_none, errW_some] <;> rfl) | (simp [*, errW_none, errW_some] <;> rfl), by repeat (first | (with_reducible first | exact HB.out | apply below_alloc | apply pw_below_drewN | apply below_drew1) | exact HB.out)⟩
      · replace c5 := Bool.eq_false_iff.mpr c5
        subst c5
        have H1 : ((laws_short.f kj2 (([a0, a1] : List ByteArray))).bind fun t196 => (if t196 = true then ((laws_plain.f kj2 a0 (⟨#[46, 45]⟩ : ByteArray)).bind fun t197 => (if t197 = true then ((laws_plain.f kj2 a1 (⟨#[46, 45]⟩ : ByteArray)).bind fun t198 => (laws_FnCRANLonger.j1 kj2 a0 a1 (!t198))) else (laws_FnCRANLonger.j1 kj2 a0 a1 true))) else (laws_FnCRANLonger.j1 kj2 a0 a1 true))) = some r := by rw [if_neg (show ¬ (false = true) by decide)] at H; exact H
        clear H
        have H := H1
        clear H1
        have HC6 := Aside0.mk H
        clear H
        go_upto_region 3 with (fail)
        go_cut [33] (fun v33 wc => ∃ (kq : Nat) (x33_5 : Bool), v33 = .bool x33_5 ∧ Aside0 (laws_FnCRANLonger.j1 kq a0 a1 x33_5 = some r) ∧ Aside0 (kq ≤ kj2) ∧ Aside0 (Below w.heap.size w wc))
        case first =>
          have H := HC6.out
          clear HC6
          obtain ⟨y193, hy193⟩ : ∃ y_ : List ByteArray, y_ = (([a0, a1] : List ByteArray)) := ⟨_, rfl⟩
          replace H : ((laws_short.f kj2 y193).bind fun t196 => (if t196 = true then ((laws_plain.f kj2 a0 (⟨#[46, 45]⟩ : ByteArray)).bind fun t197 => (if t197 = true then ((laws_plain.f kj2 a1 (⟨#[46, 45]⟩ : ByteArray)).bind fun t198 => (laws_FnCRANLonger.j1 kj2 a0 a1 (!t198))) else (laws_FnCRANLonger.j1 kj2 a0 a1 true))) else (laws_FnCRANLonger.j1 kj2 a0 a1 true))) = some r := by first | (rw [hy193]; with_reducible exact H) | (have H2_ := (Option.bind_some _ _).symm.trans H; rw [hy193]; with_reducible exact H2_) | (have H2_ := (Option.bind_some _ _).symm.trans H; with_reducible exact H2_) | with_reducible exact H | (rw [hy193]; exact H) | exact H
          have Ny193 := Aside0.mk hy193
          clear hy193
          replace H := Option.bind_eq_some_iff.mp H
          obtain ⟨t196, A70, H⟩ := H
          replace H : (if t196 = true then ((laws_plain.f kj2 a0 (⟨#[46, 45]⟩ : ByteArray)).bind fun t197 => (if t197 = true then ((laws_plain.f kj2 a1 (⟨#[46, 45]⟩ : ByteArray)).bind fun t198 => (laws_FnCRANLonger.j1 kj2 a0 a1 (!t198))) else (laws_FnCRANLonger.j1 kj2 a0 a1 true))) else (laws_FnCRANLonger.j1 kj2 a0 a1 true)) = some r := H
          have A7 := Aside0.mk A70
          clear A70
          by_cases c8 : t196 = true
          · subst c8
            have H1 : ((laws_plain.f kj2 a0 (⟨#[46, 45]⟩ : ByteArray)).bind fun t197 => (if t197 = true then ((laws_plain.f kj2 a1 (⟨#[46, 45]⟩ : ByteArray)).bind fun t198 => (laws_FnCRANLonger.j1 kj2 a0 a1 (!t198))) else (laws_FnCRANLonger.j1 kj2 a0 a1 true))) = some r := by rw [if_pos rfl] at H; exact H
            clear H
            have H := H1
            clear H1
            replace H := Option.bind_eq_some_iff.mp H
            obtain ⟨t197, A90, H⟩ := H
            replace H : (if t197 = true then ((laws_plain.f kj2 a1 (⟨#[46, 45]⟩ : ByteArray)).bind fun t198 => (laws_FnCRANLonger.j1 kj2 a0 a1 (!t198))) else (laws_FnCRANLonger.j1 kj2 a0 a1 true)) = some r := H
            have A9 := Aside0.mk A90
            clear A90
            by_cases c10 : t197 = true
            · subst c10
              have H1 : ((laws_plain.f kj2 a1 (⟨#[46, 45]⟩ : ByteArray)).bind fun t198 => (laws_FnCRANLonger.j1 kj2 a0 a1 (!t198))) = some r := by rw [if_pos rfl] at H; exact H
              clear H
              have H := H1
              clear H1
              replace H := Option.bind_eq_some_iff.mp H
              obtain ⟨t198, A110, H⟩ := H
              replace H : (laws_FnCRANLonger.j1 kj2 a0 a1 (!t198)) = some r := H
              have A11 := Aside0.mk A110
              clear A110
              have H' := Aside0.mk H
              clear H
              go_wp2_with (first | ((with_reducible refine gate_dst (N := 21) rfl ?_); (try (refine gate_guard (by rfl) ?_; dsimp only)); refine Kd.R_lit Kd.string _ 9 ?hg (N := 21) ?hd (xs := ([a0, a1] : List ByteArray)) (inner := [.string a0, .string a1]) (ok := fun _ => True) (okp := fun _ => True) ?hr ?hp (fun _ hk => hk) trivial (Below.refl _ _) (Nat.le_refl _) (by simp) ?_; (case hd => rfl); (case hg => rfl); (case hr => first | (go_simp; done) | (go_simp; rfl)); (case hp => exact (Reps.one (show Kd.M Kd.string _ _ _ a0 [.string a0] from rfl) (Reps.one (show Kd.M Kd.string _ _ _ a1 [.string a1] from rfl) (Reps.none _ _)))); intro v194 w12 ho13 hb hg_ hnew_; clear hg_ hnew_; (first | rw [← Ny193.out] at ho13 | (simp only [Int.reduceToNat] at ho13; rw [← Ny193.out] at ho13)); have n0_ := Aside0.mk (Kd.R_lower ho13 (below_size (by repeat (first | (with_reducible first | exact HB.out | apply below_alloc | apply pw_below_drewN | apply below_drew1) | exact HB.out)))); have n1_ := Aside0.mk (below_step (by repeat (first | (with_reducible first | exact HB.out | apply below_alloc | apply pw_below_drewN | apply below_drew1) | exact HB.out)) hb); clear HB; have HO195 := n0_; have HB := n1_; clear n0_ n1_; clear hb ho13; obtain ⟨Ao14, co14, eo14⟩ := Kd.R_slice HO195.out; subst eo14) | ((with_reducible refine gate_callee (f := 11) rfl ?_); refine goesL_ (some 22) rfl rfl Tryd.func11 (by kernel_rfl) rfl #[.slice Ao14 y193.length co14] rfl (by (try simp only [List.map_toArray, List.map_cons, List.map_nil]); first | done | rfl | (simp only [List.length_drop, List.length_take]; rfl)) ?_; (with_reducible refine (laws_short.calls kj2 _ _ y193 true _ ?side1 ?side2 A7.out).mono ?_); (case side1 => repeat (first | exact (Kd.R_reads' HO195.out).2.2 | (with_reducible refine Kd.C_alloc ?_ _) | (with_reducible refine Kd.C_drewN ?_ _) | (with_reducible refine Kd.C_drew ?_))); (case side2 => exact (Kd.R_reads' HO195.out).2.1); rintro e w' ⟨rfl, ⟨nd, rfl⟩⟩; refine ⟨_, rfl, ?_⟩) | (go_at_call 19; (with_reducible refine (laws_plain.calls kj2 a0 (⟨#[46, 45]⟩ : ByteArray) true _ A9.out).mono ?_); rintro e w' ⟨rfl, ⟨nd, rfl⟩⟩) | (go_at_call 19; (with_reducible refine (laws_plain.calls kj2 a1 (⟨#[46, 45]⟩ : ByteArray) t198 _ A11.out).mono ?_); rintro e w' ⟨rfl, ⟨nd, rfl⟩⟩))
              go_meet
              case rel => exact ⟨_, (!t198), (by first | rfl | (simp; done) | (simp [*]; done)), H', ⟨by have := HJ2.out; first | omega | exact Nat.le_refl _⟩, ⟨by repeat (first | (with_reducible first | exact HB.out | apply below_alloc | apply pw_below_drewN | apply below_drew1) | exact HB.out)⟩⟩
            · replace c10 := Bool.eq_false_iff.mpr c10
              subst c10
              have H1 : (laws_FnCRANLonger.j1 kj2 a0 a1 true) = some r := by rw [if_neg (show ¬ (false = true) by decide)] at H; exact H
              clear H
              have H := H1
              clear H1
              have H' := Aside0.mk H
              clear H
              go_wp2_with (first | ((with_reducible refine gate_dst (N := 21) rfl ?_); (try (refine gate_guard (by rfl) ?_; dsimp only)); refine Kd.R_lit Kd.string _ 9 ?hg (N := 21) ?hd (xs := ([a0, a1] : List ByteArray)) (inner := [.string a0, .string a1]) (ok := fun _ => True) (okp := fun _ => True) ?hr ?hp (fun _ hk => hk) trivial (Below.refl _ _) (Nat.le_refl _) (by simp) ?_; (case hd => rfl); (case hg => rfl); (case hr => first | (go_simp; done) | (go_simp; rfl)); (case hp => exact (Reps.one (show Kd.M Kd.string _ _ _ a0 [.string a0] from rfl) (Reps.one (show Kd.M Kd.string _ _ _ a1 [.string a1] from rfl) (Reps.none _ _)))); intro v194 w15 ho16 hb hg_ hnew_; clear hg_ hnew_; (first | rw [← Ny193.out] at ho16 | (simp only [Int.reduceToNat] at ho16; rw [← Ny193.out] at ho16)); have n0_ := Aside0.mk (Kd.R_lower ho16 (below_size (by repeat (first | (with_reducible first | exact HB.out | apply below_alloc | apply pw_below_drewN | apply below_drew1) | exact HB.out)))); have n1_ := Aside0.mk (below_step (by repeat (first | (with_reducible first | exact HB.out | apply below_alloc | apply pw_below_drewN | apply below_drew1) | exact HB.out)) hb); clear HB; have HO195 := n0_; have HB := n1_; clear n0_ n1_; clear hb ho16; obtain ⟨Ao17, co17, eo17⟩ := Kd.R_slice HO195.out; subst eo17) | ((with_reducible refine gate_callee (f := 11) rfl ?_); refine goesL_ (some 22) rfl rfl Tryd.func11 (by kernel_rfl) rfl #[.slice Ao17 y193.length co17] rfl (by (try simp only [List.map_toArray, List.map_cons, List.map_nil]); first | done | rfl | (simp only [List.length_drop, List.length_take]; rfl)) ?_; (with_reducible refine (laws_short.calls kj2 _ _ y193 true _ ?side1 ?side2 A7.out).mono ?_); (case side1 => repeat (first | exact (Kd.R_reads' HO195.out).2.2 | (with_reducible refine Kd.C_alloc ?_ _) | (with_reducible refine Kd.C_drewN ?_ _) | (with_reducible refine Kd.C_drew ?_))); (case side2 => exact (Kd.R_reads' HO195.out).2.1); rintro e w' ⟨rfl, ⟨nd, rfl⟩⟩; refine ⟨_, rfl, ?_⟩) | (go_at_call 19; (with_reducible refine (laws_plain.calls kj2 a0 (⟨#[46, 45]⟩ : ByteArray) false _ A9.out).mono ?_); rintro e w' ⟨rfl, ⟨nd, rfl⟩⟩))
              go_meet
              case rel => exact ⟨_, (true), (by first | rfl | (simp; done) | (simp [*]; done)), H', ⟨by have := HJ2.out; first | omega | exact Nat.le_refl _⟩, ⟨by repeat (first | (with_reducible first | exact HB.out | apply below_alloc | apply pw_below_drewN | apply below_drew1) | exact HB.out)⟩⟩
          · replace c8 := Bool.eq_false_iff.mpr c8
            subst c8
            have H1 : (laws_FnCRANLonger.j1 kj2 a0 a1 true) = some r := by rw [if_neg (show ¬ (false = true) by decide)] at H; exact H
            clear H
            have H := H1
            clear H1
            have H' := Aside0.mk H
            clear H
            go_wp2_with (first | ((with_reducible refine gate_dst (N := 21) rfl ?_); (try (refine gate_guard (by rfl) ?_; dsimp only)); refine Kd.R_lit Kd.string _ 9 ?hg (N := 21) ?hd (xs := ([a0, a1] : List ByteArray)) (inner := [.string a0, .string a1]) (ok := fun _ => True) (okp := fun _ => True) ?hr ?hp (fun _ hk => hk) trivial (Below.refl _ _) (Nat.le_refl _) (by simp) ?_; (case hd => rfl); (case hg => rfl); (case hr => first | (go_simp; done) | (go_simp; rfl)); (case hp => exact (Reps.one (show Kd.M Kd.string _ _ _ a0 [.string a0] from rfl) (Reps.one (show Kd.M Kd.string _ _ _ a1 [.string a1] from rfl) (Reps.none _ _)))); intro v194 w18 ho19 hb hg_ hnew_; clear hg_ hnew_; (first | rw [← Ny193.out] at ho19 | (simp only [Int.reduceToNat] at ho19; rw [← Ny193.out] at ho19)); have n0_ := Aside0.mk (Kd.R_lower ho19 (below_size (by repeat (first | (with_reducible first | exact HB.out | apply below_alloc | apply pw_below_drewN | apply below_drew1) | exact HB.out)))); have n1_ := Aside0.mk (below_step (by repeat (first | (with_reducible first | exact HB.out | apply below_alloc | apply pw_below_drewN | apply below_drew1) | exact HB.out)) hb); clear HB; have HO195 := n0_; have HB := n1_; clear n0_ n1_; clear hb ho19; obtain ⟨Ao20, co20, eo20⟩ := Kd.R_slice HO195.out; subst eo20) | ((with_reducible refine gate_callee (f := 11) rfl ?_); refine goesL_ (some 22) rfl rfl Tryd.func11 (by kernel_rfl) rfl #[.slice Ao20 y193.length co20] rfl (by (try simp only [List.map_toArray, List.map_cons, List.map_nil]); first | done | rfl | (simp only [List.length_drop, List.length_take]; rfl)) ?_; (with_reducible refine (laws_short.calls kj2 _ _ y193 false _ ?side1 ?side2 A7.out).mono ?_); (case side1 => repeat (first | exact (Kd.R_reads' HO195.out).2.2 | (with_reducible refine Kd.C_alloc ?_ _) | (with_reducible refine Kd.C_drewN ?_ _) | (with_reducible refine Kd.C_drew ?_))); (case side2 => exact (Kd.R_reads' HO195.out).2.1); rintro e w' ⟨rfl, ⟨nd, rfl⟩⟩; refine ⟨_, rfl, ?_⟩))
            go_meet
            case rel => exact ⟨_, (true), (by first | rfl | (simp; done) | (simp [*]; done)), H', ⟨by have := HJ2.out; first | omega | exact Nat.le_refl _⟩, ⟨by repeat (first | (with_reducible first | exact HB.out | apply below_alloc | apply pw_below_drewN | apply below_drew1) | exact HB.out)⟩⟩
        case rest =>
          clear HC6
          try clear c1
          try clear p2
          try clear c4
          try clear c4b0
          try clear c4b1
          try clear c5
          try clear c8
          try clear c10
          try clear c11
          try clear p2
          obtain ⟨kq, x33_5, rfl, HA, HJ5, HB⟩ := hcut
          cases kq with
          | zero => exact absurd HA.out (by simp [laws_FnCRANLonger.j1])
          | succ kj5 =>
            have H := HA.out
            clear HA
            simp only [laws_FnCRANLonger.j1] at H
            by_cases c21 : x33_5 = true
            · subst c21
              have H1 : (some true) = some r := by rw [if_pos rfl] at H; exact H
              clear H
              have H := H1
              clear H1
              obtain rfl := Option.some.inj H
              go_wp2
              go_ret
              exact ⟨by first | rfl | (simp [errW_none, errW_some] <;> rfl) | (simp [*, errW_none, errW_some] <;> rfl), by repeat (first | (with_reducible first | exact HB.out | apply below_alloc | apply pw_below_drewN | apply below_drew1) | exact HB.out)⟩
            · replace c21 := Bool.eq_false_iff.mpr c21
              subst c21
              have H1 : ((impl_CRANParse.f a0).bind fun bt199 => ((impl_CRANParse.f a1).bind fun bt203 => (if bt199.2 = true then (laws_FnCRANLonger.j2 kj5 a0 a1 (!bt203.2)) else (laws_FnCRANLonger.j2 kj5 a0 a1 true)))) = some r := by rw [if_neg (show ¬ (false = true) by decide)] at H; exact H
              clear H
              have H := H1
              clear H1
              replace H := Option.bind_eq_some_iff.mp H
              obtain ⟨⟨t199, t200⟩, A220, H⟩ := H
              replace H : ((impl_CRANParse.f a1).bind fun bt203 => (if t200 = true then (laws_FnCRANLonger.j2 kj5 a0 a1 (!bt203.2)) else (laws_FnCRANLonger.j2 kj5 a0 a1 true))) = some r := H
              have A22 := Aside0.mk A220
              clear A220
              replace H := Option.bind_eq_some_iff.mp H
              obtain ⟨⟨t203, t204⟩, A230, H⟩ := H
              replace H : (if t200 = true then (laws_FnCRANLonger.j2 kj5 a0 a1 (!t204)) else (laws_FnCRANLonger.j2 kj5 a0 a1 true)) = some r := H
              have A23 := Aside0.mk A230
              clear A230
              have HC24 := Aside0.mk H
              clear H
              go_upto_region 7 with (first | ((with_reducible refine gate_callee (f := 13) rfl ?_); refine goesL_ (some 36) rfl rfl Tryd.func13 (by kernel_rfl) rfl #[.string a0] rfl (by (try simp only [List.map_toArray, List.map_cons, List.map_nil]); first | done | rfl | (simp only [List.length_drop, List.length_take]; rfl)) ?_; (with_reducible refine (impl_CRANParse.calls a0 t199 t200 _ ?side1 A22.out).mono ?_); (case side1 => first | exact HG.out | exact GW.below HG.out (by repeat (first | (with_reducible first | exact HB.out | exact Below.refl _ _ | apply below_alloc | apply pw_below_drewN | apply below_drew1 | apply below_drew | refine below_set ?_ (Aside0.out (by assumption))) | exact HB.out))); rintro e w25 ⟨v201, rfl, ho0, hb⟩; refine ⟨_, rfl, ?_⟩; have n0_ := Aside0.mk (Kd.R_lower ho0 (below_size (by repeat (first | (with_reducible first | exact HB.out | apply below_alloc | apply pw_below_drewN | apply below_drew1) | exact HB.out)))); have n1_ := Aside0.mk (below_step (by repeat (first | (with_reducible first | exact HB.out | apply below_alloc | apply pw_below_drewN | apply below_drew1) | exact HB.out)) hb); clear HB; have HO202 := n0_; have HB := n1_; clear n0_ n1_; (try clear hb); (try clear hb2); (try clear hk); (try clear hi); (try clear ho0)) | ((with_reducible refine gate_callee (f := 13) rfl ?_); refine goesL_ (some 41) rfl rfl Tryd.func13 (by kernel_rfl) rfl #[.string a1] rfl (by (try simp only [List.map_toArray, List.map_cons, List.map_nil]); first | done | rfl | (simp only [List.length_drop, List.length_take]; rfl)) ?_; (with_reducible refine (impl_CRANParse.calls a1 t203 t204 _ ?side1 A23.out).mono ?_); (case side1 => first | exact HG.out | exact GW.below HG.out (by repeat (first | (with_reducible first | exact HB.out | exact Below.refl _ _ | apply below_alloc | apply pw_below_drewN | apply below_drew1 | apply below_drew | refine below_set ?_ (Aside0.out (by assumption))) | exact HB.out))); rintro e w26 ⟨v205, rfl, ho0, hb⟩; refine ⟨_, rfl, ?_⟩; have n0_ := Aside0.mk (Kd.R_elder' (by (with_reducible repeat (first | apply Kd.R_alloc | apply Kd.R_drewN | apply Kd.R_drew)); exact HO202.out) (Kd.R_base ho0) hb); have n1_ := Aside0.mk (Kd.R_lower (Kd.R_new' ho0 (Kd.R_lt (by (with_reducible repeat (first | apply Kd.R_alloc | apply Kd.R_drewN | apply Kd.R_drew)); exact HO202.out))) (below_size (by repeat (first | (with_reducible first | exact HB.out | apply below_alloc | apply pw_below_drewN | apply below_drew1) | exact HB.out)))); have n2_ := Aside0.mk (below_step (by repeat (first | (with_reducible first | exact HB.out | apply below_alloc | apply pw_below_drewN | apply below_drew1) | exact HB.out)) hb); clear HO202; clear HB; have HO202 := n0_; have HO206 := n1_; have HB := n2_; clear n0_ n1_ n2_; (try clear hb); (try clear hb2); (try clear hk); (try clear hi); (try clear ho0)))
              (try simp only [Act.put, List.setIfInBounds_toArray, List.set_cons_zero, List.set_cons_succ])
              go_cut [49] (fun v49 wc => ∃ (kq : Nat) (x49_23 : Bool), v49 = .bool x49_23 ∧ Aside0 (laws_FnCRANLonger.j2 kq a0 a1 x49_23 = some r) ∧ Aside0 (kq ≤ kj5) ∧ Aside0 (Below w.heap.size w wc))
              case first =>
                have H := HC24.out
                clear HC24
                by_cases c27 : t200 = true
                · subst c27
                  have H1 : (laws_FnCRANLonger.j2 kj5 a0 a1 (!t204)) = some r := by rw [if_pos rfl] at H; exact H
                  clear H
                  have H := H1
                  clear H1
                  have H' := Aside0.mk H
                  clear H
                  go_wp2
                  go_meet
                  case rel => exact ⟨_, (!t204), (by first | rfl | (simp; done) | (simp [*]; done)), H', ⟨by have := HJ2.out; have := HJ5.out; first | omega | exact Nat.le_refl _⟩, ⟨by repeat (first | (with_reducible first | exact HB.out | apply below_alloc | apply pw_below_drewN | apply below_drew1) | exact HB.out)⟩⟩
                · replace c27 := Bool.eq_false_iff.mpr c27
                  subst c27
                  have H1 : (laws_FnCRANLonger.j2 kj5 a0 a1 true) = some r := by rw [if_neg (show ¬ (false = true) by decide)] at H; exact H
                  clear H
                  have H := H1
                  clear H1
                  have H' := Aside0.mk H
                  clear H
                  go_wp2
                  go_meet
                  case rel => exact ⟨_, (true), (by first | rfl | (simp; done) | (simp [*]; done)), H', ⟨by have := HJ2.out; have := HJ5.out; first | omega | exact Nat.le_refl _⟩, ⟨by repeat (first | (with_reducible first | exact HB.out | apply below_alloc | apply pw_below_drewN | apply below_drew1) | exact HB.out)⟩⟩
              case rest =>
                clear HC24
                try clear c1
                try clear c2
                try clear p2
                try clear c4
                try clear c4b0
                try clear c4b1
                try clear c5
                try clear c8
                try clear c10
                try clear c11
                try clear c13
                try clear c21
                try clear c27
                try clear p2
                obtain ⟨kq, x49_23, rfl, HA, HJ23, HB⟩ := hcut
                cases kq with
                | zero => exact absurd HA.out (by simp [laws_FnCRANLonger.j2])
                | succ kj23 =>
                  have H := HA.out
                  clear HA
                  simp only [laws_FnCRANLonger.j2] at H
                  by_cases c28 : x49_23 = true
                  · subst c28
                    have H1 : ((laws_cranAwake.f).bind fun t207 => (some t207)) = some r := by rw [if_pos rfl] at H; exact H
                    clear H
                    have H := H1
                    clear H1
                    replace H := Option.bind_eq_some_iff.mp H
                    obtain ⟨t207, A290, H⟩ := H
                    replace H : (some t207) = some r := H
                    have A29 := Aside0.mk A290
                    clear A290
                    obtain rfl := Option.some.inj H
                    go_wp2_with (first | ((with_reducible refine gate_callee (f := 20) rfl ?_); refine goesL_ (some 50) rfl rfl Tryd.func20 (by kernel_rfl) rfl #[] rfl (by (try simp only [List.map_toArray, List.map_cons, List.map_nil]); first | done | rfl | (simp only [List.length_drop, List.length_take]; rfl)) ?_; (with_reducible refine (laws_cranAwake.calls  t207 _ ?side1 A29.out).mono ?_); (case side1 => first | exact HG.out | exact GW.below HG.out (by repeat (first | (with_reducible first | exact HB.out | exact Below.refl _ _ | apply below_alloc | apply pw_below_drewN | apply below_drew1 | apply below_drew | refine below_set ?_ (Aside0.out (by assumption))) | exact HB.out))); rintro e w30 ⟨rfl, hb⟩; refine ⟨_, rfl, ?_⟩; have n0_ := Aside0.mk (below_step (by repeat (first | (with_reducible first | exact HB.out | apply below_alloc | apply pw_below_drewN | apply below_drew1) | exact HB.out)) hb); clear HB; have HB := n0_; clear n0_; (try clear hb); (try clear hb2); (try clear hk); (try clear hi)))
                    go_ret
                    exact ⟨by first | rfl | (simp [errW_none, errW_some] <;> rfl) | (simp [*, errW_none, errW_some] <;> rfl), by repeat (first | (with_reducible first | exact HB.out | apply below_alloc | apply pw_below_drewN | apply below_drew1) | exact HB.out)⟩
                  · replace c28 := Bool.eq_false_iff.mpr c28
                    subst c28
                    have H1 : (if a0.size + 1 ≤ 9223372036854775807 then (if (a0 ++ (⟨#[46]⟩ : ByteArray)).size + a1.size ≤ 9223372036854775807 then ((impl_CRANCompare.f ((a0 ++ (⟨#[46]⟩ : ByteArray)) ++ a1) a0).bind fun bt208 => (if bt208.2 = true then (some (bt208.1 == 1)) else (some false))) else (none)) else (none)) = some r := by rw [if_neg (show ¬ (false = true) by decide)] at H; exact H
                    clear H
                    have H := H1
                    clear H1
                    by_cases c31 : a0.size + 1 ≤ 9223372036854775807
                    · rw [if_pos c31] at H
                      have c31b0 := eq_true c31
                      have c31b1 : decide (a0.size + 1 ≤ 9223372036854775807) = true := decide_eq_true c31
                      try have c31b2 : (9223372036854775807 < a0.size + 1) = False := eq_false (Nat.not_lt.2 c31)
                      by_cases c32 : (a0 ++ (⟨#[46]⟩ : ByteArray)).size + a1.size ≤ 9223372036854775807
                      · rw [if_pos c32] at H
                        have c32b0 := eq_true c32
                        have c32b1 : decide ((a0 ++ (⟨#[46]⟩ : ByteArray)).size + a1.size ≤ 9223372036854775807) = true := decide_eq_true c32
                        try have c32b2 : (9223372036854775807 < (a0 ++ (⟨#[46]⟩ : ByteArray)).size + a1.size) = False := eq_false (Nat.not_lt.2 c32)
                        replace H := Option.bind_eq_some_iff.mp H
                        obtain ⟨⟨t208, t209⟩, A330, H⟩ := H
                        replace H : (if t209 = true then (some (t208 == 1)) else (some false)) = some r := H
                        have A33 := Aside0.mk A330
                        clear A330
                        by_cases c34 : t209 = true
                        · subst c34
                          have H1 : (some (t208 == 1)) = some r := by rw [if_pos rfl] at H; exact H
                          clear H
                          have H := H1
                          clear H1
                          obtain rfl := Option.some.inj H
                          go_wp2_with (first | ((with_reducible refine gate_callee (f := 17) rfl ?_); refine goesL_ (some 57) rfl rfl Tryd.func17 (by kernel_rfl) rfl #[.string ((a0 ++ (⟨#[46]⟩ : ByteArray)) ++ a1), .string a0] rfl (by (try simp only [List.map_toArray, List.map_cons, List.map_nil]); first | done | rfl | (simp only [List.length_drop, List.length_take]; rfl)) ?_; (with_reducible refine (impl_CRANCompare.calls ((a0 ++ (⟨#[46]⟩ : ByteArray)) ++ a1) a0 t208 true _ ?side1 A33.out).mono ?_); (case side1 => first | exact HG.out | exact GW.below HG.out (by repeat (first | (with_reducible first | exact HB.out | exact Below.refl _ _ | apply below_alloc | apply pw_below_drewN | apply below_drew1 | apply below_drew | refine below_set ?_ (Aside0.out (by assumption))) | exact HB.out))); rintro e w35 ⟨rfl, hb⟩; refine ⟨_, rfl, ?_⟩; have n0_ := Aside0.mk (below_step (by repeat (first | (with_reducible first | exact HB.out | apply below_alloc | apply pw_below_drewN | apply below_drew1) | exact HB.out)) hb); clear HB; have HB := n0_; clear n0_; (try clear hb); (try clear hb2); (try clear hk); (try clear hi)))
                          go_ret
                          exact ⟨by first | rfl | (simp [errW_none, errW_some] <;> rfl) | (simp [*, errW_none, errW_some] <;> rfl), by repeat (first | (with_reducible first | exact HB.out | apply below_alloc | apply pw_below_drewN | apply below_drew1) | exact HB.out)⟩
                        · replace c34 := Bool.eq_false_iff.mpr c34
                          subst c34
                          have H1 : (some false) = some r := by rw [if_neg (show ¬ (false = true) by decide)] at H; exact H
                          clear H
                          have H := H1
                          clear H1
                          obtain rfl := Option.some.inj H
                          go_wp2_with (first | ((with_reducible refine gate_callee (f := 17) rfl ?_); refine goesL_ (some 57) rfl rfl Tryd.func17 (by kernel_rfl) rfl #[.string ((a0 ++ (⟨#[46]⟩ : ByteArray)) ++ a1), .string a0] rfl (by (try simp only [List.map_toArray, List.map_cons, List.map_nil]); first | done | rfl | (simp only [List.length_drop, List.length_take]; rfl)) ?_; (with_reducible refine (impl_CRANCompare.calls ((a0 ++ (⟨#[46]⟩ : ByteArray)) ++ a1) a0 t208 false _ ?side1 A33.out).mono ?_); (case side1 => first | exact HG.out | exact GW.below HG.out (by repeat (first | (with_reducible first | exact HB.out | exact Below.refl _ _ | apply below_alloc | apply pw_below_drewN | apply below_drew1 | apply below_drew | refine below_set ?_ (Aside0.out (by assumption))) | exact HB.out))); rintro e w36 ⟨rfl, hb⟩; refine ⟨_, rfl, ?_⟩; have n0_ := Aside0.mk (below_step (by repeat (first | (with_reducible first | exact HB.out | apply below_alloc | apply pw_below_drewN | apply below_drew1) | exact HB.out)) hb); clear HB; have HB := n0_; clear n0_; (try clear hb); (try clear hb2); (try clear hk); (try clear hi)))
                          go_ret
                          exact ⟨by first | rfl | (simp [errW_none, errW_some] <;> rfl) | (simp [*, errW_none, errW_some] <;> rfl), by repeat (first | (with_reducible first | exact HB.out | apply below_alloc | apply pw_below_drewN | apply below_drew1) | exact HB.out)⟩
                      · rw [if_neg c32] at H
                        exact absurd H (by simp)
                    · rw [if_neg c31] at H
                      exact absurd H (by simp)

/-- THE ONE PURE STATEMENT of laws_FnCRANLonger. -/
def laws_FnCRANLonger.Pure : Prop := ∀ (a0 : ByteArray) (a1 : ByteArray), a0.size ≤ 140737488351232 → a1.size ≤ 140737488351232 → ∃ k, laws_FnCRANLonger.f k a0 a1 = some true
theorem laws_FnCRANLonger.walk (P : laws_FnCRANLonger.Pure) (a0 : ByteArray) (a1 : ByteArray) (w : World) (hm0 : a0.size ≤ 140737488351232) (hm1 : a1.size ≤ 140737488351232) (hG : GW w) :
    Calls Tryd.prog 5 #[.string a0, .string a1] w fun e w' => e = .returned (.bool true) ∧ Below w.heap.size w w' := by
  obtain ⟨k, h⟩ := P a0 a1 hm0 hm1
  refine (laws_FnCRANLonger.calls k a0 a1 true w hG h).mono ?_
  rintro e w' ⟨rfl, hd⟩
  exact ⟨rfl, hd⟩

end Go.Proofs.YtmhlmkefnmdbcaaDoor.Z
