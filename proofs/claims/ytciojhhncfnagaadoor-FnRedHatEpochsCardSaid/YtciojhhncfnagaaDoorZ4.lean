-- Written by a program of this session (myprint.py).
import Derived.Test.YtciojhhncfnagaaDoorZ0
import Derived.Test.YtciojhhncfnagaaDoorZ2
import Derived.Test.YtciojhhncfnagaaDoorZ3
import Derived.Test.YtciojhhncfnagaaDoorGe
namespace Go.Proofs.YtciojhhncfnagaaDoor.Z
open Go.RowKit Go.Proofs.YtciojhhncfnagaaDoorW.PrintWords Go.Proofs.YtciojhhncfnagaaDoorW.PrintLast Go.Proofs.YtciojhhncfnagaaDoorW.PrintMore
attribute [local go_sem high] Go.Proofs.YtciojhhncfnagaaDoor.Ge.gtr_str
attribute [local go_sem] max2_int min2_int max_two min_two max_three min_three max_four min_four   -- for this text's walks alone
set_option linter.unusedVariables false
set_option linter.unusedSimpArgs false

/-! ### semantic_ParseRedHatVersion: function 25 -/
mutual
def semantic_ParseRedHatVersion.j0 : Nat → ByteArray → ByteArray → ByteArray → Bool → Option (ByteArray × ByteArray × ByteArray)
  | 0, _, _, _, _ => none
  | k + 1, x0, x3, x4, x21 => if x21 = true then (semantic_ParseRedHatVersion.j1 k (⟨#[]⟩ : ByteArray) x0) else (semantic_ParseRedHatVersion.j1 k x3 x4)
def semantic_ParseRedHatVersion.j1 : Nat → ByteArray → ByteArray → Option (ByteArray × ByteArray × ByteArray)
  | 0, _, _ => none
  | k + 1, x3, x4 => (semantic_zzCut.f k x4 (⟨#[45]⟩ : ByteArray)).bind fun bt140 => (if bt140.2.2 = true then (if 1 + bt140.2.1.size ≤ 9223372036854775807 then (if x3.toList = ([] : List UInt8) then (some ((⟨#[48]⟩ : ByteArray), bt140.1, (⟨#[45]⟩ : ByteArray) ++ bt140.2.1)) else (some (x3, bt140.1, (⟨#[45]⟩ : ByteArray) ++ bt140.2.1))) else (none)) else (if x3.toList = ([] : List UInt8) then (some ((⟨#[48]⟩ : ByteArray), bt140.1, bt140.2.1)) else (some (x3, bt140.1, bt140.2.1))))
end
def semantic_ParseRedHatVersion.f (k : Nat) (a0 : ByteArray) : Option (ByteArray × ByteArray × ByteArray) := (semantic_zzCut.f k a0 (⟨#[58]⟩ : ByteArray)).bind fun bt136 => (if bt136.2.2 = true then ((semantic_isOnlyDigits.f bt136.1).bind fun t139 => (semantic_ParseRedHatVersion.j0 k a0 bt136.1 bt136.2.1 (!t139))) else (semantic_ParseRedHatVersion.j0 k a0 bt136.1 bt136.2.1 true))
theorem semantic_ParseRedHatVersion.mono_l : ∀ k, (∀ y0 y1 y2 y3, LeO (semantic_ParseRedHatVersion.j0 k y0 y1 y2 y3) (semantic_ParseRedHatVersion.j0 (k + 1) y0 y1 y2 y3)) ∧ (∀ y0 y1, LeO (semantic_ParseRedHatVersion.j1 k y0 y1) (semantic_ParseRedHatVersion.j1 (k + 1) y0 y1))
  | 0 => ⟨fun _ _ _ _ r h => by simp [semantic_ParseRedHatVersion.j0] at h, fun _ _ r h => by simp [semantic_ParseRedHatVersion.j1] at h⟩
  | k + 1 => by
    obtain ⟨ih0, ih1⟩ := semantic_ParseRedHatVersion.mono_l k
    refine ⟨?_, ?_⟩
    · intro y0 y1 y2 y3
      unfold semantic_ParseRedHatVersion.j0
      repeat' first
      | (with_reducible exact ih0 _ _ _ _)
      | (with_reducible exact ih1 _ _)
      | (with_reducible exact semantic_zzCut.mono _ _ _)
      | (with_reducible exact LeO.refl _)
      | (with_reducible exact LeO.none _)
      | (with_reducible refine LeO.ite ?_ ?_)
      | (with_reducible refine LeO.bind ?_ (fun _ => ?_))
      | exact ih0 _ _ _ _
      | exact ih1 _ _
      | exact semantic_zzCut.mono _ _ _
      | exact LeO.none _
      | refine LeO.ite ?_ ?_
      | refine LeO.bind ?_ (fun _ => ?_)
    · intro y0 y1
      unfold semantic_ParseRedHatVersion.j1
      repeat' first
      | (with_reducible exact ih0 _ _ _ _)
      | (with_reducible exact ih1 _ _)
      | (with_reducible exact semantic_zzCut.mono _ _ _)
      | (with_reducible exact LeO.refl _)
      | (with_reducible exact LeO.none _)
      | (with_reducible refine LeO.ite ?_ ?_)
      | (with_reducible refine LeO.bind ?_ (fun _ => ?_))
      | exact ih0 _ _ _ _
      | exact ih1 _ _
      | exact semantic_zzCut.mono _ _ _
      | exact LeO.none _
      | refine LeO.ite ?_ ?_
      | refine LeO.bind ?_ (fun _ => ?_)
theorem semantic_ParseRedHatVersion.mono : ∀ a0 k, LeO (semantic_ParseRedHatVersion.f k a0) (semantic_ParseRedHatVersion.f (k + 1) a0) := by
  intro a0 k
  obtain ⟨ih0, ih1⟩ := semantic_ParseRedHatVersion.mono_l k
  unfold semantic_ParseRedHatVersion.f
  repeat' first
      | (with_reducible exact ih0 _ _ _ _)
      | (with_reducible exact ih1 _ _)
      | (with_reducible exact semantic_zzCut.mono _ _ _)
      | (with_reducible exact LeO.refl _)
      | (with_reducible exact LeO.none _)
      | (with_reducible refine LeO.ite ?_ ?_)
      | (with_reducible refine LeO.bind ?_ (fun _ => ?_))
      | exact ih0 _ _ _ _
      | exact ih1 _ _
      | exact semantic_zzCut.mono _ _ _
      | exact LeO.none _
      | refine LeO.ite ?_ ?_
      | refine LeO.bind ?_ (fun _ => ?_)
set_option maxHeartbeats 8000000 in
set_option maxRecDepth 100000 in
theorem semantic_ParseRedHatVersion.calls (k : Nat) (a0 : ByteArray) (r1 : ByteArray) (r2 : ByteArray) (r3 : ByteArray) (w : World) (h : semantic_ParseRedHatVersion.f k a0 = some (r1, r2, r3)) :
    Calls Tryd.prog 25 #[.string a0] w fun e w' => e = .returned (.agg #[.string r1, .string r2, .string r3]) ∧ Below w.heap.size w w' := by
  have hu47 := Tryd.underlying47
  have HB := Aside0.mk (Below.refl w.heap.size w)
  have H : ((semantic_zzCut.f k a0 (⟨#[58]⟩ : ByteArray)).bind fun bt136 => (if bt136.2.2 = true then ((semantic_isOnlyDigits.f bt136.1).bind fun t139 => (semantic_ParseRedHatVersion.j0 k a0 bt136.1 bt136.2.1 (!t139))) else (semantic_ParseRedHatVersion.j0 k a0 bt136.1 bt136.2.1 true))) = some (r1, r2, r3) := h
  clear h
  replace H := Option.bind_eq_some_iff.mp H
  obtain ⟨⟨t136, t137, t138⟩, A20, H⟩ := H
  replace H : (if t138 = true then ((semantic_isOnlyDigits.f t136).bind fun t139 => (semantic_ParseRedHatVersion.j0 k a0 t136 t137 (!t139))) else (semantic_ParseRedHatVersion.j0 k a0 t136 t137 true)) = some (r1, r2, r3) := H
  have A2 := Aside0.mk A20
  clear A20
  have HC3 := Aside0.mk H
  clear H
  go_enter Tryd.func25, Tryd.ntmps25
  go_upto_region 2 with (first | ((with_reducible refine gate_dst (N := 2) rfl ?_); refine box_event ?hg (N := 2) ?hd (cs := #[.string (⟨#[]⟩ : ByteArray), .string (⟨#[]⟩ : ByteArray), .string (⟨#[]⟩ : ByteArray)]) (t := 47) ?hr ?_; (case hd => rfl); (case hg => rfl); (case hr => first | (go_simp; done) | (go_simp; rfl)); intro gb135 hg w4 hbox hb; have n0_ := Aside0.mk (below_step (by repeat (first | (with_reducible first | exact HB.out | apply below_alloc | apply pw_below_drewN | apply below_drew1) | exact HB.out)) hb); have n1_ := Aside0.mk (hbox); have n2_ := Aside0.mk ((by rw [hg]; exact (below_size (by repeat (first | (with_reducible first | exact HB.out | apply below_alloc | apply pw_below_drewN | apply below_drew1) | exact HB.out))) : w.heap.size ≤ gb135)); have n3_ := Aside0.mk ((by rw [hg]; exact (below_size (by repeat (first | (with_reducible first | exact HB.out | apply below_alloc | apply pw_below_drewN | apply below_drew1) | exact HB.out))) : w.heap.size ≤ gb135)); clear HB; have HB := n0_; have BK135 := n1_; have GW135 := n2_; have GE135 := n3_; clear n0_ n1_ n2_ n3_; clear hb hbox hg) | ((with_reducible refine gate_callee (f := 35) rfl ?_); refine goesL_ (some 11) rfl rfl Tryd.func35 (by kernel_rfl) rfl #[.string a0, .string (⟨#[58]⟩ : ByteArray)] rfl (by (try simp only [List.map_toArray, List.map_cons, List.map_nil]); first | done | rfl | (simp only [List.length_drop, List.length_take]; rfl)) ?_; (with_reducible refine (semantic_zzCut.calls k a0 (⟨#[58]⟩ : ByteArray) t136 t137 t138 _ A2.out).mono ?_); rintro e w' ⟨rfl, ⟨nd, rfl⟩⟩; refine ⟨_, rfl, ?_⟩))
  (try simp only [Act.put, List.setIfInBounds_toArray, List.set_cons_zero, List.set_cons_succ])
  go_cut [21] (fun v21 wc => ∃ (kq : Nat) (x21_2 : Bool), v21 = .bool x21_2 ∧ Aside0 (semantic_ParseRedHatVersion.j0 kq a0 t136 t137 x21_2 = some (r1, r2, r3)) ∧ Aside0 (kq ≤ k) ∧ Aside0 (wc.heap[gb135]? = some (.cells #[.string (⟨#[]⟩ : ByteArray), .string (⟨#[]⟩ : ByteArray), .string (⟨#[]⟩ : ByteArray)] 47 (0, 0))) ∧ Aside0 (Below w.heap.size w wc))
  case first =>
    have H := HC3.out
    clear HC3
    by_cases c5 : t138 = true
    · subst c5
      have H1 : ((semantic_isOnlyDigits.f t136).bind fun t139 => (semantic_ParseRedHatVersion.j0 k a0 t136 t137 (!t139))) = some (r1, r2, r3) := by rw [if_pos rfl] at H; exact H
      clear H
      have H := H1
      clear H1
      replace H := Option.bind_eq_some_iff.mp H
      obtain ⟨t139, A60, H⟩ := H
      replace H : (semantic_ParseRedHatVersion.j0 k a0 t136 t137 (!t139)) = some (r1, r2, r3) := H
      have A6 := Aside0.mk A60
      clear A60
      have H' := Aside0.mk H
      clear H
      go_wp2_with (first | (go_at_call 36; (with_reducible refine (semantic_isOnlyDigits.calls t136 t139 _ A6.out).mono ?_); rintro e w7 ⟨rfl, hb⟩; have n0_ := Aside0.mk (blk_below (g := gb135) (o := .cells #[.string (⟨#[]⟩ : ByteArray), .string (⟨#[]⟩ : ByteArray), .string (⟨#[]⟩ : ByteArray)] 47 (0, 0)) (by (with_reducible repeat (first | refine blk_drewN ?_ _ | refine blk_drew ?_ | refine blk_alloc ?_ _)); exact BK135.out) hb); have n1_ := Aside0.mk (below_step (by repeat (first | (with_reducible first | exact HB.out | apply below_alloc | apply pw_below_drewN | apply below_drew1 | refine below_set ?_ GE135.out) | exact HB.out)) hb); clear BK135; clear HB; have BK135 := n0_; have HB := n1_; clear n0_ n1_; (try clear hb); (try clear hb2); (try clear hk); (try clear hi)))
      go_meet
      case rel => exact ⟨_, (!t139), (by first | rfl | (simp; done) | (simp [*]; done)), H', ⟨by first | omega | exact Nat.le_refl _⟩, ⟨by (with_reducible repeat (first | refine blk_drewN ?_ _ | refine blk_drew ?_ | refine blk_alloc ?_ _)); exact BK135.out⟩, ⟨by repeat (first | (with_reducible first | exact HB.out | apply below_alloc | apply pw_below_drewN | apply below_drew1 | refine below_set ?_ GE135.out) | exact HB.out)⟩⟩
    · replace c5 := Bool.eq_false_iff.mpr c5
      subst c5
      have H1 : (semantic_ParseRedHatVersion.j0 k a0 t136 t137 true) = some (r1, r2, r3) := by rw [if_neg (show ¬ (false = true) by decide)] at H; exact H
      clear H
      have H := H1
      clear H1
      have H' := Aside0.mk H
      clear H
      go_wp2
      go_meet
      case rel => exact ⟨_, (true), (by first | rfl | (simp; done) | (simp [*]; done)), H', ⟨by first | omega | exact Nat.le_refl _⟩, ⟨by (with_reducible repeat (first | refine blk_drewN ?_ _ | refine blk_drew ?_ | refine blk_alloc ?_ _)); exact BK135.out⟩, ⟨by repeat (first | (with_reducible first | exact HB.out | apply below_alloc | apply pw_below_drewN | apply below_drew1 | refine below_set ?_ GE135.out) | exact HB.out)⟩⟩
  case rest =>
    clear HC3
    try clear c2
    try clear p2
    try clear c3
    try clear c5
    obtain ⟨kq, x21_2, rfl, HA, HJ2, BK135, HB⟩ := hcut
    cases kq with
    | zero => exact absurd HA.out (by simp [semantic_ParseRedHatVersion.j0])
    | succ kj2 =>
      have H := HA.out
      clear HA
      simp only [semantic_ParseRedHatVersion.j0] at H
      have HC8 := Aside0.mk H
      clear H
      go_upto_if 21 with (fail)
      go_cut [3, 4] (fun v3 v4 wc => ∃ (kq : Nat) (x3_7 : ByteArray) (x4_7 : ByteArray), v3 = .string x3_7 ∧ v4 = .string x4_7 ∧ Aside0 (semantic_ParseRedHatVersion.j1 kq x3_7 x4_7 = some (r1, r2, r3)) ∧ Aside0 (kq ≤ kj2) ∧ Aside0 (wc.heap[gb135]? = some (.cells #[.string (⟨#[]⟩ : ByteArray), .string (⟨#[]⟩ : ByteArray), .string (⟨#[]⟩ : ByteArray)] 47 (0, 0))) ∧ Aside0 (Below w.heap.size w wc))
      case first =>
        have H := HC8.out
        clear HC8
        by_cases c9 : x21_2 = true
        · subst c9
          have H1 : (semantic_ParseRedHatVersion.j1 kj2 (⟨#[]⟩ : ByteArray) a0) = some (r1, r2, r3) := by rw [if_pos rfl] at H; exact H
          clear H
          have H := H1
          clear H1
          have H' := Aside0.mk H
          clear H
          go_wp2
          go_meet
          case rel => exact ⟨_, ((⟨#[]⟩ : ByteArray)), (a0), (by first | rfl | (simp; done) | (simp [*]; done)), (by first | rfl | (simp; done) | (simp [*]; done)), H', ⟨by have := HJ2.out; first | omega | exact Nat.le_refl _⟩, ⟨by (with_reducible repeat (first | refine blk_drewN ?_ _ | refine blk_drew ?_ | refine blk_alloc ?_ _)); exact BK135.out⟩, ⟨by repeat (first | (with_reducible first | exact HB.out | apply below_alloc | apply pw_below_drewN | apply below_drew1 | refine below_set ?_ GE135.out) | exact HB.out)⟩⟩
        · replace c9 := Bool.eq_false_iff.mpr c9
          subst c9
          have H1 : (semantic_ParseRedHatVersion.j1 kj2 t136 t137) = some (r1, r2, r3) := by rw [if_neg (show ¬ (false = true) by decide)] at H; exact H
          clear H
          have H := H1
          clear H1
          have H' := Aside0.mk H
          clear H
          go_wp2
          go_meet
          case rel => exact ⟨_, (t136), (t137), (by first | rfl | (simp; done) | (simp [*]; done)), (by first | rfl | (simp; done) | (simp [*]; done)), H', ⟨by have := HJ2.out; first | omega | exact Nat.le_refl _⟩, ⟨by (with_reducible repeat (first | refine blk_drewN ?_ _ | refine blk_drew ?_ | refine blk_alloc ?_ _)); exact BK135.out⟩, ⟨by repeat (first | (with_reducible first | exact HB.out | apply below_alloc | apply pw_below_drewN | apply below_drew1 | refine below_set ?_ GE135.out) | exact HB.out)⟩⟩
      case rest =>
        clear HC8
        try clear c2
        try clear p2
        try clear c3
        try clear c5
        try clear c9
        try clear p2
        obtain ⟨kq, x3_7, x4_7, rfl, rfl, HA, HJ7, BK135, HB⟩ := hcut
        cases kq with
        | zero => exact absurd HA.out (by simp [semantic_ParseRedHatVersion.j1])
        | succ kj7 =>
          have H := HA.out
          clear HA
          simp only [semantic_ParseRedHatVersion.j1] at H
          replace H := Option.bind_eq_some_iff.mp H
          obtain ⟨⟨t140, t141, t142⟩, A100, H⟩ := H
          replace H : (if t142 = true then (if 1 + t141.size ≤ 9223372036854775807 then (if x3_7.toList = ([] : List UInt8) then (some ((⟨#[48]⟩ : ByteArray), t140, (⟨#[45]⟩ : ByteArray) ++ t141)) else (some (x3_7, t140, (⟨#[45]⟩ : ByteArray) ++ t141))) else (none)) else (if x3_7.toList = ([] : List UInt8) then (some ((⟨#[48]⟩ : ByteArray), t140, t141)) else (some (x3_7, t140, t141)))) = some (r1, r2, r3) := H
          have A10 := Aside0.mk A100
          clear A100
          by_cases c11 : t142 = true
          · subst c11
            have H1 : (if 1 + t141.size ≤ 9223372036854775807 then (if x3_7.toList = ([] : List UInt8) then (some ((⟨#[48]⟩ : ByteArray), t140, (⟨#[45]⟩ : ByteArray) ++ t141)) else (some (x3_7, t140, (⟨#[45]⟩ : ByteArray) ++ t141))) else (none)) = some (r1, r2, r3) := by rw [if_pos rfl] at H; exact H
            clear H
            have H := H1
            clear H1
            by_cases c12 : 1 + t141.size ≤ 9223372036854775807
            · rw [if_pos c12] at H
              have c12b0 := eq_true c12
              have c12b1 : decide (1 + t141.size ≤ 9223372036854775807) = true := decide_eq_true c12
              try have c12b2 : (9223372036854775807 < 1 + t141.size) = False := eq_false (Nat.not_lt.2 c12)
              by_cases c13 : x3_7.toList = ([] : List UInt8)
              · rw [if_pos c13] at H
                have c13b0 : (x3_7.toList.isEmpty) = true := by simpa using c13
                have c13b1 : (!x3_7.toList.isEmpty) = false := by simpa using c13
                clear c13
                simp only [Option.some.injEq, Prod.mk.injEq] at H
                obtain ⟨rfl, rfl, rfl⟩ := H
                go_wp2_with (first | ((with_reducible refine gate_callee (f := 35) rfl ?_); refine goesL_ (some 25) rfl rfl Tryd.func35 (by kernel_rfl) rfl #[.string x4_7, .string (⟨#[45]⟩ : ByteArray)] rfl (by (try simp only [List.map_toArray, List.map_cons, List.map_nil]); first | done | rfl | (simp only [List.length_drop, List.length_take]; rfl)) ?_; (with_reducible refine (semantic_zzCut.calls kj7 x4_7 (⟨#[45]⟩ : ByteArray) t140 t141 true _ A10.out).mono ?_); rintro e w' ⟨rfl, ⟨nd, rfl⟩⟩; refine ⟨_, rfl, ?_⟩; (try (rw [drewN_self wc]; generalize hq_ : World.drewN wc _ = wc; have n0_ : Aside0 (wc.heap[gb135]? = some (.cells #[.string (⟨#[]⟩ : ByteArray), .string (⟨#[]⟩ : ByteArray), .string (⟨#[]⟩ : ByteArray)] 47 (0, 0))) := ⟨by rw [← hq_]; exact (by (with_reducible repeat (first | refine blk_drewN ?_ _ | refine blk_drew ?_ | refine blk_alloc ?_ _)); exact BK135.out)⟩; have n1_ : Aside0 (Below w.heap.size w wc) := ⟨by rw [← hq_]; exact (by repeat (first | (with_reducible first | exact HB.out | apply below_alloc | apply pw_below_drewN | apply below_drew1 | refine below_set ?_ GE135.out) | exact HB.out))⟩; clear BK135 HB hq_; have BK135 := n0_; have HB := n1_; clear n0_ n1_)); have hcz14_0 : wc.cell? ⟨gb135, 0, none⟩ = some (.string (⟨#[]⟩ : ByteArray)) := (blk_cell BK135.out 0).trans rfl; have hcz14_1 : wc.cell? ⟨gb135, 1, none⟩ = some (.string (⟨#[]⟩ : ByteArray)) := (blk_cell BK135.out 1).trans rfl; have hcz14_2 : wc.cell? ⟨gb135, 2, none⟩ = some (.string (⟨#[]⟩ : ByteArray)) := (blk_cell BK135.out 2).trans rfl; have hfz14_0 := blk_frozen BK135.out 0; have hfz14_1 := blk_frozen BK135.out 1; have hfz14_2 := blk_frozen BK135.out 2))
                refine bodyPost_ret (results_cell_row rfl _ _ gb135 47 #[.string (⟨#[48]⟩ : ByteArray), .string t140, .string ((⟨#[45]⟩ : ByteArray) ++ t141)] (0, 0) _ rfl (by (with_reducible repeat (first | refine blk_drewN ?_ _ | refine blk_drew ?_ | refine blk_alloc ?_ _)); refine blk_put (cs := #[.string (⟨#[48]⟩ : ByteArray), .string t140, .string (⟨#[]⟩ : ByteArray)]) ?_ 2 _ rfl; (with_reducible repeat (first | refine blk_drewN ?_ _ | refine blk_drew ?_ | refine blk_alloc ?_ _)); refine blk_put (cs := #[.string (⟨#[48]⟩ : ByteArray), .string (⟨#[]⟩ : ByteArray), .string (⟨#[]⟩ : ByteArray)]) ?_ 1 _ rfl; (with_reducible repeat (first | refine blk_drewN ?_ _ | refine blk_drew ?_ | refine blk_alloc ?_ _)); refine blk_put (cs := #[.string (⟨#[]⟩ : ByteArray), .string (⟨#[]⟩ : ByteArray), .string (⟨#[]⟩ : ByteArray)]) ?_ 0 _ rfl; (with_reducible repeat (first | refine blk_drewN ?_ _ | refine blk_drew ?_ | refine blk_alloc ?_ _)); exact BK135.out) Tryd.underlying47 rfl (by kernel_rfl)) rfl ?_
                exact ⟨by first | rfl | (simp [errW_none, errW_some] <;> rfl) | (simp [*, errW_none, errW_some] <;> rfl), by repeat (first | (with_reducible first | exact HB.out | apply below_alloc | apply pw_below_drewN | apply below_drew1 | refine below_set ?_ GE135.out) | exact HB.out)⟩
              · rw [if_neg c13] at H
                have c13b0 : (x3_7.toList.isEmpty) = false := by simpa using c13
                have c13b1 : (!x3_7.toList.isEmpty) = true := by simpa using c13
                simp only [Option.some.injEq, Prod.mk.injEq] at H
                obtain ⟨rfl, rfl, rfl⟩ := H
                go_wp2_with (first | ((with_reducible refine gate_callee (f := 35) rfl ?_); refine goesL_ (some 25) rfl rfl Tryd.func35 (by kernel_rfl) rfl #[.string x4_7, .string (⟨#[45]⟩ : ByteArray)] rfl (by (try simp only [List.map_toArray, List.map_cons, List.map_nil]); first | done | rfl | (simp only [List.length_drop, List.length_take]; rfl)) ?_; (with_reducible refine (semantic_zzCut.calls kj7 x4_7 (⟨#[45]⟩ : ByteArray) t140 t141 true _ A10.out).mono ?_); rintro e w' ⟨rfl, ⟨nd, rfl⟩⟩; refine ⟨_, rfl, ?_⟩; (try (rw [drewN_self wc]; generalize hq_ : World.drewN wc _ = wc; have n0_ : Aside0 (wc.heap[gb135]? = some (.cells #[.string (⟨#[]⟩ : ByteArray), .string (⟨#[]⟩ : ByteArray), .string (⟨#[]⟩ : ByteArray)] 47 (0, 0))) := ⟨by rw [← hq_]; exact (by (with_reducible repeat (first | refine blk_drewN ?_ _ | refine blk_drew ?_ | refine blk_alloc ?_ _)); exact BK135.out)⟩; have n1_ : Aside0 (Below w.heap.size w wc) := ⟨by rw [← hq_]; exact (by repeat (first | (with_reducible first | exact HB.out | apply below_alloc | apply pw_below_drewN | apply below_drew1 | refine below_set ?_ GE135.out) | exact HB.out))⟩; clear BK135 HB hq_; have BK135 := n0_; have HB := n1_; clear n0_ n1_)); have hcz15_0 : wc.cell? ⟨gb135, 0, none⟩ = some (.string (⟨#[]⟩ : ByteArray)) := (blk_cell BK135.out 0).trans rfl; have hcz15_1 : wc.cell? ⟨gb135, 1, none⟩ = some (.string (⟨#[]⟩ : ByteArray)) := (blk_cell BK135.out 1).trans rfl; have hcz15_2 : wc.cell? ⟨gb135, 2, none⟩ = some (.string (⟨#[]⟩ : ByteArray)) := (blk_cell BK135.out 2).trans rfl; have hfz15_0 := blk_frozen BK135.out 0; have hfz15_1 := blk_frozen BK135.out 1; have hfz15_2 := blk_frozen BK135.out 2))
                refine bodyPost_ret (results_cell_row rfl _ _ gb135 47 #[.string x3_7, .string t140, .string ((⟨#[45]⟩ : ByteArray) ++ t141)] (0, 0) _ rfl (by (with_reducible repeat (first | refine blk_drewN ?_ _ | refine blk_drew ?_ | refine blk_alloc ?_ _)); refine blk_put (cs := #[.string x3_7, .string t140, .string (⟨#[]⟩ : ByteArray)]) ?_ 2 _ rfl; (with_reducible repeat (first | refine blk_drewN ?_ _ | refine blk_drew ?_ | refine blk_alloc ?_ _)); refine blk_put (cs := #[.string x3_7, .string (⟨#[]⟩ : ByteArray), .string (⟨#[]⟩ : ByteArray)]) ?_ 1 _ rfl; (with_reducible repeat (first | refine blk_drewN ?_ _ | refine blk_drew ?_ | refine blk_alloc ?_ _)); refine blk_put (cs := #[.string (⟨#[]⟩ : ByteArray), .string (⟨#[]⟩ : ByteArray), .string (⟨#[]⟩ : ByteArray)]) ?_ 0 _ rfl; (with_reducible repeat (first | refine blk_drewN ?_ _ | refine blk_drew ?_ | refine blk_alloc ?_ _)); exact BK135.out) Tryd.underlying47 rfl (by kernel_rfl)) rfl ?_
                exact ⟨by first | rfl | (simp [errW_none, errW_some] <;> rfl) | (simp [*, errW_none, errW_some] <;> rfl), by repeat (first | (with_reducible first | exact HB.out | apply below_alloc | apply pw_below_drewN | apply below_drew1 | refine below_set ?_ GE135.out) | exact HB.out)⟩
            · rw [if_neg c12] at H
              exact absurd H (by simp)
          · replace c11 := Bool.eq_false_iff.mpr c11
            subst c11
            have H1 : (if x3_7.toList = ([] : List UInt8) then (some ((⟨#[48]⟩ : ByteArray), t140, t141)) else (some (x3_7, t140, t141))) = some (r1, r2, r3) := by rw [if_neg (show ¬ (false = true) by decide)] at H; exact H
            clear H
            have H := H1
            clear H1
            by_cases c16 : x3_7.toList = ([] : List UInt8)
            · rw [if_pos c16] at H
              have c16b0 : (x3_7.toList.isEmpty) = true := by simpa using c16
              have c16b1 : (!x3_7.toList.isEmpty) = false := by simpa using c16
              clear c16
              simp only [Option.some.injEq, Prod.mk.injEq] at H
              obtain ⟨rfl, rfl, rfl⟩ := H
              go_wp2_with (first | ((with_reducible refine gate_callee (f := 35) rfl ?_); refine goesL_ (some 25) rfl rfl Tryd.func35 (by kernel_rfl) rfl #[.string x4_7, .string (⟨#[45]⟩ : ByteArray)] rfl (by (try simp only [List.map_toArray, List.map_cons, List.map_nil]); first | done | rfl | (simp only [List.length_drop, List.length_take]; rfl)) ?_; (with_reducible refine (semantic_zzCut.calls kj7 x4_7 (⟨#[45]⟩ : ByteArray) t140 t141 false _ A10.out).mono ?_); rintro e w' ⟨rfl, ⟨nd, rfl⟩⟩; refine ⟨_, rfl, ?_⟩; (try (rw [drewN_self wc]; generalize hq_ : World.drewN wc _ = wc; have n0_ : Aside0 (wc.heap[gb135]? = some (.cells #[.string (⟨#[]⟩ : ByteArray), .string (⟨#[]⟩ : ByteArray), .string (⟨#[]⟩ : ByteArray)] 47 (0, 0))) := ⟨by rw [← hq_]; exact (by (with_reducible repeat (first | refine blk_drewN ?_ _ | refine blk_drew ?_ | refine blk_alloc ?_ _)); exact BK135.out)⟩; have n1_ : Aside0 (Below w.heap.size w wc) := ⟨by rw [← hq_]; exact (by repeat (first | (with_reducible first | exact HB.out | apply below_alloc | apply pw_below_drewN | apply below_drew1 | refine below_set ?_ GE135.out) | exact HB.out))⟩; clear BK135 HB hq_; have BK135 := n0_; have HB := n1_; clear n0_ n1_)); have hcz17_0 : wc.cell? ⟨gb135, 0, none⟩ = some (.string (⟨#[]⟩ : ByteArray)) := (blk_cell BK135.out 0).trans rfl; have hcz17_1 : wc.cell? ⟨gb135, 1, none⟩ = some (.string (⟨#[]⟩ : ByteArray)) := (blk_cell BK135.out 1).trans rfl; have hcz17_2 : wc.cell? ⟨gb135, 2, none⟩ = some (.string (⟨#[]⟩ : ByteArray)) := (blk_cell BK135.out 2).trans rfl; have hfz17_0 := blk_frozen BK135.out 0; have hfz17_1 := blk_frozen BK135.out 1; have hfz17_2 := blk_frozen BK135.out 2))
              refine bodyPost_ret (results_cell_row rfl _ _ gb135 47 #[.string (⟨#[48]⟩ : ByteArray), .string t140, .string t141] (0, 0) _ rfl (by (with_reducible repeat (first | refine blk_drewN ?_ _ | refine blk_drew ?_ | refine blk_alloc ?_ _)); refine blk_put (cs := #[.string (⟨#[48]⟩ : ByteArray), .string t140, .string (⟨#[]⟩ : ByteArray)]) ?_ 2 _ rfl; (with_reducible repeat (first | refine blk_drewN ?_ _ | refine blk_drew ?_ | refine blk_alloc ?_ _)); refine blk_put (cs := #[.string (⟨#[48]⟩ : ByteArray), .string (⟨#[]⟩ : ByteArray), .string (⟨#[]⟩ : ByteArray)]) ?_ 1 _ rfl; (with_reducible repeat (first | refine blk_drewN ?_ _ | refine blk_drew ?_ | refine blk_alloc ?_ _)); refine blk_put (cs := #[.string (⟨#[]⟩ : ByteArray), .string (⟨#[]⟩ : ByteArray), .string (⟨#[]⟩ : ByteArray)]) ?_ 0 _ rfl; (with_reducible repeat (first | refine blk_drewN ?_ _ | refine blk_drew ?_ | refine blk_alloc ?_ _)); exact BK135.out) Tryd.underlying47 rfl (by kernel_rfl)) rfl ?_
              exact ⟨by first | rfl | (simp [errW_none, errW_some] <;> rfl) | (simp [*, errW_none, errW_some] <;> rfl), by repeat (first | (with_reducible first | exact HB.out | apply below_alloc | apply pw_below_drewN | apply below_drew1 | refine below_set ?_ GE135.out) | exact HB.out)⟩
            · rw [if_neg c16] at H
              have c16b0 : (x3_7.toList.isEmpty) = false := by simpa using c16
              have c16b1 : (!x3_7.toList.isEmpty) = true := by simpa using c16
              simp only [Option.some.injEq, Prod.mk.injEq] at H
              obtain ⟨rfl, rfl, rfl⟩ := H
              go_wp2_with (first | ((with_reducible refine gate_callee (f := 35) rfl ?_); refine goesL_ (some 25) rfl rfl Tryd.func35 (by kernel_rfl) rfl #[.string x4_7, .string (⟨#[45]⟩ : ByteArray)] rfl (by (try simp only [List.map_toArray, List.map_cons, List.map_nil]); first | done | rfl | (simp only [List.length_drop, List.length_take]; rfl)) ?_; (with_reducible refine (semantic_zzCut.calls kj7 x4_7 (⟨#[45]⟩ : ByteArray) t140 t141 false _ A10.out).mono ?_); rintro e w' ⟨rfl, ⟨nd, rfl⟩⟩; refine ⟨_, rfl, ?_⟩; (try (rw [drewN_self wc]; generalize hq_ : World.drewN wc _ = wc; have n0_ : Aside0 (wc.heap[gb135]? = some (.cells #[.string (⟨#[]⟩ : ByteArray), .string (⟨#[]⟩ : ByteArray), .string (⟨#[]⟩ : ByteArray)] 47 (0, 0))) := ⟨by rw [← hq_]; exact (by (with_reducible repeat (first | refine blk_drewN ?_ _ | refine blk_drew ?_ | refine blk_alloc ?_ _)); exact BK135.out)⟩; have n1_ : Aside0 (Below w.heap.size w wc) := ⟨by rw [← hq_]; exact (by repeat (first | (with_reducible first | exact HB.out | apply below_alloc | apply pw_below_drewN | apply below_drew1 | refine below_set ?_ GE135.out) | exact HB.out))⟩; clear BK135 HB hq_; have BK135 := n0_; have HB := n1_; clear n0_ n1_)); have hcz18_0 : wc.cell? ⟨gb135, 0, none⟩ = some (.string (⟨#[]⟩ : ByteArray)) := (blk_cell BK135.out 0).trans rfl; have hcz18_1 : wc.cell? ⟨gb135, 1, none⟩ = some (.string (⟨#[]⟩ : ByteArray)) := (blk_cell BK135.out 1).trans rfl; have hcz18_2 : wc.cell? ⟨gb135, 2, none⟩ = some (.string (⟨#[]⟩ : ByteArray)) := (blk_cell BK135.out 2).trans rfl; have hfz18_0 := blk_frozen BK135.out 0; have hfz18_1 := blk_frozen BK135.out 1; have hfz18_2 := blk_frozen BK135.out 2))
              refine bodyPost_ret (results_cell_row rfl _ _ gb135 47 #[.string x3_7, .string t140, .string t141] (0, 0) _ rfl (by (with_reducible repeat (first | refine blk_drewN ?_ _ | refine blk_drew ?_ | refine blk_alloc ?_ _)); refine blk_put (cs := #[.string x3_7, .string t140, .string (⟨#[]⟩ : ByteArray)]) ?_ 2 _ rfl; (with_reducible repeat (first | refine blk_drewN ?_ _ | refine blk_drew ?_ | refine blk_alloc ?_ _)); refine blk_put (cs := #[.string x3_7, .string (⟨#[]⟩ : ByteArray), .string (⟨#[]⟩ : ByteArray)]) ?_ 1 _ rfl; (with_reducible repeat (first | refine blk_drewN ?_ _ | refine blk_drew ?_ | refine blk_alloc ?_ _)); refine blk_put (cs := #[.string (⟨#[]⟩ : ByteArray), .string (⟨#[]⟩ : ByteArray), .string (⟨#[]⟩ : ByteArray)]) ?_ 0 _ rfl; (with_reducible repeat (first | refine blk_drewN ?_ _ | refine blk_drew ?_ | refine blk_alloc ?_ _)); exact BK135.out) Tryd.underlying47 rfl (by kernel_rfl)) rfl ?_
              exact ⟨by first | rfl | (simp [errW_none, errW_some] <;> rfl) | (simp [*, errW_none, errW_some] <;> rfl), by repeat (first | (with_reducible first | exact HB.out | apply below_alloc | apply pw_below_drewN | apply below_drew1 | refine below_set ?_ GE135.out) | exact HB.out)⟩

end Go.Proofs.YtciojhhncfnagaaDoor.Z
