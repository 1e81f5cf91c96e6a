-- Written by a program of this session (myprint.py).
import Derived.Test.YtcagdmeiigjkcaaZ0
import Derived.Test.YtcagdmeiigjkcaaZ2
import Derived.Test.YtcagdmeiigjkcaaZ5
import Derived.Test.YtcagdmeiigjkcaaZ6
import Derived.Test.YtcagdmeiigjkcaaGe
namespace Go.Proofs.Ytcagdmeiigjkcaa.Z
open Go.RowKit Go.Proofs.YtcagdmeiigjkcaaW.PrintWords Go.Proofs.YtcagdmeiigjkcaaW.PrintLast Go.Proofs.YtcagdmeiigjkcaaW.PrintMore
attribute [local go_sem high] Go.Proofs.Ytcagdmeiigjkcaa.Ge.gtr_str
attribute [local go_sem] max2_int min2_int max_two min_two max_three min_three max_four min_four   -- for this text's walks alone
set_option linter.unusedVariables false
set_option linter.unusedSimpArgs false

/-! ### spec_CompareNumbers: function 11 -/
mutual
def spec_CompareNumbers.l0 : Nat → List (S28) → List (S28) → Int → Option (Int)
  | 0, _, _, _ => none
  | k + 1, x0, x1, x5 => if x5 < (x0.length : Int) then (spec_CompareNumbers.j1 k x0 x1 x5 true) else (spec_CompareNumbers.j1 k x0 x1 x5 (decide (x5 < (x1.length : Int))))
def spec_CompareNumbers.j1 : Nat → List (S28) → List (S28) → Int → Bool → Option (Int)
  | 0, _, _, _, _ => none
  | k + 1, x0, x1, x5, x18 => if x18 = true then (if x5 < (x0.length : Int) then (if 0 ≤ x5 then (spec_CompareNumbers.j2 k x0 x1 x5 ((rd_T28 x0 x5).f0) ((rd_T28 x0 x5).f1) false (⟨#[]⟩ : ByteArray)) else (none)) else (spec_CompareNumbers.j2 k x0 x1 x5 false (⟨#[]⟩ : ByteArray) false (⟨#[]⟩ : ByteArray))) else (some 0)
def spec_CompareNumbers.j2 : Nat → List (S28) → List (S28) → Int → Bool → ByteArray → Bool → ByteArray → Option (Int)
  | 0, _, _, _, _, _, _, _ => none
  | k + 1, x0, x1, x5, x143000, x143001, x144000, x144001 => if x5 < (x1.length : Int) then (if 0 ≤ x5 then ((spec_intOrder.f k x143000 x143001 ((rd_T28 x1 x5).f0) ((rd_T28 x1 x5).f1)).bind fun t146 => (if t146 = 0 then (spec_CompareNumbers.l0 k x0 x1 (wrap64 (x5 + 1))) else (some t146))) else (none)) else ((spec_intOrder.f k x143000 x143001 x144000 x144001).bind fun t147 => (if t147 = 0 then (spec_CompareNumbers.l0 k x0 x1 (wrap64 (x5 + 1))) else (some t147)))
end
def spec_CompareNumbers.f (k : Nat) (l0 : List (S28)) (l1 : List (S28)) : Option (Int) := spec_CompareNumbers.l0 k l0 l1 0
theorem spec_CompareNumbers.mono_l : ∀ k, (∀ y0 y1 y2, LeO (spec_CompareNumbers.l0 k y0 y1 y2) (spec_CompareNumbers.l0 (k + 1) y0 y1 y2)) ∧ (∀ y0 y1 y2 y3, LeO (spec_CompareNumbers.j1 k y0 y1 y2 y3) (spec_CompareNumbers.j1 (k + 1) y0 y1 y2 y3)) ∧ (∀ y0 y1 y2 y3 y4 y5 y6, LeO (spec_CompareNumbers.j2 k y0 y1 y2 y3 y4 y5 y6) (spec_CompareNumbers.j2 (k + 1) y0 y1 y2 y3 y4 y5 y6))
  | 0 => ⟨fun _ _ _ r h => by simp [spec_CompareNumbers.l0] at h, fun _ _ _ _ r h => by simp [spec_CompareNumbers.j1] at h, fun _ _ _ _ _ _ _ r h => by simp [spec_CompareNumbers.j2] at h⟩
  | k + 1 => by
    obtain ⟨ih0, ih1, ih2⟩ := spec_CompareNumbers.mono_l k
    refine ⟨?_, ?_, ?_⟩
    · intro y0 y1 y2
      unfold spec_CompareNumbers.l0
      repeat' first
      | (with_reducible exact ih0 _ _ _)
      | (with_reducible exact ih1 _ _ _ _)
      | (with_reducible exact ih2 _ _ _ _ _ _ _)
      | (with_reducible exact spec_intOrder.mono _ _ _ _ _)
      | (with_reducible exact LeO.refl _)
      | (with_reducible exact LeO.none _)
      | (with_reducible refine LeO.ite ?_ ?_)
      | (with_reducible refine LeO.bind ?_ (fun _ => ?_))
      | exact ih0 _ _ _
      | exact ih1 _ _ _ _
      | exact ih2 _ _ _ _ _ _ _
      | exact spec_intOrder.mono _ _ _ _ _
      | exact LeO.none _
      | refine LeO.ite ?_ ?_
      | refine LeO.bind ?_ (fun _ => ?_)
    · intro y0 y1 y2 y3
      unfold spec_CompareNumbers.j1
      repeat' first
      | (with_reducible exact ih0 _ _ _)
      | (with_reducible exact ih1 _ _ _ _)
      | (with_reducible exact ih2 _ _ _ _ _ _ _)
      | (with_reducible exact spec_intOrder.mono _ _ _ _ _)
      | (with_reducible exact LeO.refl _)
      | (with_reducible exact LeO.none _)
      | (with_reducible refine LeO.ite ?_ ?_)
      | (with_reducible refine LeO.bind ?_ (fun _ => ?_))
      | exact ih0 _ _ _
      | exact ih1 _ _ _ _
      | exact ih2 _ _ _ _ _ _ _
      | exact spec_intOrder.mono _ _ _ _ _
      | exact LeO.none _
      | refine LeO.ite ?_ ?_
      | refine LeO.bind ?_ (fun _ => ?_)
    · intro y0 y1 y2 y3 y4 y5 y6
      unfold spec_CompareNumbers.j2
      repeat' first
      | (with_reducible exact ih0 _ _ _)
      | (with_reducible exact ih1 _ _ _ _)
      | (with_reducible exact ih2 _ _ _ _ _ _ _)
      | (with_reducible exact spec_intOrder.mono _ _ _ _ _)
      | (with_reducible exact LeO.refl _)
      | (with_reducible exact LeO.none _)
      | (with_reducible refine LeO.ite ?_ ?_)
      | (with_reducible refine LeO.bind ?_ (fun _ => ?_))
      | exact ih0 _ _ _
      | exact ih1 _ _ _ _
      | exact ih2 _ _ _ _ _ _ _
      | exact spec_intOrder.mono _ _ _ _ _
      | exact LeO.none _
      | refine LeO.ite ?_ ?_
      | refine LeO.bind ?_ (fun _ => ?_)
theorem spec_CompareNumbers.mono : ∀ a0 a1 k, LeO (spec_CompareNumbers.f k a0 a1) (spec_CompareNumbers.f (k + 1) a0 a1) := by
  intro a0 a1 k
  obtain ⟨ih0, ih1, ih2⟩ := spec_CompareNumbers.mono_l k
  unfold spec_CompareNumbers.f
  repeat' first
      | (with_reducible exact ih0 _ _ _)
      | (with_reducible exact ih1 _ _ _ _)
      | (with_reducible exact ih2 _ _ _ _ _ _ _)
      | (with_reducible exact spec_intOrder.mono _ _ _ _ _)
      | (with_reducible exact LeO.refl _)
      | (with_reducible exact LeO.none _)
      | (with_reducible refine LeO.ite ?_ ?_)
      | (with_reducible refine LeO.bind ?_ (fun _ => ?_))
      | exact ih0 _ _ _
      | exact ih1 _ _ _ _
      | exact ih2 _ _ _ _ _ _ _
      | exact spec_intOrder.mono _ _ _ _ _
      | exact LeO.none _
      | refine LeO.ite ?_ ?_
      | refine LeO.bind ?_ (fun _ => ?_)
set_option maxHeartbeats 8000000 in
set_option maxRecDepth 100000 in
theorem spec_CompareNumbers.calls (k : Nat) (A0 : Option Addr) (c0 : Nat) (l0 : List (S28)) (A1 : Option Addr) (c1 : Nat) (l1 : List (S28)) (r : Int) (w : World) (hr0 : Kd.C k28 w A0 l0.length l0) (hc0 : l0.length ≤ c0) (hr1 : Kd.C k28 w A1 l1.length l1) (hc1 : l1.length ≤ c1) (h : spec_CompareNumbers.f k l0 l1 = some r) :
    Calls Try.prog 11 #[.slice A0 l0.length c0, .slice A1 l1.length c1] w fun e w' => e = .returned (.int .i64 r) ∧ Below w.heap.size w w' := by
  have hu28 := Try.underlying28
  have HR0 := Aside0.mk hr0
  have HC0 := Aside0.mk hc0
  clear hr0 hc0
  have HR1 := Aside0.mk hr1
  have HC1 := Aside0.mk hc1
  clear hr1 hc1
  have HB := Aside0.mk (Below.refl w.heap.size w)
  have H : (spec_CompareNumbers.l0 k l0 l1 0) = some r := h
  clear h
  have H' := Aside0.mk H
  clear H
  go_enter Try.func11, Try.ntmps11
  go_wp2
  go_loopg [5] k (fun kq v5 w' => ∃ (x5_1 : Int), v5 = .int .i64 x5_1 ∧ Aside0 (spec_CompareNumbers.l0 kq l0 l1 x5_1 = some r) ∧ Aside0 (kq ≤ k) ∧ Aside0 (Below w.heap.size w w'))
  case atStart => exact ⟨(0), (by first | rfl | (simp; done) | (simp [*]; done)), H', ⟨Nat.le_refl _⟩, ⟨by repeat (first | (with_reducible first | exact HB.out | apply below_alloc | apply pw_below_drewN | apply below_drew1) | exact HB.out)⟩⟩
  case round =>
    clear H'
    try clear c1
    try clear p2
    obtain ⟨x5_1, rfl, HA, HK1, HB⟩ := hrel
    cases gk with
    | zero => exact absurd HA.out (by simp [spec_CompareNumbers.l0])
    | succ k1 =>
      have H := HA.out
      clear HA
      simp only [spec_CompareNumbers.l0] at H
      have HC3 := Aside0.mk H
      clear H
      go_upto_region 2 with (fail)
      go_cut [18] (fun v18 wc => ∃ (kq : Nat) (x18_2 : Bool), v18 = .bool x18_2 ∧ Aside0 (spec_CompareNumbers.j1 kq l0 l1 x5_1 x18_2 = some r) ∧ Aside0 (kq ≤ k1) ∧ Aside0 (Below w.heap.size w wc))
      case first =>
        have H := HC3.out
        clear HC3
        by_cases c4 : x5_1 < (l0.length : Int)
        · rw [if_pos c4] at H
          have c4b0 : decide (x5_1 < (l0.length : Int)) = true := decide_eq_true c4
          clear c4
          (first | rw [c4b0] | (simp only [i64_w, i32_w]; rw [c4b0]) | skip)
          have H' := Aside0.mk H
          clear H
          go_wp2
          go_meet
          case rel => exact ⟨_, (true), (by first | rfl | (simp; done) | (simp [*]; done)), H', ⟨by have := HK1.out; first | omega | exact Nat.le_refl _⟩, ⟨by repeat (first | (with_reducible first | exact HB.out | apply below_alloc | apply pw_below_drewN | apply below_drew1) | exact HB.out)⟩⟩
        · rw [if_neg c4] at H
          have c4b0 : decide (x5_1 < (l0.length : Int)) = false := decide_eq_false c4
          clear c4
          (first | rw [c4b0] | (simp only [i64_w, i32_w]; rw [c4b0]) | skip)
          have H' := Aside0.mk H
          clear H
          go_wp2
          go_meet
          case rel => exact ⟨_, (decide (x5_1 < (l1.length : Int))), (by first | rfl | (simp; done) | (simp [*]; done)), H', ⟨by have := HK1.out; first | omega | exact Nat.le_refl _⟩, ⟨by repeat (first | (with_reducible first | exact HB.out | apply below_alloc | apply pw_below_drewN | apply below_drew1) | exact HB.out)⟩⟩
      case rest =>
        clear HC3
        try clear c1
        try clear p2
        try clear c4
        try clear c4b0
        try clear p2
        obtain ⟨kq, x18_2, rfl, HA, HJ2, HB⟩ := hcut
        cases kq with
        | zero => exact absurd HA.out (by simp [spec_CompareNumbers.j1])
        | succ kj2 =>
          have H := HA.out
          clear HA
          simp only [spec_CompareNumbers.j1] at H
          by_cases c5 : x18_2 = true
          · subst c5
            have H1 : (if x5_1 < (l0.length : Int) then (if 0 ≤ x5_1 then (spec_CompareNumbers.j2 kj2 l0 l1 x5_1 ((rd_T28 l0 x5_1).f0) ((rd_T28 l0 x5_1).f1) false (⟨#[]⟩ : ByteArray)) else (none)) else (spec_CompareNumbers.j2 kj2 l0 l1 x5_1 false (⟨#[]⟩ : ByteArray) false (⟨#[]⟩ : ByteArray))) = some r := by rw [if_pos rfl] at H; exact H
            clear H
            have H := H1
            clear H1
            have HC6 := Aside0.mk H
            clear H
            go_upto_if 24 with (first | ((with_reducible refine gate_dst (N := 6) rfl ?_); (try (refine gate_guard (by rfl) ?_; dsimp only)); refine box_event ?hg (N := 6) ?hd (cs := #[.bool false, .string (⟨#[]⟩ : ByteArray)]) (t := 28) ?hr ?_; (case hd => rfl); (case hg => rfl); (case hr => first | (go_simp; done) | (go_simp; rfl)); intro gb142 hg w7 hbox hb; have n0_ := Aside0.mk (below_step (by repeat (first | (with_reducible first | exact HB.out | apply below_alloc | apply pw_below_drewN | apply below_drew1) | exact HB.out)) hb); have n1_ := Aside0.mk (hbox); have n2_ := Aside0.mk ((by rw [hg]; exact (below_size (by repeat (first | (with_reducible first | exact HB.out | apply below_alloc | apply pw_below_drewN | apply below_drew1) | exact HB.out))) : w.heap.size ≤ gb142)); have n3_ := Aside0.mk ((by rw [hg]; exact (below_size (by repeat (first | (with_reducible first | exact HB.out | apply below_alloc | apply pw_below_drewN | apply below_drew1) | exact HB.out))) : w.heap.size ≤ gb142)); clear HB; have HB := n0_; have BK142 := n1_; have GW142 := n2_; have GE142 := n3_; clear n0_ n1_ n2_ n3_; clear hb hbox hg) | ((with_reducible refine gate_dst (N := 7) rfl ?_); (try (refine gate_guard (by rfl) ?_; dsimp only)); refine box_event ?hg (N := 7) ?hd (cs := #[.bool false, .string (⟨#[]⟩ : ByteArray)]) (t := 28) ?hr ?_; (case hd => rfl); (case hg => rfl); (case hr => first | (go_simp; done) | (go_simp; rfl)); intro gb143 hg w8 hbox hb; have n0_ := Aside0.mk (blk_below (g := gb142) (o := .cells #[.bool false, .string (⟨#[]⟩ : ByteArray)] 28 (0, 0)) (by (with_reducible repeat (first | refine blk_drewN ?_ _ | refine blk_drew ?_ | refine blk_alloc ?_ _)); exact BK142.out) hb); have n1_ := Aside0.mk (below_step (by repeat (first | (with_reducible first | exact HB.out | apply below_alloc | apply pw_below_drewN | apply below_drew1 | refine below_set ?_ GE142.out) | exact HB.out)) hb); have n2_ := Aside0.mk (hbox); have n3_ := Aside0.mk ((by rw [hg]; exact (below_size (by repeat (first | (with_reducible first | exact HB.out | apply below_alloc | apply pw_below_drewN | apply below_drew1 | refine below_set ?_ GE142.out) | exact HB.out))) : w.heap.size ≤ gb143)); have n4_ := Aside0.mk ((by rw [hg]; exact (below_size (by repeat (first | (with_reducible first | exact HB.out | apply below_alloc | apply pw_below_drewN | apply below_drew1 | refine below_set ?_ GE142.out) | exact HB.out))) : w.heap.size ≤ gb143)); have n5_ := Aside0.mk ((by rw [hg]; exact Nat.ne_of_lt (blk_lt (g := gb142) (o := .cells #[.bool false, .string (⟨#[]⟩ : ByteArray)] 28 (0, 0)) (by (with_reducible repeat (first | refine blk_drewN ?_ _ | refine blk_drew ?_ | refine blk_alloc ?_ _)); exact BK142.out)) : gb142 ≠ gb143)); have n6_ := Aside0.mk ((by rw [hg]; exact Nat.ne_of_gt (blk_lt (g := gb142) (o := .cells #[.bool false, .string (⟨#[]⟩ : ByteArray)] 28 (0, 0)) (by (with_reducible repeat (first | refine blk_drewN ?_ _ | refine blk_drew ?_ | refine blk_alloc ?_ _)); exact BK142.out)) : gb143 ≠ gb142)); clear BK142; clear HB; have BK142 := n0_; have HB := n1_; have BK143 := n2_; have GW143 := n3_; have GE143 := n4_; have NB142_143 := n5_; have NB143_142 := n6_; clear n0_ n1_ n2_ n3_ n4_ n5_ n6_; clear hb hbox hg))
            (try simp only [Act.put, List.setIfInBounds_toArray, List.set_cons_zero, List.set_cons_succ])
            go_cut [] (fun wc => ∃ (kq : Nat) (x143000_5 : Bool) (x143001_5 : ByteArray), Aside0 (spec_CompareNumbers.j2 kq l0 l1 x5_1 x143000_5 x143001_5 false (⟨#[]⟩ : ByteArray) = some r) ∧ Aside0 (kq ≤ kj2) ∧ Aside0 (wc.heap[gb142]? = some (.cells #[.bool x143000_5, .string x143001_5] 28 (0, 0))) ∧ Aside0 (wc.heap[gb143]? = some (.cells #[.bool false, .string (⟨#[]⟩ : ByteArray)] 28 (0, 0))) ∧ Aside0 (Below w.heap.size w wc))
            case first =>
              have H := HC6.out
              clear HC6
              by_cases c9 : x5_1 < (l0.length : Int)
              · rw [if_pos c9] at H
                have c9b0 : decide (x5_1 < (l0.length : Int)) = true := decide_eq_true c9
                clear c9
                (first | rw [c9b0] | (simp only [i64_w, i32_w]; rw [c9b0]) | skip)
                by_cases c10 : 0 ≤ x5_1
                · rw [if_pos c10] at H
                  have c10b0 : decide (0 ≤ x5_1) = true := decide_eq_true c10
                  clear c10
                  have H' := Aside0.mk H
                  clear H
                  have p144 : 0 ≤ (x5_1 : Int) := of_decide_eq_true (by first | (with_reducible assumption) | assumption)
                  have q144 : x5_1 < (l0.length : Int) := of_decide_eq_true (by first | (with_reducible assumption) | assumption)
                  obtain ⟨ad144, e144, hx144_0, hx144_1⟩ := at_T28 HR0.out x5_1 p144 q144
                  cases e144
                  replace hx144_0 := (HB.out.cell (World.block_lt_of_cell? w _ hx144_0)).trans hx144_0
                  replace hx144_1 := (HB.out.cell (World.block_lt_of_cell? w _ hx144_1)).trans hx144_1
                  replace p144 := eq_true p144
                  replace q144 := eq_true q144
                  have hnb11 := NB142_143.out
                  have hnc11 := NB143_142.out
                  have hcz12_0 : w8.cell? ⟨gb142, 0, none⟩ = some (.bool false) := (blk_cell BK142.out 0).trans rfl
                  have hcz12_1 : w8.cell? ⟨gb142, 1, none⟩ = some (.string (⟨#[]⟩ : ByteArray)) := (blk_cell BK142.out 1).trans rfl
                  have hfz12_0 := blk_frozen BK142.out 0
                  have hfz12_1 := blk_frozen BK142.out 1
                  go_wp2
                  go_meet
                  case rel => exact ⟨_, ((rd_T28 l0 x5_1).f0), ((rd_T28 l0 x5_1).f1), H', ⟨by have := HK1.out; have := HJ2.out; first | omega | exact Nat.le_refl _⟩, ⟨by (with_reducible repeat (first | refine blk_drewN ?_ _ | refine blk_drew ?_ | refine blk_alloc ?_ _)); refine blk_put (cs := #[.bool ((rd_T28 l0 x5_1).f0), .string (⟨#[]⟩ : ByteArray)]) ?_ 1 _ rfl; (with_reducible repeat (first | refine blk_drewN ?_ _ | refine blk_drew ?_ | refine blk_alloc ?_ _)); refine blk_put (cs := #[.bool false, .string (⟨#[]⟩ : ByteArray)]) ?_ 0 _ rfl; (with_reducible repeat (first | refine blk_drewN ?_ _ | refine blk_drew ?_ | refine blk_alloc ?_ _)); exact BK142.out⟩, ⟨by (with_reducible repeat (first | refine blk_drewN ?_ _ | refine blk_drew ?_ | refine blk_alloc ?_ _)); refine blk_far ?_ NB143_142.out _; (with_reducible repeat (first | refine blk_drewN ?_ _ | refine blk_drew ?_ | refine blk_alloc ?_ _)); refine blk_far ?_ NB143_142.out _; (with_reducible repeat (first | refine blk_drewN ?_ _ | refine blk_drew ?_ | refine blk_alloc ?_ _)); exact BK143.out⟩, ⟨by repeat (first | (with_reducible first | exact HB.out | apply below_alloc | apply pw_below_drewN | apply below_drew1 | refine below_set ?_ GE142.out | refine below_set ?_ GE143.out) | exact HB.out)⟩⟩
                · rw [if_neg c10] at H
                  exact absurd H (by simp)
              · rw [if_neg c9] at H
                have c9b0 : decide (x5_1 < (l0.length : Int)) = false := decide_eq_false c9
                clear c9
                (first | rw [c9b0] | (simp only [i64_w, i32_w]; rw [c9b0]) | skip)
                have H' := Aside0.mk H
                clear H
                go_wp2
                go_meet
                case rel => exact ⟨_, (false), ((⟨#[]⟩ : ByteArray)), H', ⟨by have := HK1.out; have := HJ2.out; first | omega | exact Nat.le_refl _⟩, ⟨by (with_reducible repeat (first | refine blk_drewN ?_ _ | refine blk_drew ?_ | refine blk_alloc ?_ _)); exact BK142.out⟩, ⟨by (with_reducible repeat (first | refine blk_drewN ?_ _ | refine blk_drew ?_ | refine blk_alloc ?_ _)); exact BK143.out⟩, ⟨by repeat (first | (with_reducible first | exact HB.out | apply below_alloc | apply pw_below_drewN | apply below_drew1 | refine below_set ?_ GE142.out | refine below_set ?_ GE143.out) | exact HB.out)⟩⟩
            case rest =>
              clear HC6
              try clear c1
              try clear p1
              try clear q1
              try clear hx1
              try clear p2
              try clear c4
              try clear c4b0
              try clear c5
              try clear c9
              try clear c9b0
              try clear c10
              try clear c10b0
              try clear c11
              try clear hcz12_0
              try clear hcz12_1
              try clear hfz12_0
              try clear hfz12_1
              try clear hx144_0
              try clear hx144_1
              try clear p144
              try clear p2
              try clear q144
              obtain ⟨kq, x143000_5, x143001_5, HA, HJ5, BK142, BK143, HB⟩ := hcut
              cases kq with
              | zero => exact absurd HA.out (by simp [spec_CompareNumbers.j2])
              | succ kj5 =>
                have H := HA.out
                clear HA
                simp only [spec_CompareNumbers.j2] at H
                by_cases c13 : x5_1 < (l1.length : Int)
                · rw [if_pos c13] at H
                  have c13b0 : decide (x5_1 < (l1.length : Int)) = true := decide_eq_true c13
                  clear c13
                  by_cases c14 : 0 ≤ x5_1
                  · rw [if_pos c14] at H
                    have c14b0 : decide (0 ≤ x5_1) = true := decide_eq_true c14
                    clear c14
                    replace H := Option.bind_eq_some_iff.mp H
                    obtain ⟨t146, A150, H⟩ := H
                    replace H : (if t146 = 0 then (spec_CompareNumbers.l0 kj5 l0 l1 (wrap64 (x5_1 + 1))) else (some t146)) = some r := H
                    have A15 := Aside0.mk A150
                    clear A150
                    by_cases c16 : t146 = 0
                    · rw [if_pos c16] at H
                      have c16b0 : (t146 == 0) = true := beq_iff_eq.mpr c16
                      have c16b1 : (t146 != 0) = false := bne_eq_false_iff_eq.mpr c16
                      clear c16
                      have H' := Aside0.mk H
                      clear H
                      have p145 : 0 ≤ (x5_1 : Int) := of_decide_eq_true (by first | (with_reducible assumption) | assumption)
                      have q145 : x5_1 < (l1.length : Int) := of_decide_eq_true (by first | (with_reducible assumption) | assumption)
                      obtain ⟨ad145, e145, hx145_0, hx145_1⟩ := at_T28 HR1.out x5_1 p145 q145
                      cases e145
                      replace hx145_0 := (HB.out.cell (World.block_lt_of_cell? w _ hx145_0)).trans hx145_0
                      replace hx145_1 := (HB.out.cell (World.block_lt_of_cell? w _ hx145_1)).trans hx145_1
                      replace p145 := eq_true p145
                      replace q145 := eq_true q145
                      have hnb17 := NB143_142.out
                      have hnc17 := NB142_143.out
                      have hcz18_0 : wc.cell? ⟨gb143, 0, none⟩ = some (.bool false) := (blk_cell BK143.out 0).trans rfl
                      have hcz18_1 : wc.cell? ⟨gb143, 1, none⟩ = some (.string (⟨#[]⟩ : ByteArray)) := (blk_cell BK143.out 1).trans rfl
                      have hfz18_0 := blk_frozen BK143.out 0
                      have hfz18_1 := blk_frozen BK143.out 1
                      have hcz19_0 : wc.cell? ⟨gb142, 0, none⟩ = some (.bool x143000_5) := (blk_cell BK142.out 0).trans rfl
                      have hcz19_1 : wc.cell? ⟨gb142, 1, none⟩ = some (.string x143001_5) := (blk_cell BK142.out 1).trans rfl
                      have hfz19_0 := blk_frozen BK142.out 0
                      have hfz19_1 := blk_frozen BK142.out 1
                      go_wp2_with (first | ((with_reducible refine gate_callee (f := 31) rfl ?_); refine goesL_ (some 39) rfl rfl Try.func31 (by kernel_rfl) rfl #[.agg #[.bool x143000_5, .string x143001_5], .agg #[.bool ((rd_T28 l1 x5_1).f0), .string ((rd_T28 l1 x5_1).f1)]] rfl (by (try simp only [List.map_toArray, List.map_cons, List.map_nil]); first | done | rfl | (simp only [List.length_drop, List.length_take]; rfl)) ?_; (with_reducible refine (spec_intOrder.calls kj5 x143000_5 x143001_5 ((rd_T28 l1 x5_1).f0) ((rd_T28 l1 x5_1).f1) t146 _ A15.out).mono ?_); rintro e w20 ⟨rfl, hb⟩; refine ⟨_, rfl, ?_⟩; have n0_ := Aside0.mk (blk_below (g := gb142) (o := .cells #[.bool x143000_5, .string x143001_5] 28 (0, 0)) (by (with_reducible repeat (first | refine blk_drewN ?_ _ | refine blk_drew ?_ | refine blk_alloc ?_ _)); refine blk_far ?_ NB142_143.out _; (with_reducible repeat (first | refine blk_drewN ?_ _ | refine blk_drew ?_ | refine blk_alloc ?_ _)); refine blk_far ?_ NB142_143.out _; (with_reducible repeat (first | refine blk_drewN ?_ _ | refine blk_drew ?_ | refine blk_alloc ?_ _)); exact BK142.out) hb); have n1_ := Aside0.mk (blk_below (g := gb143) (o := .cells #[.bool ((rd_T28 l1 x5_1).f0), .string ((rd_T28 l1 x5_1).f1)] 28 (0, 0)) (by (with_reducible repeat (first | refine blk_drewN ?_ _ | refine blk_drew ?_ | refine blk_alloc ?_ _)); refine blk_put (cs := #[.bool ((rd_T28 l1 x5_1).f0), .string (⟨#[]⟩ : ByteArray)]) ?_ 1 _ rfl; (with_reducible repeat (first | refine blk_drewN ?_ _ | refine blk_drew ?_ | refine blk_alloc ?_ _)); refine blk_put (cs := #[.bool false, .string (⟨#[]⟩ : ByteArray)]) ?_ 0 _ rfl; (with_reducible repeat (first | refine blk_drewN ?_ _ | refine blk_drew ?_ | refine blk_alloc ?_ _)); exact BK143.out) hb); have n2_ := Aside0.mk (below_step (by repeat (first | (with_reducible first | exact HB.out | apply below_alloc | apply pw_below_drewN | apply below_drew1 | refine below_set ?_ GE142.out | refine below_set ?_ GE143.out) | exact HB.out)) hb); clear BK142; clear BK143; clear HB; have BK142 := n0_; have BK143 := n1_; have HB := n2_; clear n0_ n1_ n2_; (try clear hb); (try clear hb2); (try clear hk); (try clear hi)))
                      go_roundg kj5
                      case measure => have := HK1.out; have := HJ2.out; have := HJ5.out; omega
                      case rel => exact ⟨(wrap64 (x5_1 + 1)), (by first | rfl | (simp; done) | (simp [*]; done)), H', ⟨by have := HK1.out; have := HJ2.out; have := HJ5.out; omega⟩, ⟨by repeat (first | (with_reducible first | exact HB.out | apply below_alloc | apply pw_below_drewN | apply below_drew1 | refine below_set ?_ GE142.out | refine below_set ?_ GE143.out) | exact HB.out)⟩⟩
                    · rw [if_neg c16] at H
                      have c16b0 : (t146 == 0) = false := beq_eq_false_iff_ne.mpr c16
                      have c16b1 : (t146 != 0) = true := bne_iff_ne.mpr c16
                      obtain rfl := Option.some.inj H
                      have p145 : 0 ≤ (x5_1 : Int) := of_decide_eq_true (by first | (with_reducible assumption) | assumption)
                      have q145 : x5_1 < (l1.length : Int) := of_decide_eq_true (by first | (with_reducible assumption) | assumption)
                      obtain ⟨ad145, e145, hx145_0, hx145_1⟩ := at_T28 HR1.out x5_1 p145 q145
                      cases e145
                      replace hx145_0 := (HB.out.cell (World.block_lt_of_cell? w _ hx145_0)).trans hx145_0
                      replace hx145_1 := (HB.out.cell (World.block_lt_of_cell? w _ hx145_1)).trans hx145_1
                      replace p145 := eq_true p145
                      replace q145 := eq_true q145
                      have hnb21 := NB143_142.out
                      have hnc21 := NB142_143.out
                      have hcz22_0 : wc.cell? ⟨gb143, 0, none⟩ = some (.bool false) := (blk_cell BK143.out 0).trans rfl
                      have hcz22_1 : wc.cell? ⟨gb143, 1, none⟩ = some (.string (⟨#[]⟩ : ByteArray)) := (blk_cell BK143.out 1).trans rfl
                      have hfz22_0 := blk_frozen BK143.out 0
                      have hfz22_1 := blk_frozen BK143.out 1
                      have hcz23_0 : wc.cell? ⟨gb142, 0, none⟩ = some (.bool x143000_5) := (blk_cell BK142.out 0).trans rfl
                      have hcz23_1 : wc.cell? ⟨gb142, 1, none⟩ = some (.string x143001_5) := (blk_cell BK142.out 1).trans rfl
                      have hfz23_0 := blk_frozen BK142.out 0
                      have hfz23_1 := blk_frozen BK142.out 1
                      go_wp2_with (first | ((with_reducible refine gate_callee (f := 31) rfl ?_); refine goesL_ (some 39) rfl rfl Try.func31 (by kernel_rfl) rfl #[.agg #[.bool x143000_5, .string x143001_5], .agg #[.bool ((rd_T28 l1 x5_1).f0), .string ((rd_T28 l1 x5_1).f1)]] rfl (by (try simp only [List.map_toArray, List.map_cons, List.map_nil]); first | done | rfl | (simp only [List.length_drop, List.length_take]; rfl)) ?_; (with_reducible refine (spec_intOrder.calls kj5 x143000_5 x143001_5 ((rd_T28 l1 x5_1).f0) ((rd_T28 l1 x5_1).f1) t146 _ A15.out).mono ?_); rintro e w24 ⟨rfl, hb⟩; refine ⟨_, rfl, ?_⟩; have n0_ := Aside0.mk (blk_below (g := gb142) (o := .cells #[.bool x143000_5, .string x143001_5] 28 (0, 0)) (by (with_reducible repeat (first | refine blk_drewN ?_ _ | refine blk_drew ?_ | refine blk_alloc ?_ _)); refine blk_far ?_ NB142_143.out _; (with_reducible repeat (first | refine blk_drewN ?_ _ | refine blk_drew ?_ | refine blk_alloc ?_ _)); refine blk_far ?_ NB142_143.out _; (with_reducible repeat (first | refine blk_drewN ?_ _ | refine blk_drew ?_ | refine blk_alloc ?_ _)); exact BK142.out) hb); have n1_ := Aside0.mk (blk_below (g := gb143) (o := .cells #[.bool ((rd_T28 l1 x5_1).f0), .string ((rd_T28 l1 x5_1).f1)] 28 (0, 0)) (by (with_reducible repeat (first | refine blk_drewN ?_ _ | refine blk_drew ?_ | refine blk_alloc ?_ _)); refine blk_put (cs := #[.bool ((rd_T28 l1 x5_1).f0), .string (⟨#[]⟩ : ByteArray)]) ?_ 1 _ rfl; (with_reducible repeat (first | refine blk_drewN ?_ _ | refine blk_drew ?_ | refine blk_alloc ?_ _)); refine blk_put (cs := #[.bool false, .string (⟨#[]⟩ : ByteArray)]) ?_ 0 _ rfl; (with_reducible repeat (first | refine blk_drewN ?_ _ | refine blk_drew ?_ | refine blk_alloc ?_ _)); exact BK143.out) hb); have n2_ := Aside0.mk (below_step (by repeat (first | (with_reducible first | exact HB.out | apply below_alloc | apply pw_below_drewN | apply below_drew1 | refine below_set ?_ GE142.out | refine below_set ?_ GE143.out) | exact HB.out)) hb); clear BK142; clear BK143; clear HB; have BK142 := n0_; have BK143 := n1_; have HB := n2_; clear n0_ n1_ n2_; (try clear hb); (try clear hb2); (try clear hk); (try clear hi)))
                      go_ret
                      exact ⟨by first | rfl | (simp [errW_none, errW_some] <;> rfl) | (simp [*, errW_none, errW_some] <;> rfl), by repeat (first | (with_reducible first | exact HB.out | apply below_alloc | apply pw_below_drewN | apply below_drew1 | refine below_set ?_ GE142.out | refine below_set ?_ GE143.out) | exact HB.out)⟩
                  · rw [if_neg c14] at H
                    exact absurd H (by simp)
                · rw [if_neg c13] at H
                  have c13b0 : decide (x5_1 < (l1.length : Int)) = false := decide_eq_false c13
                  clear c13
                  replace H := Option.bind_eq_some_iff.mp H
                  obtain ⟨t147, A250, H⟩ := H
                  replace H : (if t147 = 0 then (spec_CompareNumbers.l0 kj5 l0 l1 (wrap64 (x5_1 + 1))) else (some t147)) = some r := H
                  have A25 := Aside0.mk A250
                  clear A250
                  by_cases c26 : t147 = 0
                  · rw [if_pos c26] at H
                    have c26b0 : (t147 == 0) = true := beq_iff_eq.mpr c26
                    have c26b1 : (t147 != 0) = false := bne_eq_false_iff_eq.mpr c26
                    clear c26
                    have H' := Aside0.mk H
                    clear H
                    have hnb27 := NB142_143.out
                    have hnc27 := NB143_142.out
                    have hcz28_0 : wc.cell? ⟨gb142, 0, none⟩ = some (.bool x143000_5) := (blk_cell BK142.out 0).trans rfl
                    have hcz28_1 : wc.cell? ⟨gb142, 1, none⟩ = some (.string x143001_5) := (blk_cell BK142.out 1).trans rfl
                    have hfz28_0 := blk_frozen BK142.out 0
                    have hfz28_1 := blk_frozen BK142.out 1
                    have hcz29_0 : wc.cell? ⟨gb143, 0, none⟩ = some (.bool false) := (blk_cell BK143.out 0).trans rfl
                    have hcz29_1 : wc.cell? ⟨gb143, 1, none⟩ = some (.string (⟨#[]⟩ : ByteArray)) := (blk_cell BK143.out 1).trans rfl
                    have hfz29_0 := blk_frozen BK143.out 0
                    have hfz29_1 := blk_frozen BK143.out 1
                    go_wp2_with (first | ((with_reducible refine gate_callee (f := 31) rfl ?_); refine goesL_ (some 39) rfl rfl Try.func31 (by kernel_rfl) rfl #[.agg #[.bool x143000_5, .string x143001_5], .agg #[.bool false, .string (⟨#[]⟩ : ByteArray)]] rfl (by (try simp only [List.map_toArray, List.map_cons, List.map_nil]); first | done | rfl | (simp only [List.length_drop, List.length_take]; rfl)) ?_; (with_reducible refine (spec_intOrder.calls kj5 x143000_5 x143001_5 false (⟨#[]⟩ : ByteArray) t147 _ A25.out).mono ?_); rintro e w30 ⟨rfl, hb⟩; refine ⟨_, rfl, ?_⟩; have n0_ := Aside0.mk (blk_below (g := gb142) (o := .cells #[.bool x143000_5, .string x143001_5] 28 (0, 0)) (by (with_reducible repeat (first | refine blk_drewN ?_ _ | refine blk_drew ?_ | refine blk_alloc ?_ _)); exact BK142.out) hb); have n1_ := Aside0.mk (blk_below (g := gb143) (o := .cells #[.bool false, .string (⟨#[]⟩ : ByteArray)] 28 (0, 0)) (by (with_reducible repeat (first | refine blk_drewN ?_ _ | refine blk_drew ?_ | refine blk_alloc ?_ _)); exact BK143.out) hb); have n2_ := Aside0.mk (below_step (by repeat (first | (with_reducible first | exact HB.out | apply below_alloc | apply pw_below_drewN | apply below_drew1 | refine below_set ?_ GE142.out | refine below_set ?_ GE143.out) | exact HB.out)) hb); clear BK142; clear BK143; clear HB; have BK142 := n0_; have BK143 := n1_; have HB := n2_; clear n0_ n1_ n2_; (try clear hb); (try clear hb2); (try clear hk); (try clear hi)))
                    go_roundg kj5
                    case measure => have := HK1.out; have := HJ2.out; have := HJ5.out; omega
                    case rel => exact ⟨(wrap64 (x5_1 + 1)), (by first | rfl | (simp; done) | (simp [*]; done)), H', ⟨by have := HK1.out; have := HJ2.out; have := HJ5.out; omega⟩, ⟨by repeat (first | (with_reducible first | exact HB.out | apply below_alloc | apply pw_below_drewN | apply below_drew1 | refine below_set ?_ GE142.out | refine below_set ?_ GE143.out) | exact HB.out)⟩⟩
                  · rw [if_neg c26] at H
                    have c26b0 : (t147 == 0) = false := beq_eq_false_iff_ne.mpr c26
                    have c26b1 : (t147 != 0) = true := bne_iff_ne.mpr c26
                    obtain rfl := Option.some.inj H
                    have hnb31 := NB142_143.out
                    have hnc31 := NB143_142.out
                    have hcz32_0 : wc.cell? ⟨gb142, 0, none⟩ = some (.bool x143000_5) := (blk_cell BK142.out 0).trans rfl
                    have hcz32_1 : wc.cell? ⟨gb142, 1, none⟩ = some (.string x143001_5) := (blk_cell BK142.out 1).trans rfl
                    have hfz32_0 := blk_frozen BK142.out 0
                    have hfz32_1 := blk_frozen BK142.out 1
                    have hcz33_0 : wc.cell? ⟨gb143, 0, none⟩ = some (.bool false) := (blk_cell BK143.out 0).trans rfl
                    have hcz33_1 : wc.cell? ⟨gb143, 1, none⟩ = some (.string (⟨#[]⟩ : ByteArray)) := (blk_cell BK143.out 1).trans rfl
                    have hfz33_0 := blk_frozen BK143.out 0
                    have hfz33_1 := blk_frozen BK143.out 1
                    go_wp2_with (first | ((with_reducible refine gate_callee (f := 31) rfl ?_); refine goesL_ (some 39) rfl rfl Try.func31 (by kernel_rfl) rfl #[.agg #[.bool x143000_5, .string x143001_5], .agg #[.bool false, .string (⟨#[]⟩ : ByteArray)]] rfl (by (try simp only [List.map_toArray, List.map_cons, List.map_nil]); first | done | rfl | (simp only [List.length_drop, List.length_take]; rfl)) ?_; (with_reducible refine (spec_intOrder.calls kj5 x143000_5 x143001_5 false (⟨#[]⟩ : ByteArray) t147 _ A25.out).mono ?_); rintro e w34 ⟨rfl, hb⟩; refine ⟨_, rfl, ?_⟩; have n0_ := Aside0.mk (blk_below (g := gb142) (o := .cells #[.bool x143000_5, .string x143001_5] 28 (0, 0)) (by (with_reducible repeat (first | refine blk_drewN ?_ _ | refine blk_drew ?_ | refine blk_alloc ?_ _)); exact BK142.out) hb); have n1_ := Aside0.mk (blk_below (g := gb143) (o := .cells #[.bool false, .string (⟨#[]⟩ : ByteArray)] 28 (0, 0)) (by (with_reducible repeat (first | refine blk_drewN ?_ _ | refine blk_drew ?_ | refine blk_alloc ?_ _)); exact BK143.out) hb); have n2_ := Aside0.mk (below_step (by repeat (first | (with_reducible first | exact HB.out | apply below_alloc | apply pw_below_drewN | apply below_drew1 | refine below_set ?_ GE142.out | refine below_set ?_ GE143.out) | exact HB.out)) hb); clear BK142; clear BK143; clear HB; have BK142 := n0_; have BK143 := n1_; have HB := n2_; clear n0_ n1_ n2_; (try clear hb); (try clear hb2); (try clear hk); (try clear hi)))
                    go_ret
                    exact ⟨by first | rfl | (simp [errW_none, errW_some] <;> rfl) | (simp [*, errW_none, errW_some] <;> rfl), by repeat (first | (with_reducible first | exact HB.out | apply below_alloc | apply pw_below_drewN | apply below_drew1 | refine below_set ?_ GE142.out | refine below_set ?_ GE143.out) | exact HB.out)⟩
          · replace c5 := Bool.eq_false_iff.mpr c5
            subst c5
            have H1 : (some 0) = some r := by rw [if_neg (show ¬ (false = true) by decide)] at H; exact H
            clear H
            have H := H1
            clear H1
            obtain rfl := Option.some.inj H
            go_wp2
            go_ret
            exact ⟨by first | rfl | (simp [errW_none, errW_some] <;> rfl) | (simp [*, errW_none, errW_some] <;> rfl), by repeat (first | (with_reducible first | exact HB.out | apply below_alloc | apply pw_below_drewN | apply below_drew1) | exact HB.out)⟩

/-! ### laws_turned: function 12 -/
def laws_turned.f (a0 : Int) (a1 : Int) : Option (Bool) := if a0 = (wrap64 (-a1)) then (if a0 ≥ (-1) then (some (decide (a0 ≤ 1))) else (some false)) else (some false)
set_option maxHeartbeats 8000000 in
set_option maxRecDepth 100000 in
theorem laws_turned.calls (a0 : Int) (a1 : Int) (r : Bool) (w : World) (h : laws_turned.f a0 a1 = some r) :
    Calls Try.prog 12 #[.int .i64 a0, .int .i64 a1] w fun e w' => e = .returned (.bool r) ∧ Drawn0 w w' := by
  have H : (if a0 = (wrap64 (-a1)) then (if a0 ≥ (-1) then (some (decide (a0 ≤ 1))) else (some false)) else (some false)) = some r := h
  clear h
  by_cases c3 : a0 = (wrap64 (-a1))
  · rw [if_pos c3] at H
    have c3b0 : (a0 == (wrap64 (-a1))) = true := beq_iff_eq.mpr c3
    have c3b1 : (a0 != (wrap64 (-a1))) = false := bne_eq_false_iff_eq.mpr c3
    clear c3
    by_cases c4 : a0 ≥ (-1)
    · rw [if_pos c4] at H
      have c4b0 : decide ((-1) ≤ a0) = true := decide_eq_true c4
      clear c4
      obtain rfl := Option.some.inj H
      go_enter Try.func12, Try.ntmps12
      go_wp2
      go_ret
      exact ⟨by first | rfl | (simp; done) | (simp [*]; done), by repeat (first | exact Drawn0.refl _ | apply Drawn0.step)⟩
    · rw [if_neg c4] at H
      have c4b0 : decide ((-1) ≤ a0) = false := decide_eq_false c4
      clear c4
      obtain rfl := Option.some.inj H
      go_enter Try.func12, Try.ntmps12
      go_wp2
      go_ret
      exact ⟨by first | rfl | (simp; done) | (simp [*]; done), by repeat (first | exact Drawn0.refl _ | apply Drawn0.step)⟩
  · rw [if_neg c3] at H
    have c3b0 : (a0 == (wrap64 (-a1))) = false := beq_eq_false_iff_ne.mpr c3
    have c3b1 : (a0 != (wrap64 (-a1))) = true := bne_iff_ne.mpr c3
    obtain rfl := Option.some.inj H
    go_enter Try.func12, Try.ntmps12
    go_wp2
    go_ret
    exact ⟨by first | rfl | (simp; done) | (simp [*]; done), by repeat (first | exact Drawn0.refl _ | apply Drawn0.step)⟩

/-! ### laws_FnNumbers: function 3 -/
mutual
def laws_FnNumbers.j0 : Nat → List (S28) → List (S28) → Bool → Option (Bool)
  | 0, _, _, _ => none
  | k + 1, x0, x1, x13 => if x13 = true then (some true) else ((laws_numbers.f k x0).bind fun t150 => (if t150 = true then ((laws_numbers.f k x1).bind fun t151 => (laws_FnNumbers.j1 k x0 x1 (!t151))) else (laws_FnNumbers.j1 k x0 x1 true)))
def laws_FnNumbers.j1 : Nat → List (S28) → List (S28) → Bool → Option (Bool)
  | 0, _, _, _ => none
  | k + 1, x0, x1, x21 => if x21 = true then (some true) else ((impl_CompareNumbers.f x0 x1).bind fun t152 => ((spec_CompareNumbers.f k x0 x1).bind fun t153 => (if t152 = t153 then ((impl_CompareNumbers.f x1 x0).bind fun t154 => ((laws_turned.f t152 t154).bind fun t155 => (some t155))) else (some false))))
end
def laws_FnNumbers.f (k : Nat) (l0 : List (S28)) (l1 : List (S28)) : Option (Bool) := (laws_zzFits2.f k l0).bind fun t148 => (if t148 = true then ((laws_zzFits2.f k l1).bind fun t149 => (laws_FnNumbers.j0 k l0 l1 (!t149))) else (laws_FnNumbers.j0 k l0 l1 true))
theorem laws_FnNumbers.mono_l : ∀ k, (∀ y0 y1 y2, LeO (laws_FnNumbers.j0 k y0 y1 y2) (laws_FnNumbers.j0 (k + 1) y0 y1 y2)) ∧ (∀ y0 y1 y2, LeO (laws_FnNumbers.j1 k y0 y1 y2) (laws_FnNumbers.j1 (k + 1) y0 y1 y2))
  | 0 => ⟨fun _ _ _ r h => by simp [laws_FnNumbers.j0] at h, fun _ _ _ r h => by simp [laws_FnNumbers.j1] at h⟩
  | k + 1 => by
    obtain ⟨ih0, ih1⟩ := laws_FnNumbers.mono_l k
    refine ⟨?_, ?_⟩
    · intro y0 y1 y2
      unfold laws_FnNumbers.j0
      repeat' first
      | (with_reducible exact ih0 _ _ _)
      | (with_reducible exact ih1 _ _ _)
      | (with_reducible exact laws_numbers.mono _ _)
      | (with_reducible exact laws_zzFits2.mono _ _)
      | (with_reducible exact spec_CompareNumbers.mono _ _ _)
      | (with_reducible exact LeO.refl _)
      | (with_reducible exact LeO.none _)
      | (with_reducible refine LeO.ite ?_ ?_)
      | (with_reducible refine LeO.bind ?_ (fun _ => ?_))
      | exact ih0 _ _ _
      | exact ih1 _ _ _
      | exact laws_numbers.mono _ _
      | exact laws_zzFits2.mono _ _
      | exact spec_CompareNumbers.mono _ _ _
      | exact LeO.none _
      | refine LeO.ite ?_ ?_
      | refine LeO.bind ?_ (fun _ => ?_)
    · intro y0 y1 y2
      unfold laws_FnNumbers.j1
      repeat' first
      | (with_reducible exact ih0 _ _ _)
      | (with_reducible exact ih1 _ _ _)
      | (with_reducible exact laws_numbers.mono _ _)
      | (with_reducible exact laws_zzFits2.mono _ _)
      | (with_reducible exact spec_CompareNumbers.mono _ _ _)
      | (with_reducible exact LeO.refl _)
      | (with_reducible exact LeO.none _)
      | (with_reducible refine LeO.ite ?_ ?_)
      | (with_reducible refine LeO.bind ?_ (fun _ => ?_))
      | exact ih0 _ _ _
      | exact ih1 _ _ _
      | exact laws_numbers.mono _ _
      | exact laws_zzFits2.mono _ _
      | exact spec_CompareNumbers.mono _ _ _
      | exact LeO.none _
      | refine LeO.ite ?_ ?_
      | refine LeO.bind ?_ (fun _ => ?_)
theorem laws_FnNumbers.mono : ∀ a0 a1 k, LeO (laws_FnNumbers.f k a0 a1) (laws_FnNumbers.f (k + 1) a0 a1) := by
  intro a0 a1 k
  obtain ⟨ih0, ih1⟩ := laws_FnNumbers.mono_l k
  unfold laws_FnNumbers.f
  repeat' first
      | (with_reducible exact ih0 _ _ _)
      | (with_reducible exact ih1 _ _ _)
      | (with_reducible exact laws_numbers.mono _ _)
      | (with_reducible exact laws_zzFits2.mono _ _)
      | (with_reducible exact spec_CompareNumbers.mono _ _ _)
      | (with_reducible exact LeO.refl _)
      | (with_reducible exact LeO.none _)
      | (with_reducible refine LeO.ite ?_ ?_)
      | (with_reducible refine LeO.bind ?_ (fun _ => ?_))
      | exact ih0 _ _ _
      | exact ih1 _ _ _
      | exact laws_numbers.mono _ _
      | exact laws_zzFits2.mono _ _
      | exact spec_CompareNumbers.mono _ _ _
      | exact LeO.none _
      | refine LeO.ite ?_ ?_
      | refine LeO.bind ?_ (fun _ => ?_)
set_option maxHeartbeats 8000000 in
set_option maxRecDepth 100000 in
theorem laws_FnNumbers.calls (k : Nat) (A0 : Option Addr) (c0 : Nat) (l0 : List (S28)) (A1 : Option Addr) (c1 : Nat) (l1 : List (S28)) (r : Bool) (w : World) (hr0 : Kd.C k28 w A0 l0.length l0) (hc0 : l0.length ≤ c0) (hr1 : Kd.C k28 w A1 l1.length l1) (hc1 : l1.length ≤ c1) (h : laws_FnNumbers.f k l0 l1 = some r) :
    Calls Try.prog 3 #[.slice A0 l0.length c0, .slice A1 l1.length c1] w fun e w' => e = .returned (.bool r) ∧ Below w.heap.size w w' := by
  have HR0 := Aside0.mk hr0
  have HC0 := Aside0.mk hc0
  clear hr0 hc0
  have HR1 := Aside0.mk hr1
  have HC1 := Aside0.mk hc1
  clear hr1 hc1
  have HB := Aside0.mk (Below.refl w.heap.size w)
  have H : ((laws_zzFits2.f k l0).bind fun t148 => (if t148 = true then ((laws_zzFits2.f k l1).bind fun t149 => (laws_FnNumbers.j0 k l0 l1 (!t149))) else (laws_FnNumbers.j0 k l0 l1 true))) = some r := h
  clear h
  have HC3 := Aside0.mk H
  clear H
  go_enter Try.func3, Try.ntmps3
  go_upto_region 1 with (fail)
  go_cut [13] (fun v13 wc => ∃ (kq : Nat) (x13_2 : Bool), v13 = .bool x13_2 ∧ Aside0 (laws_FnNumbers.j0 kq l0 l1 x13_2 = some r) ∧ Aside0 (kq ≤ k) ∧ Aside0 (Below w.heap.size w wc))
  case first =>
    have H := HC3.out
    clear HC3
    replace H := Option.bind_eq_some_iff.mp H
    obtain ⟨t148, A40, H⟩ := H
    replace H : (if t148 = true then ((laws_zzFits2.f k l1).bind fun t149 => (laws_FnNumbers.j0 k l0 l1 (!t149))) else (laws_FnNumbers.j0 k l0 l1 true)) = some r := H
    have A4 := Aside0.mk A40
    clear A40
    by_cases c5 : t148 = true
    · subst c5
      have H1 : ((laws_zzFits2.f k l1).bind fun t149 => (laws_FnNumbers.j0 k l0 l1 (!t149))) = some r := by rw [if_pos rfl] at H; exact H
      clear H
      have H := H1
      clear H1
      replace H := Option.bind_eq_some_iff.mp H
      obtain ⟨t149, A60, H⟩ := H
      replace H : (laws_FnNumbers.j0 k l0 l1 (!t149)) = some r := H
      have A6 := Aside0.mk A60
      clear A60
      have H' := Aside0.mk H
      clear H
      go_wp2_with (first | ((with_reducible refine gate_callee (f := 8) rfl ?_); refine goesL_ (some 7) rfl rfl Try.func8 (by kernel_rfl) rfl #[.slice A0 l0.length c0] rfl (by (try simp only [List.map_toArray, List.map_cons, List.map_nil]); first | done | rfl | (simp only [List.length_drop, List.length_take]; rfl)) ?_; (with_reducible refine (laws_zzFits2.calls k _ _ l0 true _ ?side1 ?side2 A4.out).mono ?_); (case side1 => repeat (first | exact (Kd.C_below HR0.out HB.out) | (with_reducible refine Kd.C_alloc ?_ _) | (with_reducible refine Kd.C_drewN ?_ _) | (with_reducible refine Kd.C_drew ?_))); (case side2 => exact HC0.out); rintro e w7 ⟨rfl, hb⟩; refine ⟨_, rfl, ?_⟩; have n0_ := Aside0.mk (below_step (by repeat (first | (with_reducible first | exact HB.out | apply below_alloc | apply pw_below_drewN | apply below_drew1) | exact HB.out)) hb); clear HB; have HB := n0_; clear n0_; (try clear hb); (try clear hb2); (try clear hk); (try clear hi)) | (go_at_call 8; (with_reducible refine (laws_zzFits2.calls k _ _ l1 t149 _ ?side1 ?side2 A6.out).mono ?_); (case side1 => repeat (first | exact (Kd.C_below HR1.out HB.out) | (with_reducible refine Kd.C_alloc ?_ _) | (with_reducible refine Kd.C_drewN ?_ _) | (with_reducible refine Kd.C_drew ?_))); (case side2 => exact HC1.out); rintro e w8 ⟨rfl, hb⟩; have n0_ := Aside0.mk (below_step (by repeat (first | (with_reducible first | exact HB.out | apply below_alloc | apply pw_below_drewN | apply below_drew1) | exact HB.out)) hb); clear HB; have HB := n0_; clear n0_; (try clear hb); (try clear hb2); (try clear hk); (try clear hi)))
      go_meet
      case rel => exact ⟨_, (!t149), (by first | rfl | (simp; done) | (simp [*]; done)), H', ⟨by first | omega | exact Nat.le_refl _⟩, ⟨by repeat (first | (with_reducible first | exact HB.out | apply below_alloc | apply pw_below_drewN | apply below_drew1) | exact HB.out)⟩⟩
    · replace c5 := Bool.eq_false_iff.mpr c5
      subst c5
      have H1 : (laws_FnNumbers.j0 k l0 l1 true) = some r := by rw [if_neg (show ¬ (false = true) by decide)] at H; exact H
      clear H
      have H := H1
      clear H1
      have H' := Aside0.mk H
      clear H
      go_wp2_with (first | ((with_reducible refine gate_callee (f := 8) rfl ?_); refine goesL_ (some 7) rfl rfl Try.func8 (by kernel_rfl) rfl #[.slice A0 l0.length c0] rfl (by (try simp only [List.map_toArray, List.map_cons, List.map_nil]); first | done | rfl | (simp only [List.length_drop, List.length_take]; rfl)) ?_; (with_reducible refine (laws_zzFits2.calls k _ _ l0 false _ ?side1 ?side2 A4.out).mono ?_); (case side1 => repeat (first | exact (Kd.C_below HR0.out HB.out) | (with_reducible refine Kd.C_alloc ?_ _) | (with_reducible refine Kd.C_drewN ?_ _) | (with_reducible refine Kd.C_drew ?_))); (case side2 => exact HC0.out); rintro e w9 ⟨rfl, hb⟩; refine ⟨_, rfl, ?_⟩; have n0_ := Aside0.mk (below_step (by repeat (first | (with_reducible first | exact HB.out | apply below_alloc | apply pw_below_drewN | apply below_drew1) | exact HB.out)) hb); clear HB; have HB := n0_; clear n0_; (try clear hb); (try clear hb2); (try clear hk); (try clear hi)))
      go_meet
      case rel => exact ⟨_, (true), (by first | rfl | (simp; done) | (simp [*]; done)), H', ⟨by first | omega | exact Nat.le_refl _⟩, ⟨by repeat (first | (with_reducible first | exact HB.out | apply below_alloc | apply pw_below_drewN | apply below_drew1) | exact HB.out)⟩⟩
  case rest =>
    clear HC3
    try clear c1
    try clear p2
    try clear c3
    try clear c5
    try clear c8
    obtain ⟨kq, x13_2, rfl, HA, HJ2, HB⟩ := hcut
    cases kq with
    | zero => exact absurd HA.out (by simp [laws_FnNumbers.j0])
    | succ kj2 =>
      have H := HA.out
      clear HA
      simp only [laws_FnNumbers.j0] at H
      by_cases c10 : x13_2 = true
      · subst c10
        have H1 : (some true) = some r := by rw [if_pos rfl] at H; exact H
        clear H
        have H := H1
        clear H1
        obtain rfl := Option.some.inj H
        go_wp2
        go_ret
        exact ⟨by first | rfl | (simp [errW_none, errW_some] <;> rfl) | (simp [*, errW_none, errW_some] <;> rfl), by repeat (first | (with_reducible first | exact HB.out | apply below_alloc | apply pw_below_drewN | apply below_drew1) | exact HB.out)⟩
      · replace c10 := Bool.eq_false_iff.mpr c10
        subst c10
        have H1 : ((laws_numbers.f kj2 l0).bind fun t150 => (if t150 = true then ((laws_numbers.f kj2 l1).bind fun t151 => (laws_FnNumbers.j1 kj2 l0 l1 (!t151))) else (laws_FnNumbers.j1 kj2 l0 l1 true))) = some r := by rw [if_neg (show ¬ (false = true) by decide)] at H; exact H
        clear H
        have H := H1
        clear H1
        have HC11 := Aside0.mk H
        clear H
        go_upto_region 3 with (fail)
        go_cut [21] (fun v21 wc => ∃ (kq : Nat) (x21_10 : Bool), v21 = .bool x21_10 ∧ Aside0 (laws_FnNumbers.j1 kq l0 l1 x21_10 = some r) ∧ Aside0 (kq ≤ kj2) ∧ Aside0 (Below w.heap.size w wc))
        case first =>
          have H := HC11.out
          clear HC11
          replace H := Option.bind_eq_some_iff.mp H
          obtain ⟨t150, A120, H⟩ := H
          replace H : (if t150 = true then ((laws_numbers.f kj2 l1).bind fun t151 => (laws_FnNumbers.j1 kj2 l0 l1 (!t151))) else (laws_FnNumbers.j1 kj2 l0 l1 true)) = some r := H
          have A12 := Aside0.mk A120
          clear A120
          by_cases c13 : t150 = true
          · subst c13
            have H1 : ((laws_numbers.f kj2 l1).bind fun t151 => (laws_FnNumbers.j1 kj2 l0 l1 (!t151))) = some r := by rw [if_pos rfl] at H; exact H
            clear H
            have H := H1
            clear H1
            replace H := Option.bind_eq_some_iff.mp H
            obtain ⟨t151, A140, H⟩ := H
            replace H : (laws_FnNumbers.j1 kj2 l0 l1 (!t151)) = some r := H
            have A14 := Aside0.mk A140
            clear A140
            have H' := Aside0.mk H
            clear H
            go_wp2_with (first | ((with_reducible refine gate_callee (f := 9) rfl ?_); refine goesL_ (some 15) rfl rfl Try.func9 (by kernel_rfl) rfl #[.slice A0 l0.length c0] rfl (by (try simp only [List.map_toArray, List.map_cons, List.map_nil]); first | done | rfl | (simp only [List.length_drop, List.length_take]; rfl)) ?_; (with_reducible refine (laws_numbers.calls kj2 _ _ l0 true _ ?side1 ?side2 A12.out).mono ?_); (case side1 => repeat (first | exact (Kd.C_below HR0.out HB.out) | (with_reducible refine Kd.C_alloc ?_ _) | (with_reducible refine Kd.C_drewN ?_ _) | (with_reducible refine Kd.C_drew ?_))); (case side2 => exact HC0.out); rintro e w15 ⟨rfl, hb⟩; refine ⟨_, rfl, ?_⟩; have n0_ := Aside0.mk (below_step (by repeat (first | (with_reducible first | exact HB.out | apply below_alloc | apply pw_below_drewN | apply below_drew1) | exact HB.out)) hb); clear HB; have HB := n0_; clear n0_; (try clear hb); (try clear hb2); (try clear hk); (try clear hi)) | (go_at_call 9; (with_reducible refine (laws_numbers.calls kj2 _ _ l1 t151 _ ?side1 ?side2 A14.out).mono ?_); (case side1 => repeat (first | exact (Kd.C_below HR1.out HB.out) | (with_reducible refine Kd.C_alloc ?_ _) | (with_reducible refine Kd.C_drewN ?_ _) | (with_reducible refine Kd.C_drew ?_))); (case side2 => exact HC1.out); rintro e w16 ⟨rfl, hb⟩; have n0_ := Aside0.mk (below_step (by repeat (first | (with_reducible first | exact HB.out | apply below_alloc | apply pw_below_drewN | apply below_drew1) | exact HB.out)) hb); clear HB; have HB := n0_; clear n0_; (try clear hb); (try clear hb2); (try clear hk); (try clear hi)))
            go_meet
            case rel => exact ⟨_, (!t151), (by first | rfl | (simp; done) | (simp [*]; done)), H', ⟨by have := HJ2.out; first | omega | exact Nat.le_refl _⟩, ⟨by repeat (first | (with_reducible first | exact HB.out | apply below_alloc | apply pw_below_drewN | apply below_drew1) | exact HB.out)⟩⟩
          · replace c13 := Bool.eq_false_iff.mpr c13
            subst c13
            have H1 : (laws_FnNumbers.j1 kj2 l0 l1 true) = some r := by rw [if_neg (show ¬ (false = true) by decide)] at H; exact H
            clear H
            have H := H1
            clear H1
            have H' := Aside0.mk H
            clear H
            go_wp2_with (first | ((with_reducible refine gate_callee (f := 9) rfl ?_); refine goesL_ (some 15) rfl rfl Try.func9 (by kernel_rfl) rfl #[.slice A0 l0.length c0] rfl (by (try simp only [List.map_toArray, List.map_cons, List.map_nil]); first | done | rfl | (simp only [List.length_drop, List.length_take]; rfl)) ?_; (with_reducible refine (laws_numbers.calls kj2 _ _ l0 false _ ?side1 ?side2 A12.out).mono ?_); (case side1 => repeat (first | exact (Kd.C_below HR0.out HB.out) | (with_reducible refine Kd.C_alloc ?_ _) | (with_reducible refine Kd.C_drewN ?_ _) | (with_reducible refine Kd.C_drew ?_))); (case side2 => exact HC0.out); rintro e w17 ⟨rfl, hb⟩; refine ⟨_, rfl, ?_⟩; have n0_ := Aside0.mk (below_step (by repeat (first | (with_reducible first | exact HB.out | apply below_alloc | apply pw_below_drewN | apply below_drew1) | exact HB.out)) hb); clear HB; have HB := n0_; clear n0_; (try clear hb); (try clear hb2); (try clear hk); (try clear hi)))
            go_meet
            case rel => exact ⟨_, (true), (by first | rfl | (simp; done) | (simp [*]; done)), H', ⟨by have := HJ2.out; first | omega | exact Nat.le_refl _⟩, ⟨by repeat (first | (with_reducible first | exact HB.out | apply below_alloc | apply pw_below_drewN | apply below_drew1) | exact HB.out)⟩⟩
        case rest =>
          clear HC11
          try clear c1
          try clear p2
          try clear c3
          try clear c5
          try clear c8
          try clear c9
          try clear c10
          try clear c13
          try clear p2
          obtain ⟨kq, x21_10, rfl, HA, HJ10, HB⟩ := hcut
          cases kq with
          | zero => exact absurd HA.out (by simp [laws_FnNumbers.j1])
          | succ kj10 =>
            have H := HA.out
            clear HA
            simp only [laws_FnNumbers.j1] at H
            by_cases c18 : x21_10 = true
            · subst c18
              have H1 : (some true) = some r := by rw [if_pos rfl] at H; exact H
              clear H
              have H := H1
              clear H1
              obtain rfl := Option.some.inj H
              go_wp2
              go_ret
              exact ⟨by first | rfl | (simp [errW_none, errW_some] <;> rfl) | (simp [*, errW_none, errW_some] <;> rfl), by repeat (first | (with_reducible first | exact HB.out | apply below_alloc | apply pw_below_drewN | apply below_drew1) | exact HB.out)⟩
            · replace c18 := Bool.eq_false_iff.mpr c18
              subst c18
              have H1 : ((impl_CompareNumbers.f l0 l1).bind fun t152 => ((spec_CompareNumbers.f kj10 l0 l1).bind fun t153 => (if t152 = t153 then ((impl_CompareNumbers.f l1 l0).bind fun t154 => ((laws_turned.f t152 t154).bind fun t155 => (some t155))) else (some false)))) = some r := by rw [if_neg (show ¬ (false = true) by decide)] at H; exact H
              clear H
              have H := H1
              clear H1
              replace H := Option.bind_eq_some_iff.mp H
              obtain ⟨t152, A190, H⟩ := H
              replace H : ((spec_CompareNumbers.f kj10 l0 l1).bind fun t153 => (if t152 = t153 then ((impl_CompareNumbers.f l1 l0).bind fun t154 => ((laws_turned.f t152 t154).bind fun t155 => (some t155))) else (some false))) = some r := H
              have A19 := Aside0.mk A190
              clear A190
              replace H := Option.bind_eq_some_iff.mp H
              obtain ⟨t153, A200, H⟩ := H
              replace H : (if t152 = t153 then ((impl_CompareNumbers.f l1 l0).bind fun t154 => ((laws_turned.f t152 t154).bind fun t155 => (some t155))) else (some false)) = some r := H
              have A20 := Aside0.mk A200
              clear A200
              by_cases c21 : t152 = t153
              · rw [if_pos c21] at H
                have c21b0 : (t152 == t153) = true := beq_iff_eq.mpr c21
                have c21b1 : (t152 != t153) = false := bne_eq_false_iff_eq.mpr c21
                clear c21
                replace H := Option.bind_eq_some_iff.mp H
                obtain ⟨t154, A220, H⟩ := H
                replace H : ((laws_turned.f t152 t154).bind fun t155 => (some t155)) = some r := H
                have A22 := Aside0.mk A220
                clear A220
                replace H := Option.bind_eq_some_iff.mp H
                obtain ⟨t155, A230, H⟩ := H
                replace H : (some t155) = some r := H
                have A23 := Aside0.mk A230
                clear A230
                obtain rfl := Option.some.inj H
                go_wp2_with (first | ((with_reducible refine gate_callee (f := 10) rfl ?_); refine goesL_ (some 24) rfl rfl Try.func10 (by kernel_rfl) rfl #[.slice A0 l0.length c0, .slice A1 l1.length c1] rfl (by (try simp only [List.map_toArray, List.map_cons, List.map_nil]); first | done | rfl | (simp only [List.length_drop, List.length_take]; rfl)) ?_; (with_reducible refine (impl_CompareNumbers.calls _ _ l0 _ _ l1 t152 _ ?side1 ?side2 ?side3 ?side4 A19.out).mono ?_); (case side1 => repeat (first | exact (Kd.C_below HR0.out HB.out) | (with_reducible refine Kd.C_alloc ?_ _) | (with_reducible refine Kd.C_drewN ?_ _) | (with_reducible refine Kd.C_drew ?_))); (case side2 => exact HC0.out); (case side3 => repeat (first | exact (Kd.C_below HR1.out HB.out) | (with_reducible refine Kd.C_alloc ?_ _) | (with_reducible refine Kd.C_drewN ?_ _) | (with_reducible refine Kd.C_drew ?_))); (case side4 => exact HC1.out); rintro e w24 ⟨rfl, hb⟩; refine ⟨_, rfl, ?_⟩; have n0_ := Aside0.mk (below_step (by repeat (first | (with_reducible first | exact HB.out | apply below_alloc | apply pw_below_drewN | apply below_drew1) | exact HB.out)) hb); clear HB; have HB := n0_; clear n0_; (try clear hb); (try clear hb2); (try clear hk); (try clear hi)) | ((with_reducible refine gate_callee (f := 11) rfl ?_); refine goesL_ (some 28) rfl rfl Try.func11 (by kernel_rfl) rfl #[.slice A0 l0.length c0, .slice A1 l1.length c1] rfl (by (try simp only [List.map_toArray, List.map_cons, List.map_nil]); first | done | rfl | (simp only [List.length_drop, List.length_take]; rfl)) ?_; (with_reducible refine (spec_CompareNumbers.calls kj10 _ _ l0 _ _ l1 t153 _ ?side1 ?side2 ?side3 ?side4 A20.out).mono ?_); (case side1 => repeat (first | exact (Kd.C_below HR0.out HB.out) | (with_reducible refine Kd.C_alloc ?_ _) | (with_reducible refine Kd.C_drewN ?_ _) | (with_reducible refine Kd.C_drew ?_))); (case side2 => exact HC0.out); (case side3 => repeat (first | exact (Kd.C_below HR1.out HB.out) | (with_reducible refine Kd.C_alloc ?_ _) | (with_reducible refine Kd.C_drewN ?_ _) | (with_reducible refine Kd.C_drew ?_))); (case side4 => exact HC1.out); rintro e w25 ⟨rfl, hb⟩; refine ⟨_, rfl, ?_⟩; have n0_ := Aside0.mk (below_step (by repeat (first | (with_reducible first | exact HB.out | apply below_alloc | apply pw_below_drewN | apply below_drew1) | exact HB.out)) hb); clear HB; have HB := n0_; clear n0_; (try clear hb); (try clear hb2); (try clear hk); (try clear hi)) | (go_at_call 10; (with_reducible refine (impl_CompareNumbers.calls _ _ l1 _ _ l0 t154 _ ?side1 ?side2 ?side3 ?side4 A22.out).mono ?_); (case side1 => repeat (first | exact (Kd.C_below HR1.out HB.out) | (with_reducible refine Kd.C_alloc ?_ _) | (with_reducible refine Kd.C_drewN ?_ _) | (with_reducible refine Kd.C_drew ?_))); (case side2 => exact HC1.out); (case side3 => repeat (first | exact (Kd.C_below HR0.out HB.out) | (with_reducible refine Kd.C_alloc ?_ _) | (with_reducible refine Kd.C_drewN ?_ _) | (with_reducible refine Kd.C_drew ?_))); (case side4 => exact HC0.out); rintro e w26 ⟨rfl, hb⟩; have n0_ := Aside0.mk (below_step (by repeat (first | (with_reducible first | exact HB.out | apply below_alloc | apply pw_below_drewN | apply below_drew1) | exact HB.out)) hb); clear HB; have HB := n0_; clear n0_; (try clear hb); (try clear hb2); (try clear hk); (try clear hi)) | (go_at_call 12; (with_reducible refine (laws_turned.calls t152 t154 t155 _ A23.out).mono ?_); rintro e w' ⟨rfl, ⟨nd, rfl⟩⟩))
                go_ret
                exact ⟨by first | rfl | (simp [errW_none, errW_some] <;> rfl) | (simp [*, errW_none, errW_some] <;> rfl), by repeat (first | (with_reducible first | exact HB.out | apply below_alloc | apply pw_below_drewN | apply below_drew1) | exact HB.out)⟩
              · rw [if_neg c21] at H
                have c21b0 : (t152 == t153) = false := beq_eq_false_iff_ne.mpr c21
                have c21b1 : (t152 != t153) = true := bne_iff_ne.mpr c21
                obtain rfl := Option.some.inj H
                go_wp2_with (first | ((with_reducible refine gate_callee (f := 10) rfl ?_); refine goesL_ (some 24) rfl rfl Try.func10 (by kernel_rfl) rfl #[.slice A0 l0.length c0, .slice A1 l1.length c1] rfl (by (try simp only [List.map_toArray, List.map_cons, List.map_nil]); first | done | rfl | (simp only [List.length_drop, List.length_take]; rfl)) ?_; (with_reducible refine (impl_CompareNumbers.calls _ _ l0 _ _ l1 t152 _ ?side1 ?side2 ?side3 ?side4 A19.out).mono ?_); (case side1 => repeat (first | exact (Kd.C_below HR0.out HB.out) | (with_reducible refine Kd.C_alloc ?_ _) | (with_reducible refine Kd.C_drewN ?_ _) | (with_reducible refine Kd.C_drew ?_))); (case side2 => exact HC0.out); (case side3 => repeat (first | exact (Kd.C_below HR1.out HB.out) | (with_reducible refine Kd.C_alloc ?_ _) | (with_reducible refine Kd.C_drewN ?_ _) | (with_reducible refine Kd.C_drew ?_))); (case side4 => exact HC1.out); rintro e w27 ⟨rfl, hb⟩; refine ⟨_, rfl, ?_⟩; have n0_ := Aside0.mk (below_step (by repeat (first | (with_reducible first | exact HB.out | apply below_alloc | apply pw_below_drewN | apply below_drew1) | exact HB.out)) hb); clear HB; have HB := n0_; clear n0_; (try clear hb); (try clear hb2); (try clear hk); (try clear hi)) | ((with_reducible refine gate_callee (f := 11) rfl ?_); refine goesL_ (some 28) rfl rfl Try.func11 (by kernel_rfl) rfl #[.slice A0 l0.length c0, .slice A1 l1.length c1] rfl (by (try simp only [List.map_toArray, List.map_cons, List.map_nil]); first | done | rfl | (simp only [List.length_drop, List.length_take]; rfl)) ?_; (with_reducible refine (spec_CompareNumbers.calls kj10 _ _ l0 _ _ l1 t153 _ ?side1 ?side2 ?side3 ?side4 A20.out).mono ?_); (case side1 => repeat (first | exact (Kd.C_below HR0.out HB.out) | (with_reducible refine Kd.C_alloc ?_ _) | (with_reducible refine Kd.C_drewN ?_ _) | (with_reducible refine Kd.C_drew ?_))); (case side2 => exact HC0.out); (case side3 => repeat (first | exact (Kd.C_below HR1.out HB.out) | (with_reducible refine Kd.C_alloc ?_ _) | (with_reducible refine Kd.C_drewN ?_ _) | (with_reducible refine Kd.C_drew ?_))); (case side4 => exact HC1.out); rintro e w28 ⟨rfl, hb⟩; refine ⟨_, rfl, ?_⟩; have n0_ := Aside0.mk (below_step (by repeat (first | (with_reducible first | exact HB.out | apply below_alloc | apply pw_below_drewN | apply below_drew1) | exact HB.out)) hb); clear HB; have HB := n0_; clear n0_; (try clear hb); (try clear hb2); (try clear hk); (try clear hi)))
                go_ret
                exact ⟨by first | rfl | (simp [errW_none, errW_some] <;> rfl) | (simp [*, errW_none, errW_some] <;> rfl), by repeat (first | (with_reducible first | exact HB.out | apply below_alloc | apply pw_below_drewN | apply below_drew1) | exact HB.out)⟩

/-- THE ONE PURE STATEMENT of laws_FnNumbers. -/
def laws_FnNumbers.Pure : Prop := ∀ (l0 : List (S28)) (l1 : List (S28)), l0.length ≤ 9223372036854775807 → l1.length ≤ 9223372036854775807 → ∃ k, laws_FnNumbers.f k l0 l1 = some true
theorem laws_FnNumbers.walk (P : laws_FnNumbers.Pure) (A0 : Option Addr) (c0 : Nat) (l0 : List (S28)) (A1 : Option Addr) (c1 : Nat) (l1 : List (S28)) (w : World) (hm0 : l0.length ≤ 9223372036854775807) (hm1 : l1.length ≤ 9223372036854775807) (hr0 : Kd.C k28 w A0 l0.length l0) (hc0 : l0.length ≤ c0) (hr1 : Kd.C k28 w A1 l1.length l1) (hc1 : l1.length ≤ c1) :
    Calls Try.prog 3 #[.slice A0 l0.length c0, .slice A1 l1.length c1] w fun e w' => e = .returned (.bool true) ∧ Below w.heap.size w w' := by
  obtain ⟨k, h⟩ := P l0 l1 hm0 hm1
  refine (laws_FnNumbers.calls k _ _ l0 _ _ l1 true w hr0 hc0 hr1 hc1 h).mono ?_
  rintro e w' ⟨rfl, hd⟩
  exact ⟨rfl, hd⟩

/-! ### laws_one: function 32 -/
def laws_one.f  : Option (Bool × ByteArray) := some (false, (⟨#[1]⟩ : ByteArray))
set_option maxHeartbeats 8000000 in
set_option maxRecDepth 100000 in
theorem laws_one.calls  (r1 : Bool) (r2 : ByteArray) (w : World) (h : laws_one.f  = some (r1, r2)) :
    Calls Try.prog 32 #[] w fun e w' => e = .returned (.agg #[.bool r1, .string r2]) ∧ Below w.heap.size w w' := by
  have hu28 := Try.underlying28
  have HB := Aside0.mk (Below.refl w.heap.size w)
  have H : (some (false, (⟨#[1]⟩ : ByteArray))) = some (r1, r2) := h
  clear h
  simp only [Option.some.injEq, Prod.mk.injEq] at H
  obtain ⟨rfl, rfl⟩ := H
  go_enter Try.func32, Try.ntmps32
  go_wp2_with (first | ((with_reducible refine gate_dst (N := 0) rfl ?_); refine box_event ?hg (N := 0) ?hd (cs := #[.bool false, .string (⟨#[]⟩ : ByteArray)]) (t := 28) ?hr ?_; (case hd => rfl); (case hg => rfl); (case hr => first | (go_simp; done) | (go_simp; rfl)); intro gb156 hg w1 hbox hb; have n0_ := Aside0.mk (below_step (by repeat (first | (with_reducible first | exact HB.out | apply below_alloc | apply pw_below_drewN | apply below_drew1) | exact HB.out)) hb); have n1_ := Aside0.mk (hbox); have n2_ := Aside0.mk ((by rw [hg]; exact (below_size (by repeat (first | (with_reducible first | exact HB.out | apply below_alloc | apply pw_below_drewN | apply below_drew1) | exact HB.out))) : w.heap.size ≤ gb156)); have n3_ := Aside0.mk ((by rw [hg]; exact (below_size (by repeat (first | (with_reducible first | exact HB.out | apply below_alloc | apply pw_below_drewN | apply below_drew1) | exact HB.out))) : w.heap.size ≤ gb156)); clear HB; have HB := n0_; have BK156 := n1_; have GW156 := n2_; have GE156 := n3_; clear n0_ n1_ n2_ n3_; clear hb hbox hg; have hcz2_0 : w1.cell? ⟨gb156, 0, none⟩ = some (.bool false) := (blk_cell BK156.out 0).trans rfl; have hcz2_1 : w1.cell? ⟨gb156, 1, none⟩ = some (.string (⟨#[]⟩ : ByteArray)) := (blk_cell BK156.out 1).trans rfl; have hfz2_0 := blk_frozen BK156.out 0; have hfz2_1 := blk_frozen BK156.out 1))
  refine bodyPost_ret (results_cell_row rfl _ _ gb156 28 #[.bool false, .string (⟨#[1]⟩ : ByteArray)] (0, 0) _ rfl (by (with_reducible repeat (first | refine blk_drewN ?_ _ | refine blk_drew ?_ | refine blk_alloc ?_ _)); refine blk_put (cs := #[.bool false, .string (⟨#[]⟩ : ByteArray)]) ?_ 1 _ rfl; (with_reducible repeat (first | refine blk_drewN ?_ _ | refine blk_drew ?_ | refine blk_alloc ?_ _)); refine blk_put (cs := #[.bool false, .string (⟨#[]⟩ : ByteArray)]) ?_ 0 _ rfl; (with_reducible repeat (first | refine blk_drewN ?_ _ | refine blk_drew ?_ | refine blk_alloc ?_ _)); exact BK156.out) Try.underlying28 rfl (by kernel_rfl)) rfl ?_
  exact ⟨by first | rfl | (simp [errW_none, errW_some] <;> rfl) | (simp [*, errW_none, errW_some] <;> rfl), by repeat (first | (with_reducible first | exact HB.out | apply below_alloc | apply pw_below_drewN | apply below_drew1 | refine below_set ?_ GE156.out) | exact HB.out)⟩

/-! ### laws_two: function 33 -/
def laws_two.f  : Option (Bool × ByteArray) := some (false, (⟨#[2]⟩ : ByteArray))
set_option maxHeartbeats 8000000 in
set_option maxRecDepth 100000 in
theorem laws_two.calls  (r1 : Bool) (r2 : ByteArray) (w : World) (h : laws_two.f  = some (r1, r2)) :
    Calls Try.prog 33 #[] w fun e w' => e = .returned (.agg #[.bool r1, .string r2]) ∧ Below w.heap.size w w' := by
  have hu28 := Try.underlying28
  have HB := Aside0.mk (Below.refl w.heap.size w)
  have H : (some (false, (⟨#[2]⟩ : ByteArray))) = some (r1, r2) := h
  clear h
  simp only [Option.some.injEq, Prod.mk.injEq] at H
  obtain ⟨rfl, rfl⟩ := H
  go_enter Try.func33, Try.ntmps33
  go_wp2_with (first | ((with_reducible refine gate_dst (N := 0) rfl ?_); refine box_event ?hg (N := 0) ?hd (cs := #[.bool false, .string (⟨#[]⟩ : ByteArray)]) (t := 28) ?hr ?_; (case hd => rfl); (case hg => rfl); (case hr => first | (go_simp; done) | (go_simp; rfl)); intro gb157 hg w1 hbox hb; have n0_ := Aside0.mk (below_step (by repeat (first | (with_reducible first | exact HB.out | apply below_alloc | apply pw_below_drewN | apply below_drew1) | exact HB.out)) hb); have n1_ := Aside0.mk (hbox); have n2_ := Aside0.mk ((by rw [hg]; exact (below_size (by repeat (first | (with_reducible first | exact HB.out | apply below_alloc | apply pw_below_drewN | apply below_drew1) | exact HB.out))) : w.heap.size ≤ gb157)); have n3_ := Aside0.mk ((by rw [hg]; exact (below_size (by repeat (first | (with_reducible first | exact HB.out | apply below_alloc | apply pw_below_drewN | apply below_drew1) | exact HB.out))) : w.heap.size ≤ gb157)); clear HB; have HB := n0_; have BK157 := n1_; have GW157 := n2_; have GE157 := n3_; clear n0_ n1_ n2_ n3_; clear hb hbox hg; have hcz2_0 : w1.cell? ⟨gb157, 0, none⟩ = some (.bool false) := (blk_cell BK157.out 0).trans rfl; have hcz2_1 : w1.cell? ⟨gb157, 1, none⟩ = some (.string (⟨#[]⟩ : ByteArray)) := (blk_cell BK157.out 1).trans rfl; have hfz2_0 := blk_frozen BK157.out 0; have hfz2_1 := blk_frozen BK157.out 1))
  refine bodyPost_ret (results_cell_row rfl _ _ gb157 28 #[.bool false, .string (⟨#[2]⟩ : ByteArray)] (0, 0) _ rfl (by (with_reducible repeat (first | refine blk_drewN ?_ _ | refine blk_drew ?_ | refine blk_alloc ?_ _)); refine blk_put (cs := #[.bool false, .string (⟨#[]⟩ : ByteArray)]) ?_ 1 _ rfl; (with_reducible repeat (first | refine blk_drewN ?_ _ | refine blk_drew ?_ | refine blk_alloc ?_ _)); refine blk_put (cs := #[.bool false, .string (⟨#[]⟩ : ByteArray)]) ?_ 0 _ rfl; (with_reducible repeat (first | refine blk_drewN ?_ _ | refine blk_drew ?_ | refine blk_alloc ?_ _)); exact BK157.out) Try.underlying28 rfl (by kernel_rfl)) rfl ?_
  exact ⟨by first | rfl | (simp [errW_none, errW_some] <;> rfl) | (simp [*, errW_none, errW_some] <;> rfl), by repeat (first | (with_reducible first | exact HB.out | apply below_alloc | apply pw_below_drewN | apply below_drew1 | refine below_set ?_ GE157.out) | exact HB.out)⟩

/-! ### laws_numbersAwake: function 13 -/
def laws_numbersAwake.f  : Option (Bool) := (laws_one.f).bind fun bt158 => ((laws_two.f).bind fun bt163 => ((impl_CompareNumbers.f (([(⟨bt158.1, bt158.2⟩ : S28)] : List (S28))) (([(⟨bt163.1, bt163.2⟩ : S28)] : List (S28)))).bind fun t168 => (some (t168 == (-1)))))
set_option maxHeartbeats 8000000 in
set_option maxRecDepth 100000 in
theorem laws_numbersAwake.calls  (r : Bool) (w : World) (h : laws_numbersAwake.f  = some r) :
    Calls Try.prog 13 #[] w fun e w' => e = .returned (.bool r) ∧ Below w.heap.size w w' := by
  have HB := Aside0.mk (Below.refl w.heap.size w)
  have H : ((laws_one.f).bind fun bt158 => ((laws_two.f).bind fun bt163 => ((impl_CompareNumbers.f (([(⟨bt158.1, bt158.2⟩ : S28)] : List (S28))) (([(⟨bt163.1, bt163.2⟩ : S28)] : List (S28)))).bind fun t168 => (some (t168 == (-1)))))) = some r := h
  clear h
  replace H := Option.bind_eq_some_iff.mp H
  obtain ⟨⟨t158, t159⟩, A10, H⟩ := H
  replace H : ((laws_two.f).bind fun bt163 => ((impl_CompareNumbers.f (([(⟨t158, t159⟩ : S28)] : List (S28))) (([(⟨bt163.1, bt163.2⟩ : S28)] : List (S28)))).bind fun t168 => (some (t168 == (-1))))) = some r := H
  have A1 := Aside0.mk A10
  clear A10
  obtain ⟨y160, hy160⟩ : ∃ y_ : List (S28), y_ = (([(⟨t158, t159⟩ : S28)] : List (S28))) := ⟨_, rfl⟩
  replace H : ((laws_two.f).bind fun bt163 => ((impl_CompareNumbers.f y160 (([(⟨bt163.1, bt163.2⟩ : S28)] : List (S28)))).bind fun t168 => (some (t168 == (-1))))) = some r := by first | (rw [hy160]; with_reducible exact H) | (have H2_ := (Option.bind_some _ _).symm.trans H; rw [hy160]; with_reducible exact H2_) | (have H2_ := (Option.bind_some _ _).symm.trans H; with_reducible exact H2_) | with_reducible exact H | (rw [hy160]; exact H) | exact H
  have Ny160 := Aside0.mk hy160
  clear hy160
  replace H := Option.bind_eq_some_iff.mp H
  obtain ⟨⟨t163, t164⟩, A20, H⟩ := H
  replace H : ((impl_CompareNumbers.f y160 (([(⟨t163, t164⟩ : S28)] : List (S28)))).bind fun t168 => (some (t168 == (-1)))) = some r := H
  have A2 := Aside0.mk A20
  clear A20
  obtain ⟨y165, hy165⟩ : ∃ y_ : List (S28), y_ = (([(⟨t163, t164⟩ : S28)] : List (S28))) := ⟨_, rfl⟩
  replace H : ((impl_CompareNumbers.f y160 y165).bind fun t168 => (some (t168 == (-1)))) = some r := by first | (rw [hy165]; with_reducible exact H) | (have H2_ := (Option.bind_some _ _).symm.trans H; rw [hy165]; with_reducible exact H2_) | (have H2_ := (Option.bind_some _ _).symm.trans H; with_reducible exact H2_) | with_reducible exact H | (rw [hy165]; exact H) | exact H
  have Ny165 := Aside0.mk hy165
  clear hy165
  replace H := Option.bind_eq_some_iff.mp H
  obtain ⟨t168, A30, H⟩ := H
  replace H : (some (t168 == (-1))) = some r := H
  have A3 := Aside0.mk A30
  clear A30
  obtain rfl := Option.some.inj H
  go_enter Try.func13, Try.ntmps13
  go_wp2_with (first | ((with_reducible refine gate_callee (f := 32) rfl ?_); refine goesL_ (some 1) rfl rfl Try.func32 (by kernel_rfl) rfl #[] rfl (by (try simp only [List.map_toArray, List.map_cons, List.map_nil]); first | done | rfl | (simp only [List.length_drop, List.length_take]; rfl)) ?_; (with_reducible refine (laws_one.calls  t158 t159 _ A1.out).mono ?_); rintro e w4 ⟨rfl, hb⟩; refine ⟨_, rfl, ?_⟩; have n0_ := Aside0.mk (below_step (by repeat (first | (with_reducible first | exact HB.out | apply below_alloc | apply pw_below_drewN | apply below_drew1) | exact HB.out)) hb); clear HB; have HB := n0_; clear n0_; (try clear hb); (try clear hb2); (try clear hk); (try clear hi)) | ((with_reducible refine gate_dst (N := 2) rfl ?_); refine Kd.R_lit k28 _ 28 ?hg (N := 2) ?hd (xs := ([(⟨t158, t159⟩ : S28)] : List (S28))) (inner := [.bool t158, .string t159]) (ok := fun _ => True) (okp := fun _ => True) ?hr ?hp (fun _ hk => hk) trivial (Below.refl _ _) (Nat.le_refl _) (by simp) ?_; (case hd => rfl); (case hg => rfl); (case hr => first | (go_simp; done) | (go_simp; rfl)); (case hp => exact (Reps.c2 (show Kd.M k28 _ _ _ (⟨t158, t159⟩ : S28) [.bool t158, .string t159] from (k28_mkM _ _ _ (⟨t158, t159⟩ : S28) )) (Reps.none _ _))); intro v161 w5 ho6 hb hg_ hnew_; clear hg_ hnew_; (first | rw [← Ny160.out] at ho6 | (simp only [Int.reduceToNat] at ho6; rw [← Ny160.out] at ho6)); have n0_ := Aside0.mk (Kd.R_lower ho6 (below_size (by repeat (first | (with_reducible first | exact HB.out | apply below_alloc | apply pw_below_drewN | apply below_drew1) | exact HB.out)))); have n1_ := Aside0.mk (below_step (by repeat (first | (with_reducible first | exact HB.out | apply below_alloc | apply pw_below_drewN | apply below_drew1) | exact HB.out)) hb); clear HB; have HO162 := n0_; have HB := n1_; clear n0_ n1_; clear hb ho6) | ((with_reducible refine gate_callee (f := 33) rfl ?_); refine goesL_ (some 3) rfl rfl Try.func33 (by kernel_rfl) rfl #[] rfl (by (try simp only [List.map_toArray, List.map_cons, List.map_nil]); first | done | rfl | (simp only [List.length_drop, List.length_take]; rfl)) ?_; (with_reducible refine (laws_two.calls  t163 t164 _ A2.out).mono ?_); rintro e w7 ⟨rfl, hb⟩; refine ⟨_, rfl, ?_⟩; have n0_ := Aside0.mk (Kd.R_below (by (with_reducible repeat (first | apply Kd.R_alloc | apply Kd.R_drewN | apply Kd.R_drew)); exact HO162.out) hb); have n1_ := Aside0.mk (below_step (by repeat (first | (with_reducible first | exact HB.out | apply below_alloc | apply pw_below_drewN | apply below_drew1) | exact HB.out)) hb); clear HO162; clear HB; have HO162 := n0_; have HB := n1_; clear n0_ n1_; (try clear hb); (try clear hb2); (try clear hk); (try clear hi)) | ((with_reducible refine gate_dst (N := 4) rfl ?_); refine Kd.R_lit k28 _ 28 ?hg (N := 4) ?hd (xs := ([(⟨t163, t164⟩ : S28)] : List (S28))) (inner := [.bool t163, .string t164]) (ok := fun _ => True) (okp := fun _ => True) ?hr ?hp (fun _ hk => hk) trivial (Below.refl _ _) (Nat.le_refl _) (by simp) ?_; (case hd => rfl); (case hg => rfl); (case hr => first | (go_simp; done) | (go_simp; rfl)); (case hp => exact (Reps.c2 (show Kd.M k28 _ _ _ (⟨t163, t164⟩ : S28) [.bool t163, .string t164] from (k28_mkM _ _ _ (⟨t163, t164⟩ : S28) )) (Reps.none _ _))); intro v166 w8 ho9 hb hg_ hnew_; clear hg_ hnew_; (first | rw [← Ny165.out] at ho9 | (simp only [Int.reduceToNat] at ho9; rw [← Ny165.out] at ho9)); have n0_ := Aside0.mk (Kd.R_elder' (by (with_reducible repeat (first | apply Kd.R_alloc | apply Kd.R_drewN | apply Kd.R_drew)); exact HO162.out) (Kd.R_base ho9) hb); have n1_ := Aside0.mk (Kd.R_lower (Kd.R_new' ho9 (Kd.R_lt (by (with_reducible repeat (first | apply Kd.R_alloc | apply Kd.R_drewN | apply Kd.R_drew)); exact HO162.out))) (below_size (by repeat (first | (with_reducible first | exact HB.out | apply below_alloc | apply pw_below_drewN | apply below_drew1) | exact HB.out)))); have n2_ := Aside0.mk (below_step (by repeat (first | (with_reducible first | exact HB.out | apply below_alloc | apply pw_below_drewN | apply below_drew1) | exact HB.out)) hb); clear HO162; clear HB; have HO162 := n0_; have HO167 := n1_; have HB := n2_; clear n0_ n1_ n2_; clear hb ho9; obtain ⟨Ao10, co10, eo10⟩ := Kd.R_slice HO162.out; subst eo10; obtain ⟨Ao11, co11, eo11⟩ := Kd.R_slice HO167.out; subst eo11) | ((with_reducible refine gate_callee (f := 10) rfl ?_); refine goesL_ (some 5) rfl rfl Try.func10 (by kernel_rfl) rfl #[.slice Ao10 y160.length co10, .slice Ao11 y165.length co11] rfl (by (try simp only [List.map_toArray, List.map_cons, List.map_nil]); first | done | rfl | (simp only [List.length_drop, List.length_take]; rfl)) ?_; (with_reducible refine (impl_CompareNumbers.calls _ _ y160 _ _ y165 t168 _ ?side1 ?side2 ?side3 ?side4 A3.out).mono ?_); (case side1 => repeat (first | exact (Kd.R_reads' HO162.out).2.2 | (with_reducible refine Kd.C_alloc ?_ _) | (with_reducible refine Kd.C_drewN ?_ _) | (with_reducible refine Kd.C_drew ?_))); (case side2 => exact (Kd.R_reads' HO162.out).2.1); (case side3 => repeat (first | exact (Kd.R_reads' HO167.out).2.2 | (with_reducible refine Kd.C_alloc ?_ _) | (with_reducible refine Kd.C_drewN ?_ _) | (with_reducible refine Kd.C_drew ?_))); (case side4 => exact (Kd.R_reads' HO167.out).2.1); rintro e w12 ⟨rfl, hb⟩; refine ⟨_, rfl, ?_⟩; have n0_ := Aside0.mk (Kd.R_below (by (with_reducible repeat (first | apply Kd.R_alloc | apply Kd.R_drewN | apply Kd.R_drew)); exact HO162.out) hb); have n1_ := Aside0.mk (Kd.R_below (by (with_reducible repeat (first | apply Kd.R_alloc | apply Kd.R_drewN | apply Kd.R_drew)); exact HO167.out) hb); have n2_ := Aside0.mk (below_step (by repeat (first | (with_reducible first | exact HB.out | apply below_alloc | apply pw_below_drewN | apply below_drew1) | exact HB.out)) hb); clear HO162; clear HO167; clear HB; have HO162 := n0_; have HO167 := n1_; have HB := n2_; clear n0_ n1_ n2_; (try clear hb); (try clear hb2); (try clear hk); (try clear hi)))
  go_ret
  exact ⟨by first | rfl | (simp [errW_none, errW_some] <;> rfl) | (simp [*, errW_none, errW_some] <;> rfl), by repeat (first | (with_reducible first | exact HB.out | apply below_alloc | apply pw_below_drewN | apply below_drew1) | exact HB.out)⟩

end Go.Proofs.Ytcagdmeiigjkcaa.Z
