-- Written by a program of this session (myprint.py).
import Derived.Test.YtajglnedoeboaaaDoorZ0
import Derived.Test.YtajglnedoeboaaaDoorZ2
import Derived.Test.YtajglnedoeboaaaDoorZ3
import Derived.Test.YtajglnedoeboaaaDoorGe
namespace Go.Proofs.YtajglnedoeboaaaDoor.Z
open Go.Proofs.YtajglnedoeboaaaDoor.Gw
open Go.RowKit Go.Proofs.YtajglnedoeboaaaDoorW.PrintWords Go.Proofs.YtajglnedoeboaaaDoorW.PrintLast Go.Proofs.YtajglnedoeboaaaDoorW.PrintMore
attribute [local go_sem high] Go.Proofs.YtajglnedoeboaaaDoor.Ge.gtr_str
attribute [local go_sem] max2_int min2_int max_two min_two max_three min_three max_four min_four   -- for this text's walks alone
set_option linter.unusedVariables false
set_option linter.unusedSimpArgs false

/-! ### spec_CompareNumbers: function 36 -/
mutual
def spec_CompareNumbers.l0 : Nat → List (S28) → List (S28) → Int → Option (Int)
 | 0, _, _, _ => none
 | k + 1, x0, x1, x5 => if x5 < (x0.length : Int) then (spec_CompareNumbers.j1 k x0 x1 x5 true) else (spec_CompareNumbers.j1 k x0 x1 x5 (decide (x5 < (x1.length : Int))))
def spec_CompareNumbers.j1 : Nat → List (S28) → List (S28) → Int → Bool → Option (Int)
 | 0, _, _, _, _ => none
 | k + 1, x0, x1, x5, x18 => if x18 = true then (if x5 < (x0.length : Int) then (if 0 ≤ x5 then (spec_CompareNumbers.j2 k x0 x1 x5 ((rd_T28 x0 x5).f0) ((rd_T28 x0 x5).f1) false (⟨#[]⟩ : ByteArray)) else (none)) else (spec_CompareNumbers.j2 k x0 x1 x5 false (⟨#[]⟩ : ByteArray) false (⟨#[]⟩ : ByteArray))) else (some 0)
def spec_CompareNumbers.j2 : Nat → List (S28) → List (S28) → Int → Bool → ByteArray → Bool → ByteArray → Option (Int)
 | 0, _, _, _, _, _, _, _ => none
 | k + 1, x0, x1, x5, x163000, x163001, x164000, x164001 => if x5 < (x1.length : Int) then (if 0 ≤ x5 then ((spec_intOrder.f k x163000 x163001 ((rd_T28 x1 x5).f0) ((rd_T28 x1 x5).f1)).bind fun t166 => (if t166 = 0 then (spec_CompareNumbers.l0 k x0 x1 (wrap64 (x5 + 1))) else (some t166))) else (none)) else ((spec_intOrder.f k x163000 x163001 x164000 x164001).bind fun t167 => (if t167 = 0 then (spec_CompareNumbers.l0 k x0 x1 (wrap64 (x5 + 1))) else (some t167)))
end
def spec_CompareNumbers.f (k : Nat) (l0 : List (S28)) (l1 : List (S28)) : Option (Int) := spec_CompareNumbers.l0 k l0 l1 0
theorem spec_CompareNumbers.mono_l : ∀ k, (∀ y0 y1 y2, LeO (spec_CompareNumbers.l0 k y0 y1 y2) (spec_CompareNumbers.l0 (k + 1) y0 y1 y2)) ∧ (∀ y0 y1 y2 y3, LeO (spec_CompareNumbers.j1 k y0 y1 y2 y3) (spec_CompareNumbers.j1 (k + 1) y0 y1 y2 y3)) ∧ (∀ y0 y1 y2 y3 y4 y5 y6, LeO (spec_CompareNumbers.j2 k y0 y1 y2 y3 y4 y5 y6) (spec_CompareNumbers.j2 (k + 1) y0 y1 y2 y3 y4 y5 y6))
 | 0 => ⟨fun _ _ _ r h => by simp [spec_CompareNumbers.l0] at h, fun _ _ _ _ r h => by simp [spec_CompareNumbers.j1] at h, fun _ _ _ _ _ _ _ r h => by simp [spec_CompareNumbers.j2] at h⟩
 | k + 1 => by
  obtain ⟨ih0, ih1, ih2⟩ := spec_CompareNumbers.mono_l k
  refine ⟨?_, ?_, ?_⟩
  ·intro y0 y1 y2
   unfold spec_CompareNumbers.l0
   repeat' first
   | (with_reducible exact ih0 _ _ _)
   | (with_reducible exact ih1 _ _ _ _)
   | (with_reducible exact ih2 _ _ _ _ _ _ _)
   | (with_reducible exact spec_intOrder.mono _ _ _ _ _)
   | (with_reducible exact LeO.refl _)
   | (with_reducible exact LeO.none _)
   | (with_reducible refine LeO.ite ?_ ?_)
   | (with_reducible refine LeO.bind ?_ (fun _ => ?_))
   | exact ih0 _ _ _
   | exact ih1 _ _ _ _
   | exact ih2 _ _ _ _ _ _ _
   | exact spec_intOrder.mono _ _ _ _ _
   | exact LeO.none _
   | refine LeO.ite ?_ ?_
   | refine LeO.bind ?_ (fun _ => ?_)
  ·intro y0 y1 y2 y3
   unfold spec_CompareNumbers.j1
   repeat' first
   | (with_reducible exact ih0 _ _ _)
   | (with_reducible exact ih1 _ _ _ _)
   | (with_reducible exact ih2 _ _ _ _ _ _ _)
   | (with_reducible exact spec_intOrder.mono _ _ _ _ _)
   | (with_reducible exact LeO.refl _)
   | (with_reducible exact LeO.none _)
   | (with_reducible refine LeO.ite ?_ ?_)
   | (with_reducible refine LeO.bind ?_ (fun _ => ?_))
   | exact ih0 _ _ _
   | exact ih1 _ _ _ _
   | exact ih2 _ _ _ _ _ _ _
   | exact spec_intOrder.mono _ _ _ _ _
   | exact LeO.none _
   | refine LeO.ite ?_ ?_
   | refine LeO.bind ?_ (fun _ => ?_)
  ·intro y0 y1 y2 y3 y4 y5 y6
   unfold spec_CompareNumbers.j2
   repeat' first
   | (with_reducible exact ih0 _ _ _)
   | (with_reducible exact ih1 _ _ _ _)
   | (with_reducible exact ih2 _ _ _ _ _ _ _)
   | (with_reducible exact spec_intOrder.mono _ _ _ _ _)
   | (with_reducible exact LeO.refl _)
   | (with_reducible exact LeO.none _)
   | (with_reducible refine LeO.ite ?_ ?_)
   | (with_reducible refine LeO.bind ?_ (fun _ => ?_))
   | exact ih0 _ _ _
   | exact ih1 _ _ _ _
   | exact ih2 _ _ _ _ _ _ _
   | exact spec_intOrder.mono _ _ _ _ _
   | exact LeO.none _
   | refine LeO.ite ?_ ?_
   | refine LeO.bind ?_ (fun _ => ?_)
theorem spec_CompareNumbers.mono : ∀ a0 a1 k, LeO (spec_CompareNumbers.f k a0 a1) (spec_CompareNumbers.f (k + 1) a0 a1) := by
 intro a0 a1 k
 obtain ⟨ih0, ih1, ih2⟩ := spec_CompareNumbers.mono_l k
 unfold spec_CompareNumbers.f
 repeat' first
   | (with_reducible exact ih0 _ _ _)
   | (with_reducible exact ih1 _ _ _ _)
   | (with_reducible exact ih2 _ _ _ _ _ _ _)
   | (with_reducible exact spec_intOrder.mono _ _ _ _ _)
   | (with_reducible exact LeO.refl _)
   | (with_reducible exact LeO.none _)
   | (with_reducible refine LeO.ite ?_ ?_)
   | (with_reducible refine LeO.bind ?_ (fun _ => ?_))
   | exact ih0 _ _ _
   | exact ih1 _ _ _ _
   | exact ih2 _ _ _ _ _ _ _
   | exact spec_intOrder.mono _ _ _ _ _
   | exact LeO.none _
   | refine LeO.ite ?_ ?_
   | refine LeO.bind ?_ (fun _ => ?_)
set_option maxHeartbeats 8000000 in
set_option maxRecDepth 100000 in
theorem spec_CompareNumbers.calls (k : Nat) (A0 : Option Addr) (c0 : Nat) (l0 : List (S28)) (A1 : Option Addr) (c1 : Nat) (l1 : List (S28)) (r : Int) (w : World) (hr0 : Kd.C k28 w A0 l0.length l0) (hc0 : l0.length ≤ c0) (hr1 : Kd.C k28 w A1 l1.length l1) (hc1 : l1.length ≤ c1) (h : spec_CompareNumbers.f k l0 l1 = some r) :
  Calls Tryd.prog 36 #[.slice A0 l0.length c0, .slice A1 l1.length c1] w fun e w' => e = .returned (.int .i64 r) ∧ Below w.heap.size w w' := by
 have hu28 := Tryd.underlying28
 have HR0 := Aside0.mk hr0
 have HC0 := Aside0.mk hc0
 clear hr0 hc0
 have HR1 := Aside0.mk hr1
 have HC1 := Aside0.mk hc1
 clear hr1 hc1
 have HB := Aside0.mk (Below.refl w.heap.size w)
 have H : (spec_CompareNumbers.l0 k l0 l1 0) = some r := h
 clear h
 have H' := Aside0.mk H
 clear H
 go_enter Tryd.func36, Tryd.ntmps36
 go_wp2
 go_loopg [5] k (fun kq v5 w' => ∃ (x5_1 : Int), v5 = .int .i64 x5_1 ∧ Aside0 (spec_CompareNumbers.l0 kq l0 l1 x5_1 = some r) ∧ Aside0 (kq ≤ k) ∧ Aside0 (Below w.heap.size w w'))
 case atStart => exact ⟨(0), (by first | rfl | (simp; done) | (simp [*]; done)), H', ⟨Nat.le_refl _⟩, ⟨by repeat (first | (with_reducible first | exact HB.out | apply below_alloc | apply pw_below_drewN | apply below_drew1) | exact HB.out)⟩⟩
 case round =>
  clear H'
  try clear c1
  try clear p2
  obtain ⟨x5_1, rfl, HA, HK1, HB⟩ := hrel
  cases gk with
  | zero => exact absurd HA.out (by simp [spec_CompareNumbers.l0])
  | succ k1 =>
   have H := HA.out
   clear HA
   simp only [spec_CompareNumbers.l0] at H
   have HC3 := Aside0.mk H
   clear H
   go_upto_region 2 with (fail)
   go_cut [18] (fun v18 wc => ∃ (kq : Nat) (x18_2 : Bool), v18 = .bool x18_2 ∧ Aside0 (spec_CompareNumbers.j1 kq l0 l1 x5_1 x18_2 = some r) ∧ Aside0 (kq ≤ k1) ∧ Aside0 (Below w.heap.size w wc))
   case first =>
    have H := HC3.out
    clear HC3
    by_cases c4 : x5_1 < (l0.length : Int)
    ·rw [if_pos c4] at H
     have c4b0 : decide (x5_1 < (l0.length : Int)) = true := decide_eq_true c4
     clear c4
     (first | rw [c4b0] | (simp only [i64_w, i32_w]; rw [c4b0]) | skip)
     have H' := Aside0.mk H
     clear H
     go_wp2
     go_meet
     case rel => exact ⟨_, (true), (by first | rfl | (simp; done) | (simp [*]; done)), H', ⟨by have := HK1.out; first | omega | exact Nat.le_refl _⟩, ⟨by repeat (first | (with_reducible first | exact HB.out | apply below_alloc | apply pw_below_drewN | apply below_drew1) | exact HB.out)⟩⟩
    ·rw [if_neg c4] at H
     have c4b0 : decide (x5_1 < (l0.length : Int)) = false := decide_eq_false c4
     clear c4
     (first | rw [c4b0] | (simp only [i64_w, i32_w]; rw [c4b0]) | skip)
     have H' := Aside0.mk H
     clear H
     go_wp2
     go_meet
     case rel => exact ⟨_, (decide (x5_1 < (l1.length : Int))), (by first | rfl | (simp; done) | (simp [*]; done)), H', ⟨by have := HK1.out; first | omega | exact Nat.le_refl _⟩, ⟨by repeat (first | (with_reducible first | exact HB.out | apply below_alloc | apply pw_below_drewN | apply below_drew1) | exact HB.out)⟩⟩
   case rest =>
    clear HC3
    try clear c1
    try clear p2
    try clear c3
    try clear c4
    try clear c4b0
    try clear p2
    obtain ⟨kq, x18_2, rfl, HA, HJ2, HB⟩ := hcut
    cases kq with
    | zero => exact absurd HA.out (by simp [spec_CompareNumbers.j1])
    | succ kj2 =>
     have H := HA.out
     clear HA
     simp only [spec_CompareNumbers.j1] at H
     by_cases c5 : x18_2 = true
     ·subst c5
      have H1 : (if x5_1 < (l0.length : Int) then (if 0 ≤ x5_1 then (spec_CompareNumbers.j2 kj2 l0 l1 x5_1 ((rd_T28 l0 x5_1).f0) ((rd_T28 l0 x5_1).f1) false (⟨#[]⟩ : ByteArray)) else (none)) else (spec_CompareNumbers.j2 kj2 l0 l1 x5_1 false (⟨#[]⟩ : ByteArray) false (⟨#[]⟩ : ByteArray))) = some r := by rw [if_pos rfl] at H; exact H
      clear H
      have H := H1
      clear H1
      have HC6 := Aside0.mk H
      clear H
      go_upto_if 24 with (first | ((with_reducible refine gate_dst (N := 6) rfl ?_); (try (refine gate_guard (by rfl) ?_; dsimp only)); refine box_event ?hg (N := 6) ?hd (cs := #[.bool false, .string (⟨#[]⟩ : ByteArray)]) (t := 28) ?hr ?_; (case hd => rfl); (case hg => rfl); (case hr => first | (go_simp; done) | (go_simp; rfl)); intro gb162 hg w7 hbox hb; have n0_ := Aside0.mk (below_step (by repeat (first | (with_reducible first | exact HB.out | apply below_alloc | apply pw_below_drewN | apply below_drew1) | exact HB.out)) hb); have n1_ := Aside0.mk (hbox); have n2_ := Aside0.mk ((by rw [hg]; exact (below_size (by repeat (first | (with_reducible first | exact HB.out | apply below_alloc | apply pw_below_drewN | apply below_drew1) | exact HB.out))) : w.heap.size ≤ gb162)); have n3_ := Aside0.mk ((by rw [hg]; exact (below_size (by repeat (first | (with_reducible first | exact HB.out | apply below_alloc | apply pw_below_drewN | apply below_drew1) | exact HB.out))) : w.heap.size ≤ gb162)); clear HB; have HB := n0_; have BK162 := n1_; have GW162 := n2_; have GE162 := n3_; clear n0_ n1_ n2_ n3_; clear hb hbox hg) | ((with_reducible refine gate_dst (N := 7) rfl ?_); (try (refine gate_guard (by rfl) ?_; dsimp only)); refine box_event ?hg (N := 7) ?hd (cs := #[.bool false, .string (⟨#[]⟩ : ByteArray)]) (t := 28) ?hr ?_; (case hd => rfl); (case hg => rfl); (case hr => first | (go_simp; done) | (go_simp; rfl)); intro gb163 hg w8 hbox hb; have n0_ := Aside0.mk (blk_below (g := gb162) (o := .cells #[.bool false, .string (⟨#[]⟩ : ByteArray)] 28 (0, 0)) (by (with_reducible repeat (first | refine blk_drewN ?_ _ | refine blk_drew ?_ | refine blk_alloc ?_ _)); exact BK162.out) hb); have n1_ := Aside0.mk (below_step (by repeat (first | (with_reducible first | exact HB.out | apply below_alloc | apply pw_below_drewN | apply below_drew1 | refine below_set ?_ GE162.out) | exact HB.out)) hb); have n2_ := Aside0.mk (hbox); have n3_ := Aside0.mk ((by rw [hg]; exact (below_size (by repeat (first | (with_reducible first | exact HB.out | apply below_alloc | apply pw_below_drewN | apply below_drew1 | refine below_set ?_ GE162.out) | exact HB.out))) : w.heap.size ≤ gb163)); have n4_ := Aside0.mk ((by rw [hg]; exact (below_size (by repeat (first | (with_reducible first | exact HB.out | apply below_alloc | apply pw_below_drewN | apply below_drew1 | refine below_set ?_ GE162.out) | exact HB.out))) : w.heap.size ≤ gb163)); have n5_ := Aside0.mk ((by rw [hg]; exact Nat.ne_of_lt (blk_lt (g := gb162) (o := .cells #[.bool false, .string (⟨#[]⟩ : ByteArray)] 28 (0, 0)) (by (with_reducible repeat (first | refine blk_drewN ?_ _ | refine blk_drew ?_ | refine blk_alloc ?_ _)); exact BK162.out)) : gb162 ≠ gb163)); have n6_ := Aside0.mk ((by rw [hg]; exact Nat.ne_of_gt (blk_lt (g := gb162) (o := .cells #[.bool false, .string (⟨#[]⟩ : ByteArray)] 28 (0, 0)) (by (with_reducible repeat (first | refine blk_drewN ?_ _ | refine blk_drew ?_ | refine blk_alloc ?_ _)); exact BK162.out)) : gb163 ≠ gb162)); clear BK162; clear HB; have BK162 := n0_; have HB := n1_; have BK163 := n2_; have GW163 := n3_; have GE163 := n4_; have NB162_163 := n5_; have NB163_162 := n6_; clear n0_ n1_ n2_ n3_ n4_ n5_ n6_; clear hb hbox hg))
      (try simp only [Act.put, List.setIfInBounds_toArray, List.set_cons_zero, List.set_cons_succ])
      go_cut [] (fun wc => ∃ (kq : Nat) (x163000_5 : Bool) (x163001_5 : ByteArray), Aside0 (spec_CompareNumbers.j2 kq l0 l1 x5_1 x163000_5 x163001_5 false (⟨#[]⟩ : ByteArray) = some r) ∧ Aside0 (kq ≤ kj2) ∧ Aside0 (wc.heap[gb162]? = some (.cells #[.bool x163000_5, .string x163001_5] 28 (0, 0))) ∧ Aside0 (wc.heap[gb163]? = some (.cells #[.bool false, .string (⟨#[]⟩ : ByteArray)] 28 (0, 0))) ∧ Aside0 (Below w.heap.size w wc))
      case first =>
       have H := HC6.out
       clear HC6
       by_cases c9 : x5_1 < (l0.length : Int)
       ·rw [if_pos c9] at H
        have c9b0 : decide (x5_1 < (l0.length : Int)) = true := decide_eq_true c9
        clear c9
        (first | rw [c9b0] | (simp only [i64_w, i32_w]; rw [c9b0]) | skip)
        by_cases c10 : 0 ≤ x5_1
        ·rw [if_pos c10] at H
         have c10b0 : decide (0 ≤ x5_1) = true := decide_eq_true c10
         clear c10
         have H' := Aside0.mk H
         clear H
         have p164 : 0 ≤ (x5_1 : Int) := of_decide_eq_true (by first | (with_reducible assumption) | assumption)
         have q164 : x5_1 < (l0.length : Int) := of_decide_eq_true (by first | (with_reducible assumption) | assumption)
         obtain ⟨ad164, e164, hx164_0, hx164_1⟩ := at_T28 HR0.out x5_1 p164 q164
         cases e164
         replace hx164_0 := (HB.out.cell (World.block_lt_of_cell? w _ hx164_0)).trans hx164_0
         replace hx164_1 := (HB.out.cell (World.block_lt_of_cell? w _ hx164_1)).trans hx164_1
         replace p164 := eq_true p164
         replace q164 := eq_true q164
         have hnb11 := NB162_163.out
         have hnc11 := NB163_162.out
         have hcz12_0 : w8.cell? ⟨gb162, 0, none⟩ = some (.bool false) := (blk_cell BK162.out 0).trans rfl
         have hcz12_1 : w8.cell? ⟨gb162, 1, none⟩ = some (.string (⟨#[]⟩ : ByteArray)) := (blk_cell BK162.out 1).trans rfl
         have hfz12_0 := blk_frozen BK162.out 0
         have hfz12_1 := blk_frozen BK162.out 1
         go_wp2
         go_meet
         case rel => exact ⟨_, ((rd_T28 l0 x5_1).f0), ((rd_T28 l0 x5_1).f1), H', ⟨by have := HK1.out; have := HJ2.out; first | omega | exact Nat.le_refl _⟩, ⟨by (with_reducible repeat (first | refine blk_drewN ?_ _ | refine blk_drew ?_ | refine blk_alloc ?_ _)); refine blk_put (cs := #[.bool ((rd_T28 l0 x5_1).f0), .string (⟨#[]⟩ : ByteArray)]) ?_ 1 _ rfl; (with_reducible repeat (first | refine blk_drewN ?_ _ | refine blk_drew ?_ | refine blk_alloc ?_ _)); refine blk_put (cs := #[.bool false, .string (⟨#[]⟩ : ByteArray)]) ?_ 0 _ rfl; (with_reducible repeat (first | refine blk_drewN ?_ _ | refine blk_drew ?_ | refine blk_alloc ?_ _)); exact BK162.out⟩, ⟨by (with_reducible repeat (first | refine blk_drewN ?_ _ | refine blk_drew ?_ | refine blk_alloc ?_ _)); refine blk_far ?_ NB163_162.out _; (with_reducible repeat (first | refine blk_drewN ?_ _ | refine blk_drew ?_ | refine blk_alloc ?_ _)); refine blk_far ?_ NB163_162.out _; (with_reducible repeat (first | refine blk_drewN ?_ _ | refine blk_drew ?_ | refine blk_alloc ?_ _)); exact BK163.out⟩, ⟨by repeat (first | (with_reducible first | exact HB.out | apply below_alloc | apply pw_below_drewN | apply below_drew1 | refine below_set ?_ GE162.out | refine below_set ?_ GE163.out) | exact HB.out)⟩⟩
        ·rw [if_neg c10] at H
         exact absurd H (by simp)
       ·rw [if_neg c9] at H
        have c9b0 : decide (x5_1 < (l0.length : Int)) = false := decide_eq_false c9
        clear c9
        (first | rw [c9b0] | (simp only [i64_w, i32_w]; rw [c9b0]) | skip)
        have H' := Aside0.mk H
        clear H
        go_wp2
        go_meet
        case rel => exact ⟨_, (false), ((⟨#[]⟩ : ByteArray)), H', ⟨by have := HK1.out; have := HJ2.out; first | omega | exact Nat.le_refl _⟩, ⟨by (with_reducible repeat (first | refine blk_drewN ?_ _ | refine blk_drew ?_ | refine blk_alloc ?_ _)); exact BK162.out⟩, ⟨by (with_reducible repeat (first | refine blk_drewN ?_ _ | refine blk_drew ?_ | refine blk_alloc ?_ _)); exact BK163.out⟩, ⟨by repeat (first | (with_reducible first | exact HB.out | apply below_alloc | apply pw_below_drewN | apply below_drew1 | refine below_set ?_ GE162.out | refine below_set ?_ GE163.out) | exact HB.out)⟩⟩
      case rest =>
       clear HC6
       try clear c1
       try clear p1
       try clear q1
       try clear hx1
       try clear p2
       try clear c3
       try clear c4
       try clear c4b0
       try clear c5
       try clear c9
       try clear c9b0
       try clear c10
       try clear c10b0
       try clear c11
       try clear hcz12_0
       try clear hcz12_1
       try clear hfz12_0
       try clear hfz12_1
       try clear hx164_0
       try clear hx164_1
       try clear p164
       try clear p2
       try clear q164
       obtain ⟨kq, x163000_5, x163001_5, HA, HJ5, BK162, BK163, HB⟩ := hcut
       cases kq with
       | zero => exact absurd HA.out (by simp [spec_CompareNumbers.j2])
       | succ kj5 =>
        have H := HA.out
        clear HA
        simp only [spec_CompareNumbers.j2] at H
        by_cases c13 : x5_1 < (l1.length : Int)
        ·rw [if_pos c13] at H
         have c13b0 : decide (x5_1 < (l1.length : Int)) = true := decide_eq_true c13
         clear c13
         by_cases c14 : 0 ≤ x5_1
         ·rw [if_pos c14] at H
          have c14b0 : decide (0 ≤ x5_1) = true := decide_eq_true c14
          clear c14
          replace H := Option.bind_eq_some_iff.mp H
          obtain ⟨t166, A150, H⟩ := H
          replace H : (if t166 = 0 then (spec_CompareNumbers.l0 kj5 l0 l1 (wrap64 (x5_1 + 1))) else (some t166)) = some r := H
          have A15 := Aside0.mk A150
          clear A150
          by_cases c16 : t166 = 0
          ·rw [if_pos c16] at H
           have c16b0 : (t166 == 0) = true := beq_iff_eq.mpr c16
           have c16b1 : (t166 != 0) = false := bne_eq_false_iff_eq.mpr c16
           clear c16
           have H' := Aside0.mk H
           clear H
           have p165 : 0 ≤ (x5_1 : Int) := of_decide_eq_true (by first | (with_reducible assumption) | assumption)
           have q165 : x5_1 < (l1.length : Int) := of_decide_eq_true (by first | (with_reducible assumption) | assumption)
           obtain ⟨ad165, e165, hx165_0, hx165_1⟩ := at_T28 HR1.out x5_1 p165 q165
           cases e165
           replace hx165_0 := (HB.out.cell (World.block_lt_of_cell? w _ hx165_0)).trans hx165_0
           replace hx165_1 := (HB.out.cell (World.block_lt_of_cell? w _ hx165_1)).trans hx165_1
           replace p165 := eq_true p165
           replace q165 := eq_true q165
           have hnb17 := NB163_162.out
           have hnc17 := NB162_163.out
           have hcz18_0 : wc.cell? ⟨gb163, 0, none⟩ = some (.bool false) := (blk_cell BK163.out 0).trans rfl
           have hcz18_1 : wc.cell? ⟨gb163, 1, none⟩ = some (.string (⟨#[]⟩ : ByteArray)) := (blk_cell BK163.out 1).trans rfl
           have hfz18_0 := blk_frozen BK163.out 0
           have hfz18_1 := blk_frozen BK163.out 1
           have hcz19_0 : wc.cell? ⟨gb162, 0, none⟩ = some (.bool x163000_5) := (blk_cell BK162.out 0).trans rfl
           have hcz19_1 : wc.cell? ⟨gb162, 1, none⟩ = some (.string x163001_5) := (blk_cell BK162.out 1).trans rfl
           have hfz19_0 := blk_frozen BK162.out 0
           have hfz19_1 := blk_frozen BK162.out 1
           go_wp2_with (first | ((with_reducible refine gate_callee (f := 50) rfl ?_); refine goesL_ (some 39) rfl rfl Tryd.func50 (by kernel_rfl) rfl #[.agg #[.bool x163000_5, .string x163001_5], .agg #[.bool ((rd_T28 l1 x5_1).f0), .string ((rd_T28 l1 x5_1).f1)]] rfl (by (try simp only [List.map_toArray, List.map_cons, List.map_nil]); first | done | rfl | (simp only [List.length_drop, List.length_take]; rfl)) ?_; (with_reducible refine (spec_intOrder.calls kj5 x163000_5 x163001_5 ((rd_T28 l1 x5_1).f0) ((rd_T28 l1 x5_1).f1) t166 _ A15.out).mono ?_); rintro e w20 ⟨rfl, hb⟩; refine ⟨_, rfl, ?_⟩; have n0_ := Aside0.mk (blk_below (g := gb162) (o := .cells #[.bool x163000_5, .string x163001_5] 28 (0, 0)) (by (with_reducible repeat (first | refine blk_drewN ?_ _ | refine blk_drew ?_ | refine blk_alloc ?_ _)); refine blk_far ?_ NB162_163.out _; (with_reducible repeat (first | refine blk_drewN ?_ _ | refine blk_drew ?_ | refine blk_alloc ?_ _)); refine blk_far ?_ NB162_163.out _; (with_reducible repeat (first | refine blk_drewN ?_ _ | refine blk_drew ?_ | refine blk_alloc ?_ _)); exact BK162.out) hb); have n1_ := Aside0.mk (blk_below (g := gb163) (o := .cells #[.bool ((rd_T28 l1 x5_1).f0), .string ((rd_T28 l1 x5_1).f1)] 28 (0, 0)) (by (with_reducible repeat (first | refine blk_drewN ?_ _ | refine blk_drew ?_ | refine blk_alloc ?_ _)); refine blk_put (cs := #[.bool ((rd_T28 l1 x5_1).f0), .string (⟨#[]⟩ : ByteArray)]) ?_ 1 _ rfl; (with_reducible repeat (first | refine blk_drewN ?_ _ | refine blk_drew ?_ | refine blk_alloc ?_ _)); refine blk_put (cs := #[.bool false, .string (⟨#[]⟩ : ByteArray)]) ?_ 0 _ rfl; (with_reducible repeat (first | refine blk_drewN ?_ _ | refine blk_drew ?_ | refine blk_alloc ?_ _)); exact BK163.out) hb); have n2_ := Aside0.mk (below_step (by repeat (first | (with_reducible first | exact HB.out | apply below_alloc | apply pw_below_drewN | apply below_drew1 | refine below_set ?_ GE162.out | refine below_set ?_ GE163.out) | exact HB.out)) hb); clear BK162; clear BK163; clear HB; have BK162 := n0_; have BK163 := n1_; have HB := n2_; clear n0_ n1_ n2_; (try clear hb); (try clear hb2); (try clear hk); (try clear hi)))
           go_roundg kj5
           case measure => have := HK1.out; have := HJ2.out; have := HJ5.out; omega
           case rel => exact ⟨(wrap64 (x5_1 + 1)), (by first | rfl | (simp; done) | (simp [*]; done)), H', ⟨by have := HK1.out; have := HJ2.out; have := HJ5.out; omega⟩, ⟨by repeat (first | (with_reducible first | exact HB.out | apply below_alloc | apply pw_below_drewN | apply below_drew1 | refine below_set ?_ GE162.out | refine below_set ?_ GE163.out) | exact HB.out)⟩⟩
          ·rw [if_neg c16] at H
           have c16b0 : (t166 == 0) = false := beq_eq_false_iff_ne.mpr c16
           have c16b1 : (t166 != 0) = true := bne_iff_ne.mpr c16
           obtain rfl := Option.some.inj H
           have p165 : 0 ≤ (x5_1 : Int) := of_decide_eq_true (by first | (with_reducible assumption) | assumption)
           have q165 : x5_1 < (l1.length : Int) := of_decide_eq_true (by first | (with_reducible assumption) | assumption)
           obtain ⟨ad165, e165, hx165_0, hx165_1⟩ := at_T28 HR1.out x5_1 p165 q165
           cases e165
           replace hx165_0 := (HB.out.cell (World.block_lt_of_cell? w _ hx165_0)).trans hx165_0
           replace hx165_1 := (HB.out.cell (World.block_lt_of_cell? w _ hx165_1)).trans hx165_1
           replace p165 := eq_true p165
           replace q165 := eq_true q165
           have hnb21 := NB163_162.out
           have hnc21 := NB162_163.out
           have hcz22_0 : wc.cell? ⟨gb163, 0, none⟩ = some (.bool false) := (blk_cell BK163.out 0).trans rfl
           have hcz22_1 : wc.cell? ⟨gb163, 1, none⟩ = some (.string (⟨#[]⟩ : ByteArray)) := (blk_cell BK163.out 1).trans rfl
           have hfz22_0 := blk_frozen BK163.out 0
           have hfz22_1 := blk_frozen BK163.out 1
           have hcz23_0 : wc.cell? ⟨gb162, 0, none⟩ = some (.bool x163000_5) := (blk_cell BK162.out 0).trans rfl
           have hcz23_1 : wc.cell? ⟨gb162, 1, none⟩ = some (.string x163001_5) := (blk_cell BK162.out 1).trans rfl
           have hfz23_0 := blk_frozen BK162.out 0
           have hfz23_1 := blk_frozen BK162.out 1
           go_wp2_with (first | ((with_reducible refine gate_callee (f := 50) rfl ?_); refine goesL_ (some 39) rfl rfl Tryd.func50 (by kernel_rfl) rfl #[.agg #[.bool x163000_5, .string x163001_5], .agg #[.bool ((rd_T28 l1 x5_1).f0), .string ((rd_T28 l1 x5_1).f1)]] rfl (by (try simp only [List.map_toArray, List.map_cons, List.map_nil]); first | done | rfl | (simp only [List.length_drop, List.length_take]; rfl)) ?_; (with_reducible refine (spec_intOrder.calls kj5 x163000_5 x163001_5 ((rd_T28 l1 x5_1).f0) ((rd_T28 l1 x5_1).f1) t166 _ A15.out).mono ?_); rintro e w24 ⟨rfl, hb⟩; refine ⟨_, rfl, ?_⟩; have n0_ := Aside0.mk (blk_below (g := gb162) (o := .cells #[.bool x163000_5, .string x163001_5] 28 (0, 0)) (by (with_reducible repeat (first | refine blk_drewN ?_ _ | refine blk_drew ?_ | refine blk_alloc ?_ _)); refine blk_far ?_ NB162_163.out _; (with_reducible repeat (first | refine blk_drewN ?_ _ | refine blk_drew ?_ | refine blk_alloc ?_ _)); refine blk_far ?_ NB162_163.out _; (with_reducible repeat (first | refine blk_drewN ?_ _ | refine blk_drew ?_ | refine blk_alloc ?_ _)); exact BK162.out) hb); have n1_ := Aside0.mk (blk_below (g := gb163) (o := .cells #[.bool ((rd_T28 l1 x5_1).f0), .string ((rd_T28 l1 x5_1).f1)] 28 (0, 0)) (by (with_reducible repeat (first | refine blk_drewN ?_ _ | refine blk_drew ?_ | refine blk_alloc ?_ _)); refine blk_put (cs := #[.bool ((rd_T28 l1 x5_1).f0), .string (⟨#[]⟩ : ByteArray)]) ?_ 1 _ rfl; (with_reducible repeat (first | refine blk_drewN ?_ _ | refine blk_drew ?_ | refine blk_alloc ?_ _)); refine blk_put (cs := #[.bool false, .string (⟨#[]⟩ : ByteArray)]) ?_ 0 _ rfl; (with_reducible repeat (first | refine blk_drewN ?_ _ | refine blk_drew ?_ | refine blk_alloc ?_ _)); exact BK163.out) hb); have n2_ := Aside0.mk (below_step (by repeat (first | (with_reducible first | exact HB.out | apply below_alloc | apply pw_below_drewN | apply below_drew1 | refine below_set ?_ GE162.out | refine below_set ?_ GE163.out) | exact HB.out)) hb); clear BK162; clear BK163; clear HB; have BK162 := n0_; have BK163 := n1_; have HB := n2_; clear n0_ n1_ n2_; (try clear hb); (try clear hb2); (try clear hk); (try clear hi)))
           go_ret
           exact ⟨by first | rfl | (simp [errW_none, errW_some] <;> rfl) | (simp [*, errW_none, errW_some] <;> rfl), by repeat (first | (with_reducible first | exact HB.out | apply below_alloc | apply pw_below_drewN | apply below_drew1 | refine below_set ?_ GE162.out | refine below_set ?_ GE163.out) | exact HB.out)⟩
         ·rw [if_neg c14] at H
          exact absurd H (by simp)
        ·rw [if_neg c13] at H
         have c13b0 : decide (x5_1 < (l1.length : Int)) = false := decide_eq_false c13
         clear c13
         replace H := Option.bind_eq_some_iff.mp H
         obtain ⟨t167, A250, H⟩ := H
         replace H : (if t167 = 0 then (spec_CompareNumbers.l0 kj5 l0 l1 (wrap64 (x5_1 + 1))) else (some t167)) = some r := H
         have A25 := Aside0.mk A250
         clear A250
         by_cases c26 : t167 = 0
         ·rw [if_pos c26] at H
          have c26b0 : (t167 == 0) = true := beq_iff_eq.mpr c26
          have c26b1 : (t167 != 0) = false := bne_eq_false_iff_eq.mpr c26
          clear c26
          have H' := Aside0.mk H
          clear H
          have hnb27 := NB162_163.out
          have hnc27 := NB163_162.out
          have hcz28_0 : wc.cell? ⟨gb162, 0, none⟩ = some (.bool x163000_5) := (blk_cell BK162.out 0).trans rfl
          have hcz28_1 : wc.cell? ⟨gb162, 1, none⟩ = some (.string x163001_5) := (blk_cell BK162.out 1).trans rfl
          have hfz28_0 := blk_frozen BK162.out 0
          have hfz28_1 := blk_frozen BK162.out 1
          have hcz29_0 : wc.cell? ⟨gb163, 0, none⟩ = some (.bool false) := (blk_cell BK163.out 0).trans rfl
          have hcz29_1 : wc.cell? ⟨gb163, 1, none⟩ = some (.string (⟨#[]⟩ : ByteArray)) := (blk_cell BK163.out 1).trans rfl
          have hfz29_0 := blk_frozen BK163.out 0
          have hfz29_1 := blk_frozen BK163.out 1
          go_wp2_with (first | ((with_reducible refine gate_callee (f := 50) rfl ?_); refine goesL_ (some 39) rfl rfl Tryd.func50 (by kernel_rfl) rfl #[.agg #[.bool x163000_5, .string x163001_5], .agg #[.bool false, .string (⟨#[]⟩ : ByteArray)]] rfl (by (try simp only [List.map_toArray, List.map_cons, List.map_nil]); first | done | rfl | (simp only [List.length_drop, List.length_take]; rfl)) ?_; (with_reducible refine (spec_intOrder.calls kj5 x163000_5 x163001_5 false (⟨#[]⟩ : ByteArray) t167 _ A25.out).mono ?_); rintro e w30 ⟨rfl, hb⟩; refine ⟨_, rfl, ?_⟩; have n0_ := Aside0.mk (blk_below (g := gb162) (o := .cells #[.bool x163000_5, .string x163001_5] 28 (0, 0)) (by (with_reducible repeat (first | refine blk_drewN ?_ _ | refine blk_drew ?_ | refine blk_alloc ?_ _)); exact BK162.out) hb); have n1_ := Aside0.mk (blk_below (g := gb163) (o := .cells #[.bool false, .string (⟨#[]⟩ : ByteArray)] 28 (0, 0)) (by (with_reducible repeat (first | refine blk_drewN ?_ _ | refine blk_drew ?_ | refine blk_alloc ?_ _)); exact BK163.out) hb); have n2_ := Aside0.mk (below_step (by repeat (first | (with_reducible first | exact HB.out | apply below_alloc | apply pw_below_drewN | apply below_drew1 | refine below_set ?_ GE162.out | refine below_set ?_ GE163.out) | exact HB.out)) hb); clear BK162; clear BK163; clear HB; have BK162 := n0_; have BK163 := n1_; have HB := n2_; clear n0_ n1_ n2_; (try clear hb); (try clear hb2); (try clear hk); (try clear hi)))
          go_roundg kj5
          case measure => have := HK1.out; have := HJ2.out; have := HJ5.out; omega
          case rel => exact ⟨(wrap64 (x5_1 + 1)), (by first | rfl | (simp; done) | (simp [*]; done)), H', ⟨by have := HK1.out; have := HJ2.out; have := HJ5.out; omega⟩, ⟨by repeat (first | (with_reducible first | exact HB.out | apply below_alloc | apply pw_below_drewN | apply below_drew1 | refine below_set ?_ GE162.out | refine below_set ?_ GE163.out) | exact HB.out)⟩⟩
         ·rw [if_neg c26] at H
          have c26b0 : (t167 == 0) = false := beq_eq_false_iff_ne.mpr c26
          have c26b1 : (t167 != 0) = true := bne_iff_ne.mpr c26
          obtain rfl := Option.some.inj H
          have hnb31 := NB162_163.out
          have hnc31 := NB163_162.out
          have hcz32_0 : wc.cell? ⟨gb162, 0, none⟩ = some (.bool x163000_5) := (blk_cell BK162.out 0).trans rfl
          have hcz32_1 : wc.cell? ⟨gb162, 1, none⟩ = some (.string x163001_5) := (blk_cell BK162.out 1).trans rfl
          have hfz32_0 := blk_frozen BK162.out 0
          have hfz32_1 := blk_frozen BK162.out 1
          have hcz33_0 : wc.cell? ⟨gb163, 0, none⟩ = some (.bool false) := (blk_cell BK163.out 0).trans rfl
          have hcz33_1 : wc.cell? ⟨gb163, 1, none⟩ = some (.string (⟨#[]⟩ : ByteArray)) := (blk_cell BK163.out 1).trans rfl
          have hfz33_0 := blk_frozen BK163.out 0
          have hfz33_1 := blk_frozen BK163.out 1
          go_wp2_with (first | ((with_reducible refine gate_callee (f := 50) rfl ?_); refine goesL_ (some 39) rfl rfl Tryd.func50 (by kernel_rfl) rfl #[.agg #[.bool x163000_5, .string x163001_5], .agg #[.bool false, .string (⟨#[]⟩ : ByteArray)]] rfl (by (try simp only [List.map_toArray, List.map_cons, List.map_nil]); first | done | rfl | (simp only [List.length_drop, List.length_take]; rfl)) ?_; (with_reducible refine (spec_intOrder.calls kj5 x163000_5 x163001_5 false (⟨#[]⟩ : ByteArray) t167 _ A25.out).mono ?_); rintro e w34 ⟨rfl, hb⟩; refine ⟨_, rfl, ?_⟩; have n0_ := Aside0.mk (blk_below (g := gb162) (o := .cells #[.bool x163000_5, .string x163001_5] 28 (0, 0)) (by (with_reducible repeat (first | refine blk_drewN ?_ _ | refine blk_drew ?_ | refine blk_alloc ?_ _)); exact BK162.out) hb); have n1_ := Aside0.mk (blk_below (g := gb163) (o := .cells #[.bool false, .string (⟨#[]⟩ : ByteArray)] 28 (0, 0)) (by (with_reducible repeat (first | refine blk_drewN ?_ _ | refine blk_drew ?_ | refine blk_alloc ?_ _)); exact BK163.out) hb); have n2_ := Aside0.mk (below_step (by repeat (first | (with_reducible first | exact HB.out | apply below_alloc | apply pw_below_drewN | apply below_drew1 | refine below_set ?_ GE162.out | refine below_set ?_ GE163.out) | exact HB.out)) hb); clear BK162; clear BK163; clear HB; have BK162 := n0_; have BK163 := n1_; have HB := n2_; clear n0_ n1_ n2_; (try clear hb); (try clear hb2); (try clear hk); (try clear hi)))
          go_ret
          exact ⟨by first | rfl | (simp [errW_none, errW_some] <;> rfl) | (simp [*, errW_none, errW_some] <;> rfl), by repeat (first | (with_reducible first | exact HB.out | apply below_alloc | apply pw_below_drewN | apply below_drew1 | refine below_set ?_ GE162.out | refine below_set ?_ GE163.out) | exact HB.out)⟩
     ·replace c5 := Bool.eq_false_iff.mpr c5
      subst c5
      have H1 : (some 0) = some r := by rw [if_neg (show ¬ (false = true) by decide)] at H; exact H
      clear H
      have H := H1
      clear H1
      obtain rfl := Option.some.inj H
      go_wp2
      go_ret
      exact ⟨by first | rfl | (simp [errW_none, errW_some] <;> rfl) | (simp [*, errW_none, errW_some] <;> rfl), by repeat (first | (with_reducible first | exact HB.out | apply below_alloc | apply pw_below_drewN | apply below_drew1) | exact HB.out)⟩

/-! ### spec_orderNumbers: function 75 -/
mutual
def spec_orderNumbers.j1 : Nat → ByteArray → ByteArray → Option (Int)
 | 0, _, _ => none
 | k + 1, x0, x1 => spec_orderNumbers.l1 k x0 x1
def spec_orderNumbers.j3 : Nat → ByteArray → ByteArray → Option (Int)
 | 0, _, _ => none
 | k + 1, x0, x1 => if (x0.size : Int) = (x1.size : Int) then ((spec_order.f x0 x1).bind fun t168 => (some t168)) else ((spec_orderInts.f (x0.size : Int) (x1.size : Int)).bind fun t169 => (some t169))
def spec_orderNumbers.l1 : Nat → ByteArray → ByteArray → Option (Int)
 | 0, _, _ => none
 | k + 1, x0, x1 => if (x1.size : Int) > 0 then (if 0 < (x1.size : Int) then (if (bt x1 0) = 48 then (if 1 ≤ (x1.size : Int) then (spec_orderNumbers.l1 k x0 (x1.extract 1 x1.size)) else (none)) else (spec_orderNumbers.j3 k x0 x1)) else (none)) else (spec_orderNumbers.j3 k x0 x1)
def spec_orderNumbers.l0 : Nat → ByteArray → ByteArray → Option (Int)
 | 0, _, _ => none
 | k + 1, x0, x1 => if (x0.size : Int) > 0 then (if 0 < (x0.size : Int) then (if (bt x0 0) = 48 then (if 1 ≤ (x0.size : Int) then (spec_orderNumbers.l0 k (x0.extract 1 x0.size) x1) else (none)) else (spec_orderNumbers.j1 k x0 x1)) else (none)) else (spec_orderNumbers.j1 k x0 x1)
end
def spec_orderNumbers.f (k : Nat) (a0 : ByteArray) (a1 : ByteArray) : Option (Int) := spec_orderNumbers.l0 k a0 a1
theorem spec_orderNumbers.mono_l : ∀ k, (∀ y0 y1, LeO (spec_orderNumbers.j1 k y0 y1) (spec_orderNumbers.j1 (k + 1) y0 y1)) ∧ (∀ y0 y1, LeO (spec_orderNumbers.j3 k y0 y1) (spec_orderNumbers.j3 (k + 1) y0 y1)) ∧ (∀ y0 y1, LeO (spec_orderNumbers.l1 k y0 y1) (spec_orderNumbers.l1 (k + 1) y0 y1)) ∧ (∀ y0 y1, LeO (spec_orderNumbers.l0 k y0 y1) (spec_orderNumbers.l0 (k + 1) y0 y1))
 | 0 => ⟨fun _ _ r h => by simp [spec_orderNumbers.j1] at h, fun _ _ r h => by simp [spec_orderNumbers.j3] at h, fun _ _ r h => by simp [spec_orderNumbers.l1] at h, fun _ _ r h => by simp [spec_orderNumbers.l0] at h⟩
 | k + 1 => by
  obtain ⟨ih0, ih1, ih2, ih3⟩ := spec_orderNumbers.mono_l k
  refine ⟨?_, ?_, ?_, ?_⟩
  ·intro y0 y1
   unfold spec_orderNumbers.j1
   repeat' first
   | (with_reducible exact ih0 _ _)
   | (with_reducible exact ih1 _ _)
   | (with_reducible exact ih2 _ _)
   | (with_reducible exact ih3 _ _)
   | (with_reducible exact LeO.refl _)
   | (with_reducible exact LeO.none _)
   | (with_reducible refine LeO.ite ?_ ?_)
   | (with_reducible refine LeO.bind ?_ (fun _ => ?_))
   | exact ih0 _ _
   | exact ih1 _ _
   | exact ih2 _ _
   | exact ih3 _ _
   | exact LeO.none _
   | refine LeO.ite ?_ ?_
   | refine LeO.bind ?_ (fun _ => ?_)
  ·intro y0 y1
   unfold spec_orderNumbers.j3
   repeat' first
   | (with_reducible exact ih0 _ _)
   | (with_reducible exact ih1 _ _)
   | (with_reducible exact ih2 _ _)
   | (with_reducible exact ih3 _ _)
   | (with_reducible exact LeO.refl _)
   | (with_reducible exact LeO.none _)
   | (with_reducible refine LeO.ite ?_ ?_)
   | (with_reducible refine LeO.bind ?_ (fun _ => ?_))
   | exact ih0 _ _
   | exact ih1 _ _
   | exact ih2 _ _
   | exact ih3 _ _
   | exact LeO.none _
   | refine LeO.ite ?_ ?_
   | refine LeO.bind ?_ (fun _ => ?_)
  ·intro y0 y1
   unfold spec_orderNumbers.l1
   repeat' first
   | (with_reducible exact ih0 _ _)
   | (with_reducible exact ih1 _ _)
   | (with_reducible exact ih2 _ _)
   | (with_reducible exact ih3 _ _)
   | (with_reducible exact LeO.refl _)
   | (with_reducible exact LeO.none _)
   | (with_reducible refine LeO.ite ?_ ?_)
   | (with_reducible refine LeO.bind ?_ (fun _ => ?_))
   | exact ih0 _ _
   | exact ih1 _ _
   | exact ih2 _ _
   | exact ih3 _ _
   | exact LeO.none _
   | refine LeO.ite ?_ ?_
   | refine LeO.bind ?_ (fun _ => ?_)
  ·intro y0 y1
   unfold spec_orderNumbers.l0
   repeat' first
   | (with_reducible exact ih0 _ _)
   | (with_reducible exact ih1 _ _)
   | (with_reducible exact ih2 _ _)
   | (with_reducible exact ih3 _ _)
   | (with_reducible exact LeO.refl _)
   | (with_reducible exact LeO.none _)
   | (with_reducible refine LeO.ite ?_ ?_)
   | (with_reducible refine LeO.bind ?_ (fun _ => ?_))
   | exact ih0 _ _
   | exact ih1 _ _
   | exact ih2 _ _
   | exact ih3 _ _
   | exact LeO.none _
   | refine LeO.ite ?_ ?_
   | refine LeO.bind ?_ (fun _ => ?_)
theorem spec_orderNumbers.mono : ∀ a0 a1 k, LeO (spec_orderNumbers.f k a0 a1) (spec_orderNumbers.f (k + 1) a0 a1) := by
 intro a0 a1 k
 obtain ⟨ih0, ih1, ih2, ih3⟩ := spec_orderNumbers.mono_l k
 unfold spec_orderNumbers.f
 repeat' first
   | (with_reducible exact ih0 _ _)
   | (with_reducible exact ih1 _ _)
   | (with_reducible exact ih2 _ _)
   | (with_reducible exact ih3 _ _)
   | (with_reducible exact LeO.refl _)
   | (with_reducible exact LeO.none _)
   | (with_reducible refine LeO.ite ?_ ?_)
   | (with_reducible refine LeO.bind ?_ (fun _ => ?_))
   | exact ih0 _ _
   | exact ih1 _ _
   | exact ih2 _ _
   | exact ih3 _ _
   | exact LeO.none _
   | refine LeO.ite ?_ ?_
   | refine LeO.bind ?_ (fun _ => ?_)
set_option maxHeartbeats 8000000 in
set_option maxRecDepth 100000 in
theorem spec_orderNumbers.calls (k : Nat) (a0 : ByteArray) (a1 : ByteArray) (r : Int) (w : World) (h : spec_orderNumbers.f k a0 a1 = some r) :
  Calls Tryd.prog 75 #[.string a0, .string a1] w fun e w' => e = .returned (.int .i64 r) ∧ Drawn0 w w' := by
 have H : (spec_orderNumbers.l0 k a0 a1) = some r := h
 clear h
 have HC3 := Aside0.mk H
 clear H
 go_enter Tryd.func75, Tryd.ntmps75
 go_upto_block 0 with (fail)
 go_cut [0] (fun v0 wc => ∃ (kq : Nat) (x0_2 : ByteArray), v0 = .string x0_2 ∧ Aside0 (spec_orderNumbers.j1 kq x0_2 a1 = some r) ∧ Aside0 (kq ≤ k) ∧ Drawn0 w wc)
 case first =>
  have H := HC3.out
  clear HC3
  have H' := Aside0.mk H
  clear H
  go_wp2
  go_loopg [0] k (fun kq v0 w' => ∃ (x0_1 : ByteArray), v0 = .string x0_1 ∧ Aside0 (spec_orderNumbers.l0 kq x0_1 a1 = some r) ∧ Aside0 (kq ≤ k) ∧ Drawn0 w w')
  case atStart => exact ⟨(a0), (by first | rfl | (simp; done) | (simp [*]; done)), H', ⟨Nat.le_refl _⟩, by repeat (first | exact Drawn0.refl _ | apply Drawn0.step)⟩
  case round =>
   clear H'
   try clear p2
   obtain ⟨x0_1, rfl, HA, HK1, ⟨m1, rfl⟩⟩ := hrel
   cases gk with
   | zero => exact absurd HA.out (by simp [spec_orderNumbers.l0])
   | succ k1 =>
    have H := HA.out
    clear HA
    simp only [spec_orderNumbers.l0] at H
    by_cases c4 : (x0_1.size : Int) > 0
    ·rw [if_pos c4] at H
     have c4b0 : decide (0 < (x0_1.size : Int)) = true := decide_eq_true c4
     have c4b1 : decide (0 < x0_1.size) = true := decide_eq_true (by omega)
     clear c4
     (first | rw [c4b0] | (simp only [i64_w, i32_w]; rw [c4b0]) | skip)
     by_cases c5 : 0 < (x0_1.size : Int)
     ·rw [if_pos c5] at H
      have c5b0 : decide (0 < (x0_1.size : Int)) = true := decide_eq_true c5
      have c5b1 : decide (0 < x0_1.size) = true := decide_eq_true (by omega)
      clear c5
      by_cases c7 : (bt x0_1 0) = 48
      ·rw [if_pos c7] at H
       have c7b0 : ((bt x0_1 0) == 48) = true := beq_iff_eq.mpr c7
       have c7b1 : ((bt x0_1 0) != 48) = false := bne_eq_false_iff_eq.mpr c7
       clear c7
       by_cases c8 : 1 ≤ (x0_1.size : Int)
       ·rw [if_pos c8] at H
        have c8b0 := eq_true c8
        have c8b1 : decide (1 ≤ (x0_1.size : Int)) = true := decide_eq_true c8
        clear c8
        have H' := Aside0.mk H
        clear H
        have p6 : 0 ≤ (0 : Int) := (by omega)
        have q6 : 0 < x0_1.size := (by have : (0 : Int) < (x0_1.size : Int) := of_decide_eq_true (by first | (with_reducible assumption) | assumption); omega)
        have hx6 : ∀ h : 0 < x0_1.size, ((x0_1[0]'h).toNat : Int) = bt x0_1 0 := bt_at x0_1 0
        clear p6
        have qi6 : (0 < (x0_1.size : Int)) = True := eq_true (of_decide_eq_true (by first | (with_reducible assumption) | assumption))
        replace q6 := eq_true q6
        go_wp2
        go_roundg k1
        case measure => have := HK1.out; omega
        case rel => exact ⟨(x0_1.extract 1 x0_1.size), (by first | rfl | (simp; done) | (simp [*]; done)), H', ⟨by have := HK1.out; omega⟩, by repeat (first | exact Drawn0.refl _ | apply Drawn0.step)⟩
       ·rw [if_neg c8] at H
        exact absurd H (by simp)
      ·rw [if_neg c7] at H
       have c7b0 : ((bt x0_1 0) == 48) = false := beq_eq_false_iff_ne.mpr c7
       have c7b1 : ((bt x0_1 0) != 48) = true := bne_iff_ne.mpr c7
       have H' := Aside0.mk H
       clear H
       have p6 : 0 ≤ (0 : Int) := (by omega)
       have q6 : 0 < x0_1.size := (by have : (0 : Int) < (x0_1.size : Int) := of_decide_eq_true (by first | (with_reducible assumption) | assumption); omega)
       have hx6 : ∀ h : 0 < x0_1.size, ((x0_1[0]'h).toNat : Int) = bt x0_1 0 := bt_at x0_1 0
       clear p6
       have qi6 : (0 < (x0_1.size : Int)) = True := eq_true (of_decide_eq_true (by first | (with_reducible assumption) | assumption))
       replace q6 := eq_true q6
       go_wp2
       go_meet
       case rel => exact ⟨_, (x0_1), (by first | rfl | (simp; done) | (simp [*]; done)), H', ⟨by have := HK1.out; first | omega | exact Nat.le_refl _⟩, by repeat (first | exact Drawn0.refl _ | apply Drawn0.step)⟩
     ·rw [if_neg c5] at H
      exact absurd H (by simp)
    ·rw [if_neg c4] at H
     have c4b0 : decide (0 < (x0_1.size : Int)) = false := decide_eq_false c4
     have c4b1 : decide (0 < x0_1.size) = false := decide_eq_false (by omega)
     clear c4
     (first | rw [c4b0] | (simp only [i64_w, i32_w]; rw [c4b0]) | skip)
     have H' := Aside0.mk H
     clear H
     go_wp2
     go_meet
     case rel => exact ⟨_, (x0_1), (by first | rfl | (simp; done) | (simp [*]; done)), H', ⟨by have := HK1.out; first | omega | exact Nat.le_refl _⟩, by repeat (first | exact Drawn0.refl _ | apply Drawn0.step)⟩
 case rest =>
  clear HC3
  try clear p2
  try clear c4
  try clear c4b0
  try clear c4b1
  try clear c5
  try clear c5b0
  try clear c5b1
  try clear p6
  try clear q6
  try clear hx6
  try clear qi6
  try clear c7
  try clear c7b0
  try clear c7b1
  try clear c8
  try clear c8b0
  try clear c8b1
  try clear p2
  try clear p6
  try clear q6
  obtain ⟨kq, x0_2, rfl, HA, HJ2, ⟨mc2, rfl⟩⟩ := hcut
  cases kq with
  | zero => exact absurd HA.out (by simp [spec_orderNumbers.j1])
  | succ kj2 =>
   have H := HA.out
   clear HA
   simp only [spec_orderNumbers.j1] at H
   have HC9 := Aside0.mk H
   clear H
   go_upto_block 2 with (fail)
   go_cut [1] (fun v1 wc => ∃ (kq : Nat) (x1_8 : ByteArray), v1 = .string x1_8 ∧ Aside0 (spec_orderNumbers.j3 kq x0_2 x1_8 = some r) ∧ Aside0 (kq ≤ kj2) ∧ Drawn0 w wc)
   case first =>
    have H := HC9.out
    clear HC9
    have H' := Aside0.mk H
    clear H
    go_wp2
    go_loopg [1] kj2 (fun kq v1 w' => ∃ (x1_2 : ByteArray), v1 = .string x1_2 ∧ Aside0 (spec_orderNumbers.l1 kq x0_2 x1_2 = some r) ∧ Aside0 (kq ≤ kj2) ∧ Drawn0 w w')
    case atStart => exact ⟨(a1), (by first | rfl | (simp; done) | (simp [*]; done)), H', ⟨Nat.le_refl _⟩, by repeat (first | exact Drawn0.refl _ | apply Drawn0.step)⟩
    case round =>
     clear H'
     try clear c2
     try clear p2
     try clear c4
     try clear c4b0
     try clear c4b1
     try clear c5
     try clear c5b0
     try clear c5b1
     try clear p6
     try clear q6
     try clear hx6
     try clear qi6
     try clear c7
     try clear c7b0
     try clear c7b1
     try clear c8
     try clear c8b0
     try clear c8b1
     try clear p2
     try clear p6
     try clear q6
     obtain ⟨x1_2, rfl, HA, HK2, ⟨m2, rfl⟩⟩ := hrel
     cases gk with
     | zero => exact absurd HA.out (by simp [spec_orderNumbers.l1])
     | succ k2 =>
      have H := HA.out
      clear HA
      simp only [spec_orderNumbers.l1] at H
      by_cases c10 : (x1_2.size : Int) > 0
      ·rw [if_pos c10] at H
       have c10b0 : decide (0 < (x1_2.size : Int)) = true := decide_eq_true c10
       have c10b1 : decide (0 < x1_2.size) = true := decide_eq_true (by omega)
       clear c10
       (first | rw [c10b0] | (simp only [i64_w, i32_w]; rw [c10b0]) | skip)
       by_cases c11 : 0 < (x1_2.size : Int)
       ·rw [if_pos c11] at H
        have c11b0 : decide (0 < (x1_2.size : Int)) = true := decide_eq_true c11
        have c11b1 : decide (0 < x1_2.size) = true := decide_eq_true (by omega)
        clear c11
        by_cases c13 : (bt x1_2 0) = 48
        ·rw [if_pos c13] at H
         have c13b0 : ((bt x1_2 0) == 48) = true := beq_iff_eq.mpr c13
         have c13b1 : ((bt x1_2 0) != 48) = false := bne_eq_false_iff_eq.mpr c13
         clear c13
         by_cases c14 : 1 ≤ (x1_2.size : Int)
         ·rw [if_pos c14] at H
          have c14b0 := eq_true c14
          have c14b1 : decide (1 ≤ (x1_2.size : Int)) = true := decide_eq_true c14
          clear c14
          have H' := Aside0.mk H
          clear H
          have p12 : 0 ≤ (0 : Int) := (by omega)
          have q12 : 0 < x1_2.size := (by have : (0 : Int) < (x1_2.size : Int) := of_decide_eq_true (by first | (with_reducible assumption) | assumption); omega)
          have hx12 : ∀ h : 0 < x1_2.size, ((x1_2[0]'h).toNat : Int) = bt x1_2 0 := bt_at x1_2 0
          clear p12
          have qi12 : (0 < (x1_2.size : Int)) = True := eq_true (of_decide_eq_true (by first | (with_reducible assumption) | assumption))
          replace q12 := eq_true q12
          go_wp2
          go_roundg k2
          case measure => have := HJ2.out; have := HK2.out; omega
          case rel => exact ⟨(x1_2.extract 1 x1_2.size), (by first | rfl | (simp; done) | (simp [*]; done)), H', ⟨by have := HJ2.out; have := HK2.out; omega⟩, by repeat (first | exact Drawn0.refl _ | apply Drawn0.step)⟩
         ·rw [if_neg c14] at H
          exact absurd H (by simp)
        ·rw [if_neg c13] at H
         have c13b0 : ((bt x1_2 0) == 48) = false := beq_eq_false_iff_ne.mpr c13
         have c13b1 : ((bt x1_2 0) != 48) = true := bne_iff_ne.mpr c13
         have H' := Aside0.mk H
         clear H
         have p12 : 0 ≤ (0 : Int) := (by omega)
         have q12 : 0 < x1_2.size := (by have : (0 : Int) < (x1_2.size : Int) := of_decide_eq_true (by first | (with_reducible assumption) | assumption); omega)
         have hx12 : ∀ h : 0 < x1_2.size, ((x1_2[0]'h).toNat : Int) = bt x1_2 0 := bt_at x1_2 0
         clear p12
         have qi12 : (0 < (x1_2.size : Int)) = True := eq_true (of_decide_eq_true (by first | (with_reducible assumption) | assumption))
         replace q12 := eq_true q12
         go_wp2
         go_meet
         case rel => exact ⟨_, (x1_2), (by first | rfl | (simp; done) | (simp [*]; done)), H', ⟨by have := HJ2.out; have := HK2.out; first | omega | exact Nat.le_refl _⟩, by repeat (first | exact Drawn0.refl _ | apply Drawn0.step)⟩
       ·rw [if_neg c11] at H
        exact absurd H (by simp)
      ·rw [if_neg c10] at H
       have c10b0 : decide (0 < (x1_2.size : Int)) = false := decide_eq_false c10
       have c10b1 : decide (0 < x1_2.size) = false := decide_eq_false (by omega)
       clear c10
       (first | rw [c10b0] | (simp only [i64_w, i32_w]; rw [c10b0]) | skip)
       have H' := Aside0.mk H
       clear H
       go_wp2
       go_meet
       case rel => exact ⟨_, (x1_2), (by first | rfl | (simp; done) | (simp [*]; done)), H', ⟨by have := HJ2.out; have := HK2.out; first | omega | exact Nat.le_refl _⟩, by repeat (first | exact Drawn0.refl _ | apply Drawn0.step)⟩
   case rest =>
    clear HC9
    try clear c1
    try clear p1
    try clear q1
    try clear hx1
    try clear qi1
    try clear c2
    try clear p2
    try clear c4
    try clear c4b0
    try clear c4b1
    try clear c5
    try clear c5b0
    try clear c5b1
    try clear p6
    try clear q6
    try clear hx6
    try clear qi6
    try clear c7
    try clear c7b0
    try clear c7b1
    try clear c8
    try clear c8b0
    try clear c8b1
    try clear c10
    try clear c10b0
    try clear c10b1
    try clear c11
    try clear c11b0
    try clear c11b1
    try clear p12
    try clear q12
    try clear hx12
    try clear qi12
    try clear c13
    try clear c13b0
    try clear c13b1
    try clear c14
    try clear c14b0
    try clear c14b1
    try clear p12
    try clear p2
    try clear p6
    try clear q12
    try clear q6
    obtain ⟨kq, x1_8, rfl, HA, HJ8, ⟨mc8, rfl⟩⟩ := hcut
    cases kq with
    | zero => exact absurd HA.out (by simp [spec_orderNumbers.j3])
    | succ kj8 =>
     have H := HA.out
     clear HA
     simp only [spec_orderNumbers.j3] at H
     by_cases c15 : (x0_2.size : Int) = (x1_8.size : Int)
     ·rw [if_pos c15] at H
      have c15b0 : ((x0_2.size : Int) == (x1_8.size : Int)) = true := beq_iff_eq.mpr c15
      have c15b1 : ((x0_2.size : Int) != (x1_8.size : Int)) = false := bne_eq_false_iff_eq.mpr c15
      have c15b2 : (x0_2.size == x1_8.size) = true := by first | simpa using c15 | (simp at c15 ⊢; omega)
      clear c15
      replace H := Option.bind_eq_some_iff.mp H
      obtain ⟨t168, A160, H⟩ := H
      replace H : (some t168) = some r := H
      have A16 := Aside0.mk A160
      clear A160
      obtain rfl := Option.some.inj H
      go_wp2_with (first | ((with_reducible refine gate_callee (f := 64) rfl ?_); refine goesL_ (some 37) rfl rfl Tryd.func64 (by kernel_rfl) rfl #[.string x0_2, .string x1_8] rfl (by (try simp only [List.map_toArray, List.map_cons, List.map_nil]); first | done | rfl | (simp only [List.length_drop, List.length_take]; rfl)) ?_; (with_reducible refine (spec_order.calls x0_2 x1_8 t168 _ A16.out).mono ?_); rintro e w' ⟨rfl, ⟨nd, rfl⟩⟩; refine ⟨_, rfl, ?_⟩))
      go_ret
      exact ⟨by first | rfl | (simp; done) | (simp [*]; done), by repeat (first | exact Drawn0.refl _ | apply Drawn0.step)⟩
     ·rw [if_neg c15] at H
      have c15b0 : ((x0_2.size : Int) == (x1_8.size : Int)) = false := beq_eq_false_iff_ne.mpr c15
      have c15b1 : ((x0_2.size : Int) != (x1_8.size : Int)) = true := bne_iff_ne.mpr c15
      have c15b2 : (x0_2.size == x1_8.size) = false := by first | simpa using c15 | (simp at c15 ⊢; omega)
      replace H := Option.bind_eq_some_iff.mp H
      obtain ⟨t169, A170, H⟩ := H
      replace H : (some t169) = some r := H
      have A17 := Aside0.mk A170
      clear A170
      obtain rfl := Option.some.inj H
      go_wp2_with (first | ((with_reducible refine gate_callee (f := 51) rfl ?_); refine goesL_ (some 34) rfl rfl Tryd.func51 (by kernel_rfl) rfl #[.int .i64 (x0_2.size : Int), .int .i64 (x1_8.size : Int)] rfl (by (try simp only [List.map_toArray, List.map_cons, List.map_nil]); first | done | rfl | (simp only [List.length_drop, List.length_take]; rfl)) ?_; (with_reducible refine (spec_orderInts.calls (x0_2.size : Int) (x1_8.size : Int) t169 _ A17.out).mono ?_); rintro e w' ⟨rfl, ⟨nd, rfl⟩⟩; refine ⟨_, rfl, ?_⟩))
      go_ret
      exact ⟨by first | rfl | (simp; done) | (simp [*]; done), by repeat (first | exact Drawn0.refl _ | apply Drawn0.step)⟩

/-! ### spec_pageOne: function 65 -/
def spec_pageOne.j0 : Nat → ByteArray → ByteArray → Bool → Bool → Bool → Option (Int)
 | 0, _, _, _, _, _ => none
 | k + 1, x0, x1, x5, x6, x11 => if x11 = true then ((spec_orderNumbers.f k x0 x1).bind fun t172 => (some t172)) else (if x5 = true then (some (-1)) else (if x6 = true then (some 1) else ((spec_order.f x0 x1).bind fun t173 => (some t173))))
def spec_pageOne.f (k : Nat) (a0 : ByteArray) (a1 : ByteArray) : Option (Int) := (spec_allDigits.f k a0).bind fun t170 => ((spec_allDigits.f k a1).bind fun t171 => (if t170 = true then (spec_pageOne.j0 k a0 a1 t170 t171 t171) else (spec_pageOne.j0 k a0 a1 t170 t171 false)))
theorem spec_pageOne.mono_l : ∀ k, (∀ y0 y1 y2 y3 y4, LeO (spec_pageOne.j0 k y0 y1 y2 y3 y4) (spec_pageOne.j0 (k + 1) y0 y1 y2 y3 y4))
 | 0 => fun _ _ _ _ _ r h => by simp [spec_pageOne.j0] at h
 | k + 1 => by
  have ih0 := spec_pageOne.mono_l k
  ·intro y0 y1 y2 y3 y4
   unfold spec_pageOne.j0
   repeat' first
   | (with_reducible exact ih0 _ _ _ _ _)
   | (with_reducible exact spec_allDigits.mono _ _)
   | (with_reducible exact spec_orderNumbers.mono _ _ _)
   | (with_reducible exact LeO.refl _)
   | (with_reducible exact LeO.none _)
   | (with_reducible refine LeO.ite ?_ ?_)
   | (with_reducible refine LeO.bind ?_ (fun _ => ?_))
   | exact ih0 _ _ _ _ _
   | exact spec_allDigits.mono _ _
   | exact spec_orderNumbers.mono _ _ _
   | exact LeO.none _
   | refine LeO.ite ?_ ?_
   | refine LeO.bind ?_ (fun _ => ?_)
theorem spec_pageOne.mono : ∀ a0 a1 k, LeO (spec_pageOne.f k a0 a1) (spec_pageOne.f (k + 1) a0 a1) := by
 intro a0 a1 k
 have ih0 := spec_pageOne.mono_l k
 unfold spec_pageOne.f
 repeat' first
   | (with_reducible exact ih0 _ _ _ _ _)
   | (with_reducible exact spec_allDigits.mono _ _)
   | (with_reducible exact spec_orderNumbers.mono _ _ _)
   | (with_reducible exact LeO.refl _)
   | (with_reducible exact LeO.none _)
   | (with_reducible refine LeO.ite ?_ ?_)
   | (with_reducible refine LeO.bind ?_ (fun _ => ?_))
   | exact ih0 _ _ _ _ _
   | exact spec_allDigits.mono _ _
   | exact spec_orderNumbers.mono _ _ _
   | exact LeO.none _
   | refine LeO.ite ?_ ?_
   | refine LeO.bind ?_ (fun _ => ?_)
set_option maxHeartbeats 8000000 in
set_option maxRecDepth 100000 in
theorem spec_pageOne.calls (k : Nat) (a0 : ByteArray) (a1 : ByteArray) (r : Int) (w : World) (h : spec_pageOne.f k a0 a1 = some r) :
  Calls Tryd.prog 65 #[.string a0, .string a1] w fun e w' => e = .returned (.int .i64 r) ∧ Drawn0 w w' := by
 have H : ((spec_allDigits.f k a0).bind fun t170 => ((spec_allDigits.f k a1).bind fun t171 => (if t170 = true then (spec_pageOne.j0 k a0 a1 t170 t171 t171) else (spec_pageOne.j0 k a0 a1 t170 t171 false)))) = some r := h
 clear h
 replace H := Option.bind_eq_some_iff.mp H
 obtain ⟨t170, A30, H⟩ := H
 replace H : ((spec_allDigits.f k a1).bind fun t171 => (if t170 = true then (spec_pageOne.j0 k a0 a1 t170 t171 t171) else (spec_pageOne.j0 k a0 a1 t170 t171 false))) = some r := H
 have A3 := Aside0.mk A30
 clear A30
 replace H := Option.bind_eq_some_iff.mp H
 obtain ⟨t171, A40, H⟩ := H
 replace H : (if t170 = true then (spec_pageOne.j0 k a0 a1 t170 t171 t171) else (spec_pageOne.j0 k a0 a1 t170 t171 false)) = some r := H
 have A4 := Aside0.mk A40
 clear A40
 have HC5 := Aside0.mk H
 clear H
 go_enter Tryd.func65, Tryd.ntmps65
 go_upto_region 2 with (first | ((with_reducible refine gate_callee (f := 17) rfl ?_); refine goesL_ (some 8) rfl rfl Tryd.func17 (by kernel_rfl) rfl #[.string a0] rfl (by (try simp only [List.map_toArray, List.map_cons, List.map_nil]); first | done | rfl | (simp only [List.length_drop, List.length_take]; rfl)) ?_; (with_reducible refine (spec_allDigits.calls k a0 t170 _ A3.out).mono ?_); rintro e w' ⟨rfl, ⟨nd, rfl⟩⟩; refine ⟨_, rfl, ?_⟩) | ((with_reducible refine gate_callee (f := 17) rfl ?_); refine goesL_ (some 10) rfl rfl Tryd.func17 (by kernel_rfl) rfl #[.string a1] rfl (by (try simp only [List.map_toArray, List.map_cons, List.map_nil]); first | done | rfl | (simp only [List.length_drop, List.length_take]; rfl)) ?_; (with_reducible refine (spec_allDigits.calls k a1 t171 _ A4.out).mono ?_); rintro e w' ⟨rfl, ⟨nd, rfl⟩⟩; refine ⟨_, rfl, ?_⟩))
 (try simp only [Act.put, List.setIfInBounds_toArray, List.set_cons_zero, List.set_cons_succ])
 go_cut [11] (fun v11 wc => ∃ (kq : Nat) (x11_4 : Bool), v11 = .bool x11_4 ∧ Aside0 (spec_pageOne.j0 kq a0 a1 t170 t171 x11_4 = some r) ∧ Aside0 (kq ≤ k) ∧ Drawn0 w wc)
 case first =>
  have H := HC5.out
  clear HC5
  by_cases c6 : t170 = true
  ·subst c6
   have H1 : (spec_pageOne.j0 k a0 a1 true t171 t171) = some r := by rw [if_pos rfl] at H; exact H
   clear H
   have H := H1
   clear H1
   have H' := Aside0.mk H
   clear H
   go_wp2
   go_meet
   case rel => exact ⟨_, (t171), (by first | rfl | (simp; done) | (simp [*]; done)), H', ⟨by first | omega | exact Nat.le_refl _⟩, by repeat (first | exact Drawn0.refl _ | apply Drawn0.step)⟩
  ·replace c6 := Bool.eq_false_iff.mpr c6
   subst c6
   have H1 : (spec_pageOne.j0 k a0 a1 false t171 false) = some r := by rw [if_neg (show ¬ (false = true) by decide)] at H; exact H
   clear H
   have H := H1
   clear H1
   have H' := Aside0.mk H
   clear H
   go_wp2
   go_meet
   case rel => exact ⟨_, (false), (by first | rfl | (simp; done) | (simp [*]; done)), H', ⟨by first | omega | exact Nat.le_refl _⟩, by repeat (first | exact Drawn0.refl _ | apply Drawn0.step)⟩
 case rest =>
  clear HC5
  try clear c1
  try clear p2
  try clear c6
  obtain ⟨kq, x11_4, rfl, HA, HJ4, ⟨mc4, rfl⟩⟩ := hcut
  cases kq with
  | zero => exact absurd HA.out (by simp [spec_pageOne.j0])
  | succ kj4 =>
   have H := HA.out
   clear HA
   simp only [spec_pageOne.j0] at H
   by_cases c7 : x11_4 = true
   ·subst c7
    have H1 : ((spec_orderNumbers.f kj4 a0 a1).bind fun t172 => (some t172)) = some r := by rw [if_pos rfl] at H; exact H
    clear H
    have H := H1
    clear H1
    replace H := Option.bind_eq_some_iff.mp H
    obtain ⟨t172, A80, H⟩ := H
    replace H : (some t172) = some r := H
    have A8 := Aside0.mk A80
    clear A80
    obtain rfl := Option.some.inj H
    go_wp2_with (first | ((with_reducible refine gate_callee (f := 75) rfl ?_); refine goesL_ (some 18) rfl rfl Tryd.func75 (by kernel_rfl) rfl #[.string a0, .string a1] rfl (by (try simp only [List.map_toArray, List.map_cons, List.map_nil]); first | done | rfl | (simp only [List.length_drop, List.length_take]; rfl)) ?_; (with_reducible refine (spec_orderNumbers.calls kj4 a0 a1 t172 _ A8.out).mono ?_); rintro e w' ⟨rfl, ⟨nd, rfl⟩⟩; refine ⟨_, rfl, ?_⟩))
    go_ret
    exact ⟨by first | rfl | (simp; done) | (simp [*]; done), by repeat (first | exact Drawn0.refl _ | apply Drawn0.step)⟩
   ·replace c7 := Bool.eq_false_iff.mpr c7
    subst c7
    have H1 : (if t170 = true then (some (-1)) else (if t171 = true then (some 1) else ((spec_order.f a0 a1).bind fun t173 => (some t173)))) = some r := by rw [if_neg (show ¬ (false = true) by decide)] at H; exact H
    clear H
    have H := H1
    clear H1
    by_cases c9 : t170 = true
    ·subst c9
     have H1 : (some (-1)) = some r := by rw [if_pos rfl] at H; exact H
     clear H
     have H := H1
     clear H1
     obtain rfl := Option.some.inj H
     go_wp2
     go_ret
     exact ⟨by first | rfl | (simp; done) | (simp [*]; done), by repeat (first | exact Drawn0.refl _ | apply Drawn0.step)⟩
    ·replace c9 := Bool.eq_false_iff.mpr c9
     subst c9
     have H1 : (if t171 = true then (some 1) else ((spec_order.f a0 a1).bind fun t173 => (some t173))) = some r := by rw [if_neg (show ¬ (false = true) by decide)] at H; exact H
     clear H
     have H := H1
     clear H1
     by_cases c10 : t171 = true
     ·subst c10
      have H1 : (some 1) = some r := by rw [if_pos rfl] at H; exact H
      clear H
      have H := H1
      clear H1
      obtain rfl := Option.some.inj H
      go_wp2
      go_ret
      exact ⟨by first | rfl | (simp; done) | (simp [*]; done), by repeat (first | exact Drawn0.refl _ | apply Drawn0.step)⟩
     ·replace c10 := Bool.eq_false_iff.mpr c10
      subst c10
      have H1 : ((spec_order.f a0 a1).bind fun t173 => (some t173)) = some r := by rw [if_neg (show ¬ (false = true) by decide)] at H; exact H
      clear H
      have H := H1
      clear H1
      replace H := Option.bind_eq_some_iff.mp H
      obtain ⟨t173, A110, H⟩ := H
      replace H : (some t173) = some r := H
      have A11 := Aside0.mk A110
      clear A110
      obtain rfl := Option.some.inj H
      go_wp2_with (first | ((with_reducible refine gate_callee (f := 64) rfl ?_); refine goesL_ (some 25) rfl rfl Tryd.func64 (by kernel_rfl) rfl #[.string a0, .string a1] rfl (by (try simp only [List.map_toArray, List.map_cons, List.map_nil]); first | done | rfl | (simp only [List.length_drop, List.length_take]; rfl)) ?_; (with_reducible refine (spec_order.calls a0 a1 t173 _ A11.out).mono ?_); rintro e w' ⟨rfl, ⟨nd, rfl⟩⟩; refine ⟨_, rfl, ?_⟩))
      go_ret
      exact ⟨by first | rfl | (simp; done) | (simp [*]; done), by repeat (first | exact Drawn0.refl _ | apply Drawn0.step)⟩

/-! ### spec_Identifiers: function 52 -/
mutual
def spec_Identifiers.l0 : Nat → List ByteArray → List ByteArray → Int → Option (Int)
 | 0, _, _, _ => none
 | k + 1, x0, x1, x5 => if x5 < (x0.length : Int) then (spec_Identifiers.j1 k x0 x1 x5 (decide (x5 < (x1.length : Int)))) else (spec_Identifiers.j1 k x0 x1 x5 false)
def spec_Identifiers.j1 : Nat → List ByteArray → List ByteArray → Int → Bool → Option (Int)
 | 0, _, _, _, _ => none
 | k + 1, x0, x1, x5, x16 => if x16 = true then (if 0 ≤ x5 then (if x5 < (x0.length : Int) then (if x5 < (x1.length : Int) then ((spec_pageOne.f k (rdOf ByteArray.empty x0 x5) (rdOf ByteArray.empty x1 x5)).bind fun t176 => (if t176 = 0 then (spec_Identifiers.l0 k x0 x1 (wrap64 (x5 + 1))) else (some t176))) else (none)) else (none)) else (none)) else ((spec_orderInts.f (x0.length : Int) (x1.length : Int)).bind fun t177 => (some t177))
end
def spec_Identifiers.f (k : Nat) (l0 : List ByteArray) (l1 : List ByteArray) : Option (Int) := spec_Identifiers.l0 k l0 l1 0
theorem spec_Identifiers.mono_l : ∀ k, (∀ y0 y1 y2, LeO (spec_Identifiers.l0 k y0 y1 y2) (spec_Identifiers.l0 (k + 1) y0 y1 y2)) ∧ (∀ y0 y1 y2 y3, LeO (spec_Identifiers.j1 k y0 y1 y2 y3) (spec_Identifiers.j1 (k + 1) y0 y1 y2 y3))
 | 0 => ⟨fun _ _ _ r h => by simp [spec_Identifiers.l0] at h, fun _ _ _ _ r h => by simp [spec_Identifiers.j1] at h⟩
 | k + 1 => by
  obtain ⟨ih0, ih1⟩ := spec_Identifiers.mono_l k
  refine ⟨?_, ?_⟩
  ·intro y0 y1 y2
   unfold spec_Identifiers.l0
   repeat' first
   | (with_reducible exact ih0 _ _ _)
   | (with_reducible exact ih1 _ _ _ _)
   | (with_reducible exact spec_pageOne.mono _ _ _)
   | (with_reducible exact LeO.refl _)
   | (with_reducible exact LeO.none _)
   | (with_reducible refine LeO.ite ?_ ?_)
   | (with_reducible refine LeO.bind ?_ (fun _ => ?_))
   | exact ih0 _ _ _
   | exact ih1 _ _ _ _
   | exact spec_pageOne.mono _ _ _
   | exact LeO.none _
   | refine LeO.ite ?_ ?_
   | refine LeO.bind ?_ (fun _ => ?_)
  ·intro y0 y1 y2 y3
   unfold spec_Identifiers.j1
   repeat' first
   | (with_reducible exact ih0 _ _ _)
   | (with_reducible exact ih1 _ _ _ _)
   | (with_reducible exact spec_pageOne.mono _ _ _)
   | (with_reducible exact LeO.refl _)
   | (with_reducible exact LeO.none _)
   | (with_reducible refine LeO.ite ?_ ?_)
   | (with_reducible refine LeO.bind ?_ (fun _ => ?_))
   | exact ih0 _ _ _
   | exact ih1 _ _ _ _
   | exact spec_pageOne.mono _ _ _
   | exact LeO.none _
   | refine LeO.ite ?_ ?_
   | refine LeO.bind ?_ (fun _ => ?_)
theorem spec_Identifiers.mono : ∀ a0 a1 k, LeO (spec_Identifiers.f k a0 a1) (spec_Identifiers.f (k + 1) a0 a1) := by
 intro a0 a1 k
 obtain ⟨ih0, ih1⟩ := spec_Identifiers.mono_l k
 unfold spec_Identifiers.f
 repeat' first
   | (with_reducible exact ih0 _ _ _)
   | (with_reducible exact ih1 _ _ _ _)
   | (with_reducible exact spec_pageOne.mono _ _ _)
   | (with_reducible exact LeO.refl _)
   | (with_reducible exact LeO.none _)
   | (with_reducible refine LeO.ite ?_ ?_)
   | (with_reducible refine LeO.bind ?_ (fun _ => ?_))
   | exact ih0 _ _ _
   | exact ih1 _ _ _ _
   | exact spec_pageOne.mono _ _ _
   | exact LeO.none _
   | refine LeO.ite ?_ ?_
   | refine LeO.bind ?_ (fun _ => ?_)
set_option maxHeartbeats 8000000 in
set_option maxRecDepth 100000 in
theorem spec_Identifiers.calls (k : Nat) (A0 : Option Addr) (c0 : Nat) (l0 : List ByteArray) (A1 : Option Addr) (c1 : Nat) (l1 : List ByteArray) (r : Int) (w : World) (hr0 : Kd.C Kd.string w A0 l0.length l0) (hc0 : l0.length ≤ c0) (hr1 : Kd.C Kd.string w A1 l1.length l1) (hc1 : l1.length ≤ c1) (h : spec_Identifiers.f k l0 l1 = some r) :
  Calls Tryd.prog 52 #[.slice A0 l0.length c0, .slice A1 l1.length c1] w fun e w' => e = .returned (.int .i64 r) ∧ Drawn0 w w' := by
 have HR0 := Aside0.mk hr0
 have HC0 := Aside0.mk hc0
 clear hr0 hc0
 have HR1 := Aside0.mk hr1
 have HC1 := Aside0.mk hc1
 clear hr1 hc1
 have H : (spec_Identifiers.l0 k l0 l1 0) = some r := h
 clear h
 have H' := Aside0.mk H
 clear H
 go_enter Tryd.func52, Tryd.ntmps52
 go_wp2
 repeat (go_quiet (fail); try go_wp2)
 go_loopg [5] k (fun kq v5 w' => ∃ (x5_1 : Int), v5 = .int .i64 x5_1 ∧ Aside0 (spec_Identifiers.l0 kq l0 l1 x5_1 = some r) ∧ Aside0 (kq ≤ k) ∧ Drawn0 w w')
 case atStart => exact ⟨(0), (by first | rfl | (simp; done) | (simp [*]; done)), H', ⟨Nat.le_refl _⟩, by repeat (first | exact Drawn0.refl _ | apply Drawn0.step)⟩
 case round =>
  clear H'
  try clear c1
  try clear p2
  obtain ⟨x5_1, rfl, HA, HK1, ⟨m1, rfl⟩⟩ := hrel
  cases gk with
  | zero => exact absurd HA.out (by simp [spec_Identifiers.l0])
  | succ k1 =>
   have H := HA.out
   clear HA
   simp only [spec_Identifiers.l0] at H
   have HC3 := Aside0.mk H
   clear H
   go_upto_region 2 with (fail)
   repeat (go_quiet (fail); go_upto_region 2 with (fail))
   go_cut [16] (fun v16 wc => ∃ (kq : Nat) (x16_2 : Bool), v16 = .bool x16_2 ∧ Aside0 (spec_Identifiers.j1 kq l0 l1 x5_1 x16_2 = some r) ∧ Aside0 (kq ≤ k1) ∧ Drawn0 w wc)
   case first =>
    have H := HC3.out
    clear HC3
    by_cases c4 : x5_1 < (l0.length : Int)
    ·rw [if_pos c4] at H
     have c4b0 : decide (x5_1 < (l0.length : Int)) = true := decide_eq_true c4
     clear c4
     (first | rw [c4b0] | (simp only [i64_w, i32_w]; rw [c4b0]) | skip)
     have H' := Aside0.mk H
     clear H
     go_wp2
     repeat (go_quiet (fail); try go_wp2)
     go_meet
     case rel => exact ⟨_, (decide (x5_1 < (l1.length : Int))), (by first | rfl | (simp; done) | (simp [*]; done)), H', ⟨by have := HK1.out; first | omega | exact Nat.le_refl _⟩, by repeat (first | exact Drawn0.refl _ | apply Drawn0.step)⟩
    ·rw [if_neg c4] at H
     have c4b0 : decide (x5_1 < (l0.length : Int)) = false := decide_eq_false c4
     clear c4
     (first | rw [c4b0] | (simp only [i64_w, i32_w]; rw [c4b0]) | skip)
     have H' := Aside0.mk H
     clear H
     go_wp2
     repeat (go_quiet (fail); try go_wp2)
     go_meet
     case rel => exact ⟨_, (false), (by first | rfl | (simp; done) | (simp [*]; done)), H', ⟨by have := HK1.out; first | omega | exact Nat.le_refl _⟩, by repeat (first | exact Drawn0.refl _ | apply Drawn0.step)⟩
   case rest =>
    clear HC3
    try clear c1
    try clear p2
    try clear c4
    try clear c4b0
    try clear p2
    obtain ⟨kq, x16_2, rfl, HA, HJ2, ⟨mc2, rfl⟩⟩ := hcut
    cases kq with
    | zero => exact absurd HA.out (by simp [spec_Identifiers.j1])
    | succ kj2 =>
     have H := HA.out
     clear HA
     simp only [spec_Identifiers.j1] at H
     by_cases c5 : x16_2 = true
     ·subst c5
      have H1 : (if 0 ≤ x5_1 then (if x5_1 < (l0.length : Int) then (if x5_1 < (l1.length : Int) then ((spec_pageOne.f kj2 (rdOf ByteArray.empty l0 x5_1) (rdOf ByteArray.empty l1 x5_1)).bind fun t176 => (if t176 = 0 then (spec_Identifiers.l0 kj2 l0 l1 (wrap64 (x5_1 + 1))) else (some t176))) else (none)) else (none)) else (none)) = some r := by rw [if_pos rfl] at H; exact H
      clear H
      have H := H1
      clear H1
      by_cases c6 : 0 ≤ x5_1
      ·rw [if_pos c6] at H
       have c6b0 : decide (0 ≤ x5_1) = true := decide_eq_true c6
       clear c6
       by_cases c7 : x5_1 < (l0.length : Int)
       ·rw [if_pos c7] at H
        have c7b0 : decide (x5_1 < (l0.length : Int)) = true := decide_eq_true c7
        clear c7
        by_cases c8 : x5_1 < (l1.length : Int)
        ·rw [if_pos c8] at H
         have c8b0 : decide (x5_1 < (l1.length : Int)) = true := decide_eq_true c8
         clear c8
         replace H := Option.bind_eq_some_iff.mp H
         obtain ⟨t176, A90, H⟩ := H
         replace H : (if t176 = 0 then (spec_Identifiers.l0 kj2 l0 l1 (wrap64 (x5_1 + 1))) else (some t176)) = some r := H
         have A9 := Aside0.mk A90
         clear A90
         by_cases c10 : t176 = 0
         ·rw [if_pos c10] at H
          have c10b0 : (t176 == 0) = true := beq_iff_eq.mpr c10
          have c10b1 : (t176 != 0) = false := bne_eq_false_iff_eq.mpr c10
          clear c10
          have H' := Aside0.mk H
          clear H
          have p174 : 0 ≤ (x5_1 : Int) := of_decide_eq_true (by first | (with_reducible assumption) | assumption)
          have q174 : x5_1 < (l0.length : Int) := of_decide_eq_true (by first | (with_reducible assumption) | assumption)
          obtain ⟨ad174, e174, hx174_0⟩ := Kd.at_string HR0.out x5_1 p174 q174
          cases e174
          replace p174 := eq_true p174
          replace q174 := eq_true q174
          have p175 : 0 ≤ (x5_1 : Int) := of_decide_eq_true (by first | (with_reducible assumption) | assumption)
          have q175 : x5_1 < (l1.length : Int) := of_decide_eq_true (by first | (with_reducible assumption) | assumption)
          obtain ⟨ad175, e175, hx175_0⟩ := Kd.at_string HR1.out x5_1 p175 q175
          cases e175
          replace p175 := eq_true p175
          replace q175 := eq_true q175
          go_wp2_with (first | (go_at_call 65; (with_reducible refine (spec_pageOne.calls kj2 (rdOf ByteArray.empty l0 x5_1) (rdOf ByteArray.empty l1 x5_1) t176 _ A9.out).mono ?_); rintro e w' ⟨rfl, ⟨nd, rfl⟩⟩; (try first | exact ⟨rfl, _, World.drewN_drewN _ _ _⟩ | exact ⟨rfl, _, Eq.trans (World.drewN_drewN _ _ _) (congrArg (World.drewN _) (Nat.add_assoc _ _ _))⟩)))
          repeat (go_quiet (first | (go_at_call 65; (with_reducible refine (spec_pageOne.calls kj2 (rdOf ByteArray.empty l0 x5_1) (rdOf ByteArray.empty l1 x5_1) t176 _ A9.out).mono ?_); rintro e w' ⟨rfl, ⟨nd, rfl⟩⟩; (try first | exact ⟨rfl, _, World.drewN_drewN _ _ _⟩ | exact ⟨rfl, _, Eq.trans (World.drewN_drewN _ _ _) (congrArg (World.drewN _) (Nat.add_assoc _ _ _))⟩))); try go_wp2_with (first | (go_at_call 65; (with_reducible refine (spec_pageOne.calls kj2 (rdOf ByteArray.empty l0 x5_1) (rdOf ByteArray.empty l1 x5_1) t176 _ A9.out).mono ?_); rintro e w' ⟨rfl, ⟨nd, rfl⟩⟩; (try first | exact ⟨rfl, _, World.drewN_drewN _ _ _⟩ | exact ⟨rfl, _, Eq.trans (World.drewN_drewN _ _ _) (congrArg (World.drewN _) (Nat.add_assoc _ _ _))⟩))))
          go_roundg kj2
          case measure => have := HK1.out; have := HJ2.out; omega
          case rel => exact ⟨(wrap64 (x5_1 + 1)), (by first | rfl | (simp; done) | (simp [*]; done)), H', ⟨by have := HK1.out; have := HJ2.out; omega⟩, by repeat (first | exact Drawn0.refl _ | apply Drawn0.step)⟩
         ·rw [if_neg c10] at H
          have c10b0 : (t176 == 0) = false := beq_eq_false_iff_ne.mpr c10
          have c10b1 : (t176 != 0) = true := bne_iff_ne.mpr c10
          obtain rfl := Option.some.inj H
          have p174 : 0 ≤ (x5_1 : Int) := of_decide_eq_true (by first | (with_reducible assumption) | assumption)
          have q174 : x5_1 < (l0.length : Int) := of_decide_eq_true (by first | (with_reducible assumption) | assumption)
          obtain ⟨ad174, e174, hx174_0⟩ := Kd.at_string HR0.out x5_1 p174 q174
          cases e174
          replace p174 := eq_true p174
          replace q174 := eq_true q174
          have p175 : 0 ≤ (x5_1 : Int) := of_decide_eq_true (by first | (with_reducible assumption) | assumption)
          have q175 : x5_1 < (l1.length : Int) := of_decide_eq_true (by first | (with_reducible assumption) | assumption)
          obtain ⟨ad175, e175, hx175_0⟩ := Kd.at_string HR1.out x5_1 p175 q175
          cases e175
          replace p175 := eq_true p175
          replace q175 := eq_true q175
          go_wp2_with (first | (go_at_call 65; (with_reducible refine (spec_pageOne.calls kj2 (rdOf ByteArray.empty l0 x5_1) (rdOf ByteArray.empty l1 x5_1) t176 _ A9.out).mono ?_); rintro e w' ⟨rfl, ⟨nd, rfl⟩⟩; (try first | exact ⟨rfl, _, World.drewN_drewN _ _ _⟩ | exact ⟨rfl, _, Eq.trans (World.drewN_drewN _ _ _) (congrArg (World.drewN _) (Nat.add_assoc _ _ _))⟩)))
          repeat (go_quiet (first | (go_at_call 65; (with_reducible refine (spec_pageOne.calls kj2 (rdOf ByteArray.empty l0 x5_1) (rdOf ByteArray.empty l1 x5_1) t176 _ A9.out).mono ?_); rintro e w' ⟨rfl, ⟨nd, rfl⟩⟩; (try first | exact ⟨rfl, _, World.drewN_drewN _ _ _⟩ | exact ⟨rfl, _, Eq.trans (World.drewN_drewN _ _ _) (congrArg (World.drewN _) (Nat.add_assoc _ _ _))⟩))); try go_wp2_with (first | (go_at_call 65; (with_reducible refine (spec_pageOne.calls kj2 (rdOf ByteArray.empty l0 x5_1) (rdOf ByteArray.empty l1 x5_1) t176 _ A9.out).mono ?_); rintro e w' ⟨rfl, ⟨nd, rfl⟩⟩; (try first | exact ⟨rfl, _, World.drewN_drewN _ _ _⟩ | exact ⟨rfl, _, Eq.trans (World.drewN_drewN _ _ _) (congrArg (World.drewN _) (Nat.add_assoc _ _ _))⟩))))
          go_ret
          exact ⟨by first | rfl | (simp; done) | (simp [*]; done), by repeat (first | exact Drawn0.refl _ | apply Drawn0.step)⟩
        ·rw [if_neg c8] at H
         exact absurd H (by simp)
       ·rw [if_neg c7] at H
        exact absurd H (by simp)
      ·rw [if_neg c6] at H
       exact absurd H (by simp)
     ·replace c5 := Bool.eq_false_iff.mpr c5
      subst c5
      have H1 : ((spec_orderInts.f (l0.length : Int) (l1.length : Int)).bind fun t177 => (some t177)) = some r := by rw [if_neg (show ¬ (false = true) by decide)] at H; exact H
      clear H
      have H := H1
      clear H1
      replace H := Option.bind_eq_some_iff.mp H
      obtain ⟨t177, A110, H⟩ := H
      replace H : (some t177) = some r := H
      have A11 := Aside0.mk A110
      clear A110
      obtain rfl := Option.some.inj H
      go_wp2_with (first | (go_at_call 51; (with_reducible refine (spec_orderInts.calls (l0.length : Int) (l1.length : Int) t177 _ A11.out).mono ?_); rintro e w' ⟨rfl, ⟨nd, rfl⟩⟩; (try first | exact ⟨rfl, _, World.drewN_drewN _ _ _⟩ | exact ⟨rfl, _, Eq.trans (World.drewN_drewN _ _ _) (congrArg (World.drewN _) (Nat.add_assoc _ _ _))⟩)))
      repeat (go_quiet (first | (go_at_call 51; (with_reducible refine (spec_orderInts.calls (l0.length : Int) (l1.length : Int) t177 _ A11.out).mono ?_); rintro e w' ⟨rfl, ⟨nd, rfl⟩⟩; (try first | exact ⟨rfl, _, World.drewN_drewN _ _ _⟩ | exact ⟨rfl, _, Eq.trans (World.drewN_drewN _ _ _) (congrArg (World.drewN _) (Nat.add_assoc _ _ _))⟩))); try go_wp2_with (first | (go_at_call 51; (with_reducible refine (spec_orderInts.calls (l0.length : Int) (l1.length : Int) t177 _ A11.out).mono ?_); rintro e w' ⟨rfl, ⟨nd, rfl⟩⟩; (try first | exact ⟨rfl, _, World.drewN_drewN _ _ _⟩ | exact ⟨rfl, _, Eq.trans (World.drewN_drewN _ _ _) (congrArg (World.drewN _) (Nat.add_assoc _ _ _))⟩))))
      go_ret
      exact ⟨by first | rfl | (simp; done) | (simp [*]; done), by repeat (first | exact Drawn0.refl _ | apply Drawn0.step)⟩

/-! ### spec_Builds: function 37 -/
def spec_Builds.j0 : Nat → List ByteArray → List ByteArray → Bool → Option (Int)
 | 0, _, _, _ => none
 | k + 1, x5, x6, x18 => if x18 = true then ((spec_orderInts.f (mn (x6.length : Int) 1) (mn (x5.length : Int) 1)).bind fun t184 => (some t184)) else ((spec_Identifiers.f k x5 x6).bind fun t185 => (some t185))
def spec_Builds.f (k : Nat) (a0 : ByteArray) (a1 : ByteArray) : Option (Int) := (spec_likeIdentifiers.f k a0).bind fun t178 => ((spec_likeIdentifiers.f k a1).bind fun t181 => (if (t178.length : Int) = 0 then (spec_Builds.j0 k t178 t181 true) else (spec_Builds.j0 k t178 t181 ((t181.length : Int) == 0))))
theorem spec_Builds.mono_l : ∀ k, (∀ y0 y1 y2, LeO (spec_Builds.j0 k y0 y1 y2) (spec_Builds.j0 (k + 1) y0 y1 y2))
 | 0 => fun _ _ _ r h => by simp [spec_Builds.j0] at h
 | k + 1 => by
  have ih0 := spec_Builds.mono_l k
  ·intro y0 y1 y2
   unfold spec_Builds.j0
   repeat' first
   | (with_reducible exact ih0 _ _ _)
   | (with_reducible exact spec_Identifiers.mono _ _ _)
   | (with_reducible exact spec_likeIdentifiers.mono _ _)
   | (with_reducible exact LeO.refl _)
   | (with_reducible exact LeO.none _)
   | (with_reducible refine LeO.ite ?_ ?_)
   | (with_reducible refine LeO.bind ?_ (fun _ => ?_))
   | exact ih0 _ _ _
   | exact spec_Identifiers.mono _ _ _
   | exact spec_likeIdentifiers.mono _ _
   | exact LeO.none _
   | refine LeO.ite ?_ ?_
   | refine LeO.bind ?_ (fun _ => ?_)
theorem spec_Builds.mono : ∀ a0 a1 k, LeO (spec_Builds.f k a0 a1) (spec_Builds.f (k + 1) a0 a1) := by
 intro a0 a1 k
 have ih0 := spec_Builds.mono_l k
 unfold spec_Builds.f
 repeat' first
   | (with_reducible exact ih0 _ _ _)
   | (with_reducible exact spec_Identifiers.mono _ _ _)
   | (with_reducible exact spec_likeIdentifiers.mono _ _)
   | (with_reducible exact LeO.refl _)
   | (with_reducible exact LeO.none _)
   | (with_reducible refine LeO.ite ?_ ?_)
   | (with_reducible refine LeO.bind ?_ (fun _ => ?_))
   | exact ih0 _ _ _
   | exact spec_Identifiers.mono _ _ _
   | exact spec_likeIdentifiers.mono _ _
   | exact LeO.none _
   | refine LeO.ite ?_ ?_
   | refine LeO.bind ?_ (fun _ => ?_)
set_option maxHeartbeats 8000000 in
set_option maxRecDepth 100000 in
theorem spec_Builds.calls (k : Nat) (a0 : ByteArray) (a1 : ByteArray) (r : Int) (w : World) (h : spec_Builds.f k a0 a1 = some r) :
  Calls Tryd.prog 37 #[.string a0, .string a1] w fun e w' => e = .returned (.int .i64 r) ∧ Below w.heap.size w w' := by
 have HB := Aside0.mk (Below.refl w.heap.size w)
 have H : ((spec_likeIdentifiers.f k a0).bind fun t178 => ((spec_likeIdentifiers.f k a1).bind fun t181 => (if (t178.length : Int) = 0 then (spec_Builds.j0 k t178 t181 true) else (spec_Builds.j0 k t178 t181 ((t181.length : Int) == 0))))) = some r := h
 clear h
 replace H := Option.bind_eq_some_iff.mp H
 obtain ⟨t178, A30, H⟩ := H
 replace H : ((spec_likeIdentifiers.f k a1).bind fun t181 => (if (t178.length : Int) = 0 then (spec_Builds.j0 k t178 t181 true) else (spec_Builds.j0 k t178 t181 ((t181.length : Int) == 0)))) = some r := H
 have A3 := Aside0.mk A30
 clear A30
 replace H := Option.bind_eq_some_iff.mp H
 obtain ⟨t181, A40, H⟩ := H
 replace H : (if (t178.length : Int) = 0 then (spec_Builds.j0 k t178 t181 true) else (spec_Builds.j0 k t178 t181 ((t181.length : Int) == 0))) = some r := H
 have A4 := Aside0.mk A40
 clear A40
 have HC5 := Aside0.mk H
 clear H
 go_enter Tryd.func37, Tryd.ntmps37
 go_upto_region 2 with (first | ((with_reducible refine gate_callee (f := 49) rfl ?_); refine goesL_ (some 8) rfl rfl Tryd.func49 (by kernel_rfl) rfl #[.string a0] rfl (by (try simp only [List.map_toArray, List.map_cons, List.map_nil]); first | done | rfl | (simp only [List.length_drop, List.length_take]; rfl)) ?_; (with_reducible refine (spec_likeIdentifiers.calls k a0 t178 _ A3.out).mono ?_); rintro e w6 ⟨v179, rfl, ho0, hb⟩; refine ⟨_, rfl, ?_⟩; have n0_ := Aside0.mk (Kd.R_lower ho0 (below_size (by repeat (first | (with_reducible first | exact HB.out | apply below_alloc | apply pw_below_drewN | apply below_drew1) | exact HB.out)))); have n1_ := Aside0.mk (below_step (by repeat (first | (with_reducible first | exact HB.out | apply below_alloc | apply pw_below_drewN | apply below_drew1) | exact HB.out)) hb); clear HB; have HO180 := n0_; have HB := n1_; clear n0_ n1_; (try clear hb); (try clear hb2); (try clear hk); (try clear hi); (try clear ho0)) | ((with_reducible refine gate_callee (f := 49) rfl ?_); refine goesL_ (some 10) rfl rfl Tryd.func49 (by kernel_rfl) rfl #[.string a1] rfl (by (try simp only [List.map_toArray, List.map_cons, List.map_nil]); first | done | rfl | (simp only [List.length_drop, List.length_take]; rfl)) ?_; (with_reducible refine (spec_likeIdentifiers.calls k a1 t181 _ A4.out).mono ?_); rintro e w7 ⟨v182, rfl, ho0, hb⟩; refine ⟨_, rfl, ?_⟩; have n0_ := Aside0.mk (Kd.R_elder' (by (with_reducible repeat (first | apply Kd.R_alloc | apply Kd.R_drewN | apply Kd.R_drew)); exact HO180.out) (Kd.R_base ho0) hb); have n1_ := Aside0.mk (Kd.R_lower (Kd.R_new' ho0 (Kd.R_lt (by (with_reducible repeat (first | apply Kd.R_alloc | apply Kd.R_drewN | apply Kd.R_drew)); exact HO180.out))) (below_size (by repeat (first | (with_reducible first | exact HB.out | apply below_alloc | apply pw_below_drewN | apply below_drew1) | exact HB.out)))); have n2_ := Aside0.mk (below_step (by repeat (first | (with_reducible first | exact HB.out | apply below_alloc | apply pw_below_drewN | apply below_drew1) | exact HB.out)) hb); clear HO180; clear HB; have HO180 := n0_; have HO183 := n1_; have HB := n2_; clear n0_ n1_ n2_; (try clear hb); (try clear hb2); (try clear hk); (try clear hi); (try clear ho0)))
 (try simp only [Act.put, List.setIfInBounds_toArray, List.set_cons_zero, List.set_cons_succ])
 go_cut [18] (fun v18 wc => ∃ (kq : Nat) (x18_4 : Bool), v18 = .bool x18_4 ∧ Aside0 (spec_Builds.j0 kq t178 t181 x18_4 = some r) ∧ Aside0 (kq ≤ k) ∧ Aside0 (Kd.R Kd.string 9 wc w.heap.size (fun k_ => some k_ ≠ (v182 : Value).ownBlock) v179 t178) ∧ Aside0 (Kd.R Kd.string 9 wc w.heap.size (fun k_ => some k_ ≠ (v179 : Value).ownBlock) v182 t181) ∧ Aside0 (Below w.heap.size w wc))
 case first =>
  have H := HC5.out
  clear HC5
  by_cases c8 : (t178.length : Int) = 0
  ·rw [if_pos c8] at H
   have c8b0 : ((t178.length : Int) == 0) = true := beq_iff_eq.mpr c8
   have c8b1 : ((t178.length : Int) != 0) = false := bne_eq_false_iff_eq.mpr c8
   clear c8
   (first | rw [c8b0] | (simp only [i64_w, i32_w]; rw [c8b0]) | skip)
   have H' := Aside0.mk H
   clear H
   obtain ⟨Ao9, co9, eo9⟩ := Kd.R_slice HO180.out
   subst eo9
   go_wp2
   go_meet
   case rel => exact ⟨_, (true), (by first | rfl | (simp; done) | (simp [*]; done)), H', ⟨by first | omega | exact Nat.le_refl _⟩, ⟨by (with_reducible repeat (first | apply Kd.R_alloc | apply Kd.R_drewN | apply Kd.R_drew)); exact Kd.R_mono HO180.out (fun _ hk => hk.2)⟩, ⟨by (with_reducible repeat (first | apply Kd.R_alloc | apply Kd.R_drewN | apply Kd.R_drew)); exact Kd.R_mono HO183.out (fun _ hk => hk.2)⟩, ⟨by repeat (first | (with_reducible first | exact HB.out | apply below_alloc | apply pw_below_drewN | apply below_drew1) | exact HB.out)⟩⟩
  ·rw [if_neg c8] at H
   have c8b0 : ((t178.length : Int) == 0) = false := beq_eq_false_iff_ne.mpr c8
   have c8b1 : ((t178.length : Int) != 0) = true := bne_iff_ne.mpr c8
   have c8b2 : ¬ (t178 = []) := fun h_ => c8 (by rw [h_]; rfl)
   (first | rw [c8b0] | (simp only [i64_w, i32_w]; rw [c8b0]) | skip)
   have H' := Aside0.mk H
   clear H
   obtain ⟨Ao10, co10, eo10⟩ := Kd.R_slice HO180.out
   subst eo10
   obtain ⟨Ao11, co11, eo11⟩ := Kd.R_slice HO183.out
   subst eo11
   go_wp2
   go_meet
   case rel => exact ⟨_, (((t181.length : Int) == 0)), (by first | rfl | (simp; done) | (simp [*]; done)), H', ⟨by first | omega | exact Nat.le_refl _⟩, ⟨by (with_reducible repeat (first | apply Kd.R_alloc | apply Kd.R_drewN | apply Kd.R_drew)); exact Kd.R_mono HO180.out (fun _ hk => hk.2)⟩, ⟨by (with_reducible repeat (first | apply Kd.R_alloc | apply Kd.R_drewN | apply Kd.R_drew)); exact Kd.R_mono HO183.out (fun _ hk => hk.2)⟩, ⟨by repeat (first | (with_reducible first | exact HB.out | apply below_alloc | apply pw_below_drewN | apply below_drew1) | exact HB.out)⟩⟩
 case rest =>
  clear HC5
  try clear p2
  try clear c3
  try clear c4
  try clear c8
  try clear c8b0
  try clear c8b1
  try clear c8b2
  obtain ⟨kq, x18_4, rfl, HA, HJ4, HO_5, HO_6, HB⟩ := hcut
  cases kq with
  | zero => exact absurd HA.out (by simp [spec_Builds.j0])
  | succ kj4 =>
   have H := HA.out
   clear HA
   simp only [spec_Builds.j0] at H
   by_cases c12 : x18_4 = true
   ·subst c12
    have H1 : ((spec_orderInts.f (mn (t181.length : Int) 1) (mn (t178.length : Int) 1)).bind fun t184 => (some t184)) = some r := by rw [if_pos rfl] at H; exact H
    clear H
    have H := H1
    clear H1
    obtain ⟨ji13, hji13⟩ : ∃ j_ : Int, (mn (t181.length : Int) 1) = j_ := ⟨_, rfl⟩
    replace H : ((spec_orderInts.f (ji13) (mn (t178.length : Int) 1)).bind fun t184 => (some t184)) = some r := by first | (rw [hji13] at H; exact H) | (simp only [hji13] at H ⊢; exact H)
    have hji13_ : (if 1 < (t181.length : Int) then 1 else (t181.length : Int)) = ji13 := hji13
    obtain ⟨ji14, hji14⟩ : ∃ j_ : Int, (mn (t178.length : Int) 1) = j_ := ⟨_, rfl⟩
    replace H : ((spec_orderInts.f (ji13) (ji14)).bind fun t184 => (some t184)) = some r := by first | (rw [hji14] at H; exact H) | (simp only [hji14] at H ⊢; exact H)
    have hji14_ : (if 1 < (t178.length : Int) then 1 else (t178.length : Int)) = ji14 := hji14
    replace H := Option.bind_eq_some_iff.mp H
    obtain ⟨t184, A150, H⟩ := H
    replace H : (some t184) = some r := H
    have A15 := Aside0.mk A150
    clear A150
    obtain rfl := Option.some.inj H
    obtain ⟨Ao16, co16, eo16⟩ := Kd.R_slice HO_6.out
    subst eo16
    obtain ⟨Ao17, co17, eo17⟩ := Kd.R_slice HO_5.out
    subst eo17
    go_wp2_with (first | ((with_reducible refine gate_callee (f := 51) rfl ?_); refine goesL_ (some 25) rfl rfl Tryd.func51 (by kernel_rfl) rfl #[.int .i64 ji13, .int .i64 ji14] rfl (by (try simp only [List.map_toArray, List.map_cons, List.map_nil]); first | done | (simp only [hji13, hji14]; rfl) | rfl | (simp only [List.length_drop, List.length_take]; rfl)) ?_; (with_reducible refine (spec_orderInts.calls ji13 ji14 t184 _ A15.out).mono ?_); rintro e w' ⟨rfl, ⟨nd, rfl⟩⟩; refine ⟨_, rfl, ?_⟩))
    go_ret
    exact ⟨by first | rfl | (simp [errW_none, errW_some] <;> rfl) | (simp only [← hji13, ← hji14]; first | rfl | (simp [errW_none, errW_some] <;> rfl)) | (simp [*, errW_none, errW_some] <;> rfl), by repeat (first | (with_reducible first | exact HB.out | apply below_alloc | apply pw_below_drewN | apply below_drew1) | exact HB.out)⟩
   ·replace c12 := Bool.eq_false_iff.mpr c12
    subst c12
    have H1 : ((spec_Identifiers.f kj4 t178 t181).bind fun t185 => (some t185)) = some r := by rw [if_neg (show ¬ (false = true) by decide)] at H; exact H
    clear H
    have H := H1
    clear H1
    replace H := Option.bind_eq_some_iff.mp H
    obtain ⟨t185, A180, H⟩ := H
    replace H : (some t185) = some r := H
    have A18 := Aside0.mk A180
    clear A180
    obtain rfl := Option.some.inj H
    obtain ⟨Ao19, co19, eo19⟩ := Kd.R_slice HO_5.out
    subst eo19
    obtain ⟨Ao20, co20, eo20⟩ := Kd.R_slice HO_6.out
    subst eo20
    go_wp2_with (first | ((with_reducible refine gate_callee (f := 52) rfl ?_); refine goesL_ (some 28) rfl rfl Tryd.func52 (by kernel_rfl) rfl #[.slice Ao19 t178.length co19, .slice Ao20 t181.length co20] rfl (by (try simp only [List.map_toArray, List.map_cons, List.map_nil]); first | done | rfl | (simp only [List.length_drop, List.length_take]; rfl)) ?_; (with_reducible refine (spec_Identifiers.calls kj4 _ _ t178 _ _ t181 t185 _ ?side1 ?side2 ?side3 ?side4 A18.out).mono ?_); (case side1 => repeat (first | exact (Kd.R_reads' HO_5.out).2.2 | (with_reducible refine Kd.C_alloc ?_ _) | (with_reducible refine Kd.C_drewN ?_ _) | (with_reducible refine Kd.C_drew ?_))); (case side2 => exact (Kd.R_reads' HO_5.out).2.1); (case side3 => repeat (first | exact (Kd.R_reads' HO_6.out).2.2 | (with_reducible refine Kd.C_alloc ?_ _) | (with_reducible refine Kd.C_drewN ?_ _) | (with_reducible refine Kd.C_drew ?_))); (case side4 => exact (Kd.R_reads' HO_6.out).2.1); rintro e w' ⟨rfl, ⟨nd, rfl⟩⟩; refine ⟨_, rfl, ?_⟩))
    go_ret
    exact ⟨by first | rfl | (simp [errW_none, errW_some] <;> rfl) | (simp [*, errW_none, errW_some] <;> rfl), by repeat (first | (with_reducible first | exact HB.out | apply below_alloc | apply pw_below_drewN | apply below_drew1) | exact HB.out)⟩

/-! ### spec_likeOrder: function 24 -/
def spec_likeOrder.f (k : Nat) (a0_0 : Bool) (l0_1 : List (S28)) (a0_2 : ByteArray) (a0_3 : ByteArray) (a1_0 : Bool) (l1_1 : List (S28)) (a1_2 : ByteArray) (a1_3 : ByteArray) : Option (Int) := (spec_CompareNumbers.f k l0_1 l1_1).bind fun t188 => (if t188 = 0 then ((spec_Builds.f k a0_2 a1_2).bind fun t189 => (some t189)) else (some t188))
theorem spec_likeOrder.mono : ∀ a0 a1 a2 a3 a4 a5 a6 a7 k, LeO (spec_likeOrder.f k a0 a1 a2 a3 a4 a5 a6 a7) (spec_likeOrder.f (k + 1) a0 a1 a2 a3 a4 a5 a6 a7) := by
 intro a0 a1 a2 a3 a4 a5 a6 a7 k
 unfold spec_likeOrder.f
 repeat' first
   | (with_reducible exact spec_Builds.mono _ _ _)
   | (with_reducible exact spec_CompareNumbers.mono _ _ _)
   | (with_reducible exact LeO.refl _)
   | (with_reducible exact LeO.none _)
   | (with_reducible refine LeO.ite ?_ ?_)
   | (with_reducible refine LeO.bind ?_ (fun _ => ?_))
   | exact spec_Builds.mono _ _ _
   | exact spec_CompareNumbers.mono _ _ _
   | exact LeO.none _
   | refine LeO.ite ?_ ?_
   | refine LeO.bind ?_ (fun _ => ?_)
set_option maxHeartbeats 8000000 in
set_option maxRecDepth 100000 in
theorem spec_likeOrder.calls (k : Nat) (a0_0 : Bool) (A0_1 : Option Addr) (c0_1 : Nat) (l0_1 : List (S28)) (a0_2 : ByteArray) (a0_3 : ByteArray) (a1_0 : Bool) (A1_1 : Option Addr) (c1_1 : Nat) (l1_1 : List (S28)) (a1_2 : ByteArray) (a1_3 : ByteArray) (r : Int) (w : World) (hr0_1 : Kd.C k28 w A0_1 l0_1.length l0_1) (hc0_1 : l0_1.length ≤ c0_1) (hr1_1 : Kd.C k28 w A1_1 l1_1.length l1_1) (hc1_1 : l1_1.length ≤ c1_1) (h : spec_likeOrder.f k a0_0 l0_1 a0_2 a0_3 a1_0 l1_1 a1_2 a1_3 = some r) :
  Calls Tryd.prog 24 #[.agg #[.bool a0_0, .slice A0_1 l0_1.length c0_1, .string a0_2, .string a0_3], .agg #[.bool a1_0, .slice A1_1 l1_1.length c1_1, .string a1_2, .string a1_3]] w fun e w' => e = .returned (.int .i64 r) ∧ Below w.heap.size w w' := by
 have hu32 := Tryd.underlying32
 have HR0_1 := Aside0.mk hr0_1
 have HC0_1 := Aside0.mk hc0_1
 clear hr0_1 hc0_1
 have HR1_1 := Aside0.mk hr1_1
 have HC1_1 := Aside0.mk hc1_1
 clear hr1_1 hc1_1
 have HB := Aside0.mk (Below.refl w.heap.size w)
 have H : ((spec_CompareNumbers.f k l0_1 l1_1).bind fun t188 => (if t188 = 0 then ((spec_Builds.f k a0_2 a1_2).bind fun t189 => (some t189)) else (some t188))) = some r := h
 clear h
 replace H := Option.bind_eq_some_iff.mp H
 obtain ⟨t188, A30, H⟩ := H
 replace H : (if t188 = 0 then ((spec_Builds.f k a0_2 a1_2).bind fun t189 => (some t189)) else (some t188)) = some r := H
 have A3 := Aside0.mk A30
 clear A30
 by_cases c4 : t188 = 0
 ·rw [if_pos c4] at H
  have c4b0 : (t188 == 0) = true := beq_iff_eq.mpr c4
  have c4b1 : (t188 != 0) = false := bne_eq_false_iff_eq.mpr c4
  clear c4
  replace H := Option.bind_eq_some_iff.mp H
  obtain ⟨t189, A50, H⟩ := H
  replace H : (some t189) = some r := H
  have A5 := Aside0.mk A50
  clear A50
  obtain rfl := Option.some.inj H
  go_enter Tryd.func24, Tryd.ntmps24
  go_wp2_with (first | ((with_reducible refine gate_dst (N := 2) rfl ?_); refine box_event ?hg (N := 2) ?hd (cs := #[.bool a0_0, .slice A0_1 l0_1.length c0_1, .string a0_2, .string a0_3]) (t := 32) ?hr ?_; (case hd => rfl); (case hg => rfl); (case hr => first | (go_simp; done) | (go_simp; rfl)); intro gb186 hg w6 hbox hb; have n0_ := Aside0.mk (below_step (by repeat (first | (with_reducible first | exact HB.out | apply below_alloc | apply pw_below_drewN | apply below_drew1) | exact HB.out)) hb); have n1_ := Aside0.mk (hbox); have n2_ := Aside0.mk ((by rw [hg]; exact (below_size (by repeat (first | (with_reducible first | exact HB.out | apply below_alloc | apply pw_below_drewN | apply below_drew1) | exact HB.out))) : w.heap.size ≤ gb186)); have n3_ := Aside0.mk ((by rw [hg]; exact (below_size (by repeat (first | (with_reducible first | exact HB.out | apply below_alloc | apply pw_below_drewN | apply below_drew1) | exact HB.out))) : w.heap.size ≤ gb186)); clear HB; have HB := n0_; have BK186 := n1_; have GW186 := n2_; have GE186 := n3_; clear n0_ n1_ n2_ n3_; clear hb hbox hg) | ((with_reducible refine gate_dst (N := 3) rfl ?_); refine box_event ?hg (N := 3) ?hd (cs := #[.bool a1_0, .slice A1_1 l1_1.length c1_1, .string a1_2, .string a1_3]) (t := 32) ?hr ?_; (case hd => rfl); (case hg => rfl); (case hr => first | (go_simp; done) | (go_simp; rfl)); intro gb187 hg w7 hbox hb; have n0_ := Aside0.mk (blk_below (g := gb186) (o := .cells #[.bool a0_0, .slice A0_1 l0_1.length c0_1, .string a0_2, .string a0_3] 32 (0, 0)) (by (with_reducible repeat (first | refine blk_drewN ?_ _ | refine blk_drew ?_ | refine blk_alloc ?_ _)); exact BK186.out) hb); have n1_ := Aside0.mk (below_step (by repeat (first | (with_reducible first | exact HB.out | apply below_alloc | apply pw_below_drewN | apply below_drew1 | refine below_set ?_ GE186.out) | exact HB.out)) hb); have n2_ := Aside0.mk (hbox); have n3_ := Aside0.mk ((by rw [hg]; exact (below_size (by repeat (first | (with_reducible first | exact HB.out | apply below_alloc | apply pw_below_drewN | apply below_drew1 | refine below_set ?_ GE186.out) | exact HB.out))) : w.heap.size ≤ gb187)); have n4_ := Aside0.mk ((by rw [hg]; exact (below_size (by repeat (first | (with_reducible first | exact HB.out | apply below_alloc | apply pw_below_drewN | apply below_drew1 | refine below_set ?_ GE186.out) | exact HB.out))) : w.heap.size ≤ gb187)); have n5_ := Aside0.mk ((by rw [hg]; exact Nat.ne_of_lt (blk_lt (g := gb186) (o := .cells #[.bool a0_0, .slice A0_1 l0_1.length c0_1, .string a0_2, .string a0_3] 32 (0, 0)) (by (with_reducible repeat (first | refine blk_drewN ?_ _ | refine blk_drew ?_ | refine blk_alloc ?_ _)); exact BK186.out)) : gb186 ≠ gb187)); have n6_ := Aside0.mk ((by rw [hg]; exact Nat.ne_of_gt (blk_lt (g := gb186) (o := .cells #[.bool a0_0, .slice A0_1 l0_1.length c0_1, .string a0_2, .string a0_3] 32 (0, 0)) (by (with_reducible repeat (first | refine blk_drewN ?_ _ | refine blk_drew ?_ | refine blk_alloc ?_ _)); exact BK186.out)) : gb187 ≠ gb186)); clear BK186; clear HB; have BK186 := n0_; have HB := n1_; have BK187 := n2_; have GW187 := n3_; have GE187 := n4_; have NB186_187 := n5_; have NB187_186 := n6_; clear n0_ n1_ n2_ n3_ n4_ n5_ n6_; clear hb hbox hg; have hnb8 := NB186_187.out; have hnc8 := NB187_186.out; have hcz9_0 : w7.cell? ⟨gb186, 0, none⟩ = some (.bool a0_0) := (blk_cell BK186.out 0).trans rfl; have hcz9_1 : w7.cell? ⟨gb186, 1, none⟩ = some (.slice A0_1 l0_1.length c0_1) := (blk_cell BK186.out 1).trans rfl; have hcz9_2 : w7.cell? ⟨gb186, 2, none⟩ = some (.string a0_2) := (blk_cell BK186.out 2).trans rfl; have hcz9_3 : w7.cell? ⟨gb186, 3, none⟩ = some (.string a0_3) := (blk_cell BK186.out 3).trans rfl; have hfz9_0 := blk_frozen BK186.out 0; have hfz9_1 := blk_frozen BK186.out 1; have hfz9_2 := blk_frozen BK186.out 2; have hfz9_3 := blk_frozen BK186.out 3; have hcz10_0 : w7.cell? ⟨gb187, 0, none⟩ = some (.bool a1_0) := (blk_cell BK187.out 0).trans rfl; have hcz10_1 : w7.cell? ⟨gb187, 1, none⟩ = some (.slice A1_1 l1_1.length c1_1) := (blk_cell BK187.out 1).trans rfl; have hcz10_2 : w7.cell? ⟨gb187, 2, none⟩ = some (.string a1_2) := (blk_cell BK187.out 2).trans rfl; have hcz10_3 : w7.cell? ⟨gb187, 3, none⟩ = some (.string a1_3) := (blk_cell BK187.out 3).trans rfl; have hfz10_0 := blk_frozen BK187.out 0; have hfz10_1 := blk_frozen BK187.out 1; have hfz10_2 := blk_frozen BK187.out 2; have hfz10_3 := blk_frozen BK187.out 3) | ((with_reducible refine gate_callee (f := 36) rfl ?_); refine goesL_ (some 10) rfl rfl Tryd.func36 (by kernel_rfl) rfl #[.slice A0_1 l0_1.length c0_1, .slice A1_1 l1_1.length c1_1] rfl (by (try simp only [List.map_toArray, List.map_cons, List.map_nil]); first | done | rfl | (simp only [List.length_drop, List.length_take]; rfl)) ?_; (with_reducible refine (spec_CompareNumbers.calls k _ _ l0_1 _ _ l1_1 t188 _ ?side1 ?side2 ?side3 ?side4 A3.out).mono ?_); (case side1 => repeat (first | exact (Kd.C_below HR0_1.out HB.out) | (with_reducible refine Kd.C_alloc ?_ _) | (with_reducible refine Kd.C_drewN ?_ _) | (with_reducible refine Kd.C_drew ?_))); (case side2 => exact HC0_1.out); (case side3 => repeat (first | exact (Kd.C_below HR1_1.out HB.out) | (with_reducible refine Kd.C_alloc ?_ _) | (with_reducible refine Kd.C_drewN ?_ _) | (with_reducible refine Kd.C_drew ?_))); (case side4 => exact HC1_1.out); rintro e w11 ⟨rfl, hb⟩; refine ⟨_, rfl, ?_⟩; have n0_ := Aside0.mk (blk_below (g := gb186) (o := .cells #[.bool a0_0, .slice A0_1 l0_1.length c0_1, .string a0_2, .string a0_3] 32 (0, 0)) (by (with_reducible repeat (first | refine blk_drewN ?_ _ | refine blk_drew ?_ | refine blk_alloc ?_ _)); exact BK186.out) hb); have n1_ := Aside0.mk (blk_below (g := gb187) (o := .cells #[.bool a1_0, .slice A1_1 l1_1.length c1_1, .string a1_2, .string a1_3] 32 (0, 0)) (by (with_reducible repeat (first | refine blk_drewN ?_ _ | refine blk_drew ?_ | refine blk_alloc ?_ _)); exact BK187.out) hb); have n2_ := Aside0.mk (below_step (by repeat (first | (with_reducible first | exact HB.out | apply below_alloc | apply pw_below_drewN | apply below_drew1 | refine below_set ?_ GE186.out | refine below_set ?_ GE187.out) | exact HB.out)) hb); clear BK186; clear BK187; clear HB; have BK186 := n0_; have BK187 := n1_; have HB := n2_; clear n0_ n1_ n2_; (try clear hb); (try clear hb2); (try clear hk); (try clear hi); have hcz12_0 : w11.cell? ⟨gb186, 0, none⟩ = some (.bool a0_0) := (blk_cell BK186.out 0).trans rfl; have hcz12_1 : w11.cell? ⟨gb186, 1, none⟩ = some (.slice A0_1 l0_1.length c0_1) := (blk_cell BK186.out 1).trans rfl; have hcz12_2 : w11.cell? ⟨gb186, 2, none⟩ = some (.string a0_2) := (blk_cell BK186.out 2).trans rfl; have hcz12_3 : w11.cell? ⟨gb186, 3, none⟩ = some (.string a0_3) := (blk_cell BK186.out 3).trans rfl; have hfz12_0 := blk_frozen BK186.out 0; have hfz12_1 := blk_frozen BK186.out 1; have hfz12_2 := blk_frozen BK186.out 2; have hfz12_3 := blk_frozen BK186.out 3; have hcz13_0 : w11.cell? ⟨gb187, 0, none⟩ = some (.bool a1_0) := (blk_cell BK187.out 0).trans rfl; have hcz13_1 : w11.cell? ⟨gb187, 1, none⟩ = some (.slice A1_1 l1_1.length c1_1) := (blk_cell BK187.out 1).trans rfl; have hcz13_2 : w11.cell? ⟨gb187, 2, none⟩ = some (.string a1_2) := (blk_cell BK187.out 2).trans rfl; have hcz13_3 : w11.cell? ⟨gb187, 3, none⟩ = some (.string a1_3) := (blk_cell BK187.out 3).trans rfl; have hfz13_0 := blk_frozen BK187.out 0; have hfz13_1 := blk_frozen BK187.out 1; have hfz13_2 := blk_frozen BK187.out 2; have hfz13_3 := blk_frozen BK187.out 3) | ((with_reducible refine gate_callee (f := 37) rfl ?_); refine goesL_ (some 18) rfl rfl Tryd.func37 (by kernel_rfl) rfl #[.string a0_2, .string a1_2] rfl (by (try simp only [List.map_toArray, List.map_cons, List.map_nil]); first | done | rfl | (simp only [List.length_drop, List.length_take]; rfl)) ?_; (with_reducible refine (spec_Builds.calls k a0_2 a1_2 t189 _ A5.out).mono ?_); rintro e w14 ⟨rfl, hb⟩; refine ⟨_, rfl, ?_⟩; have n0_ := Aside0.mk (blk_below (g := gb186) (o := .cells #[.bool a0_0, .slice A0_1 l0_1.length c0_1, .string a0_2, .string a0_3] 32 (0, 0)) (by (with_reducible repeat (first | refine blk_drewN ?_ _ | refine blk_drew ?_ | refine blk_alloc ?_ _)); exact BK186.out) hb); have n1_ := Aside0.mk (blk_below (g := gb187) (o := .cells #[.bool a1_0, .slice A1_1 l1_1.length c1_1, .string a1_2, .string a1_3] 32 (0, 0)) (by (with_reducible repeat (first | refine blk_drewN ?_ _ | refine blk_drew ?_ | refine blk_alloc ?_ _)); exact BK187.out) hb); have n2_ := Aside0.mk (below_step (by repeat (first | (with_reducible first | exact HB.out | apply below_alloc | apply pw_below_drewN | apply below_drew1 | refine below_set ?_ GE186.out | refine below_set ?_ GE187.out) | exact HB.out)) hb); clear BK186; clear BK187; clear HB; have BK186 := n0_; have BK187 := n1_; have HB := n2_; clear n0_ n1_ n2_; (try clear hb); (try clear hb2); (try clear hk); (try clear hi)))
  go_ret
  exact ⟨by first | rfl | (simp [errW_none, errW_some] <;> rfl) | (simp [*, errW_none, errW_some] <;> rfl), by repeat (first | (with_reducible first | exact HB.out | apply below_alloc | apply pw_below_drewN | apply below_drew1 | refine below_set ?_ GE186.out | refine below_set ?_ GE187.out) | exact HB.out)⟩
 ·rw [if_neg c4] at H
  have c4b0 : (t188 == 0) = false := beq_eq_false_iff_ne.mpr c4
  have c4b1 : (t188 != 0) = true := bne_iff_ne.mpr c4
  obtain rfl := Option.some.inj H
  go_enter Tryd.func24, Tryd.ntmps24
  go_wp2_with (first | ((with_reducible refine gate_dst (N := 2) rfl ?_); refine box_event ?hg (N := 2) ?hd (cs := #[.bool a0_0, .slice A0_1 l0_1.length c0_1, .string a0_2, .string a0_3]) (t := 32) ?hr ?_; (case hd => rfl); (case hg => rfl); (case hr => first | (go_simp; done) | (go_simp; rfl)); intro gb186 hg w15 hbox hb; have n0_ := Aside0.mk (below_step (by repeat (first | (with_reducible first | exact HB.out | apply below_alloc | apply pw_below_drewN | apply below_drew1) | exact HB.out)) hb); have n1_ := Aside0.mk (hbox); have n2_ := Aside0.mk ((by rw [hg]; exact (below_size (by repeat (first | (with_reducible first | exact HB.out | apply below_alloc | apply pw_below_drewN | apply below_drew1) | exact HB.out))) : w.heap.size ≤ gb186)); have n3_ := Aside0.mk ((by rw [hg]; exact (below_size (by repeat (first | (with_reducible first | exact HB.out | apply below_alloc | apply pw_below_drewN | apply below_drew1) | exact HB.out))) : w.heap.size ≤ gb186)); clear HB; have HB := n0_; have BK186 := n1_; have GW186 := n2_; have GE186 := n3_; clear n0_ n1_ n2_ n3_; clear hb hbox hg) | ((with_reducible refine gate_dst (N := 3) rfl ?_); refine box_event ?hg (N := 3) ?hd (cs := #[.bool a1_0, .slice A1_1 l1_1.length c1_1, .string a1_2, .string a1_3]) (t := 32) ?hr ?_; (case hd => rfl); (case hg => rfl); (case hr => first | (go_simp; done) | (go_simp; rfl)); intro gb187 hg w16 hbox hb; have n0_ := Aside0.mk (blk_below (g := gb186) (o := .cells #[.bool a0_0, .slice A0_1 l0_1.length c0_1, .string a0_2, .string a0_3] 32 (0, 0)) (by (with_reducible repeat (first | refine blk_drewN ?_ _ | refine blk_drew ?_ | refine blk_alloc ?_ _)); exact BK186.out) hb); have n1_ := Aside0.mk (below_step (by repeat (first | (with_reducible first | exact HB.out | apply below_alloc | apply pw_below_drewN | apply below_drew1 | refine below_set ?_ GE186.out) | exact HB.out)) hb); have n2_ := Aside0.mk (hbox); have n3_ := Aside0.mk ((by rw [hg]; exact (below_size (by repeat (first | (with_reducible first | exact HB.out | apply below_alloc | apply pw_below_drewN | apply below_drew1 | refine below_set ?_ GE186.out) | exact HB.out))) : w.heap.size ≤ gb187)); have n4_ := Aside0.mk ((by rw [hg]; exact (below_size (by repeat (first | (with_reducible first | exact HB.out | apply below_alloc | apply pw_below_drewN | apply below_drew1 | refine below_set ?_ GE186.out) | exact HB.out))) : w.heap.size ≤ gb187)); have n5_ := Aside0.mk ((by rw [hg]; exact Nat.ne_of_lt (blk_lt (g := gb186) (o := .cells #[.bool a0_0, .slice A0_1 l0_1.length c0_1, .string a0_2, .string a0_3] 32 (0, 0)) (by (with_reducible repeat (first | refine blk_drewN ?_ _ | refine blk_drew ?_ | refine blk_alloc ?_ _)); exact BK186.out)) : gb186 ≠ gb187)); have n6_ := Aside0.mk ((by rw [hg]; exact Nat.ne_of_gt (blk_lt (g := gb186) (o := .cells #[.bool a0_0, .slice A0_1 l0_1.length c0_1, .string a0_2, .string a0_3] 32 (0, 0)) (by (with_reducible repeat (first | refine blk_drewN ?_ _ | refine blk_drew ?_ | refine blk_alloc ?_ _)); exact BK186.out)) : gb187 ≠ gb186)); clear BK186; clear HB; have BK186 := n0_; have HB := n1_; have BK187 := n2_; have GW187 := n3_; have GE187 := n4_; have NB186_187 := n5_; have NB187_186 := n6_; clear n0_ n1_ n2_ n3_ n4_ n5_ n6_; clear hb hbox hg; have hnb17 := NB186_187.out; have hnc17 := NB187_186.out; have hcz18_0 : w16.cell? ⟨gb186, 0, none⟩ = some (.bool a0_0) := (blk_cell BK186.out 0).trans rfl; have hcz18_1 : w16.cell? ⟨gb186, 1, none⟩ = some (.slice A0_1 l0_1.length c0_1) := (blk_cell BK186.out 1).trans rfl; have hcz18_2 : w16.cell? ⟨gb186, 2, none⟩ = some (.string a0_2) := (blk_cell BK186.out 2).trans rfl; have hcz18_3 : w16.cell? ⟨gb186, 3, none⟩ = some (.string a0_3) := (blk_cell BK186.out 3).trans rfl; have hfz18_0 := blk_frozen BK186.out 0; have hfz18_1 := blk_frozen BK186.out 1; have hfz18_2 := blk_frozen BK186.out 2; have hfz18_3 := blk_frozen BK186.out 3; have hcz19_0 : w16.cell? ⟨gb187, 0, none⟩ = some (.bool a1_0) := (blk_cell BK187.out 0).trans rfl; have hcz19_1 : w16.cell? ⟨gb187, 1, none⟩ = some (.slice A1_1 l1_1.length c1_1) := (blk_cell BK187.out 1).trans rfl; have hcz19_2 : w16.cell? ⟨gb187, 2, none⟩ = some (.string a1_2) := (blk_cell BK187.out 2).trans rfl; have hcz19_3 : w16.cell? ⟨gb187, 3, none⟩ = some (.string a1_3) := (blk_cell BK187.out 3).trans rfl; have hfz19_0 := blk_frozen BK187.out 0; have hfz19_1 := blk_frozen BK187.out 1; have hfz19_2 := blk_frozen BK187.out 2; have hfz19_3 := blk_frozen BK187.out 3) | ((with_reducible refine gate_callee (f := 36) rfl ?_); refine goesL_ (some 10) rfl rfl Tryd.func36 (by kernel_rfl) rfl #[.slice A0_1 l0_1.length c0_1, .slice A1_1 l1_1.length c1_1] rfl (by (try simp only [List.map_toArray, List.map_cons, List.map_nil]); first | done | rfl | (simp only [List.length_drop, List.length_take]; rfl)) ?_; (with_reducible refine (spec_CompareNumbers.calls k _ _ l0_1 _ _ l1_1 t188 _ ?side1 ?side2 ?side3 ?side4 A3.out).mono ?_); (case side1 => repeat (first | exact (Kd.C_below HR0_1.out HB.out) | (with_reducible refine Kd.C_alloc ?_ _) | (with_reducible refine Kd.C_drewN ?_ _) | (with_reducible refine Kd.C_drew ?_))); (case side2 => exact HC0_1.out); (case side3 => repeat (first | exact (Kd.C_below HR1_1.out HB.out) | (with_reducible refine Kd.C_alloc ?_ _) | (with_reducible refine Kd.C_drewN ?_ _) | (with_reducible refine Kd.C_drew ?_))); (case side4 => exact HC1_1.out); rintro e w20 ⟨rfl, hb⟩; refine ⟨_, rfl, ?_⟩; have n0_ := Aside0.mk (blk_below (g := gb186) (o := .cells #[.bool a0_0, .slice A0_1 l0_1.length c0_1, .string a0_2, .string a0_3] 32 (0, 0)) (by (with_reducible repeat (first | refine blk_drewN ?_ _ | refine blk_drew ?_ | refine blk_alloc ?_ _)); exact BK186.out) hb); have n1_ := Aside0.mk (blk_below (g := gb187) (o := .cells #[.bool a1_0, .slice A1_1 l1_1.length c1_1, .string a1_2, .string a1_3] 32 (0, 0)) (by (with_reducible repeat (first | refine blk_drewN ?_ _ | refine blk_drew ?_ | refine blk_alloc ?_ _)); exact BK187.out) hb); have n2_ := Aside0.mk (below_step (by repeat (first | (with_reducible first | exact HB.out | apply below_alloc | apply pw_below_drewN | apply below_drew1 | refine below_set ?_ GE186.out | refine below_set ?_ GE187.out) | exact HB.out)) hb); clear BK186; clear BK187; clear HB; have BK186 := n0_; have BK187 := n1_; have HB := n2_; clear n0_ n1_ n2_; (try clear hb); (try clear hb2); (try clear hk); (try clear hi)))
  go_ret
  exact ⟨by first | rfl | (simp [errW_none, errW_some] <;> rfl) | (simp [*, errW_none, errW_some] <;> rfl), by repeat (first | (with_reducible first | exact HB.out | apply below_alloc | apply pw_below_drewN | apply below_drew1 | refine below_set ?_ GE186.out | refine below_set ?_ GE187.out) | exact HB.out)⟩

/-! ### spec_SemverCompare: function 14 -/
def spec_SemverCompare.f (k : Nat) (a0_0 : Bool) (l0_1 : List (S28)) (a0_2 : ByteArray) (a0_3 : ByteArray) (a1_0 : Bool) (l1_1 : List (S28)) (a1_2 : ByteArray) (a1_3 : ByteArray) : Option (Int × Bool) := (spec_likeOrder.f k a0_0 l0_1 a0_2 a0_3 a1_0 l1_1 a1_2 a1_3).bind fun t192 => (some (t192, true))
theorem spec_SemverCompare.mono : ∀ a0 a1 a2 a3 a4 a5 a6 a7 k, LeO (spec_SemverCompare.f k a0 a1 a2 a3 a4 a5 a6 a7) (spec_SemverCompare.f (k + 1) a0 a1 a2 a3 a4 a5 a6 a7) := by
 intro a0 a1 a2 a3 a4 a5 a6 a7 k
 unfold spec_SemverCompare.f
 repeat' first
   | (with_reducible exact spec_likeOrder.mono _ _ _ _ _ _ _ _ _)
   | (with_reducible exact LeO.refl _)
   | (with_reducible exact LeO.none _)
   | (with_reducible refine LeO.ite ?_ ?_)
   | (with_reducible refine LeO.bind ?_ (fun _ => ?_))
   | exact spec_likeOrder.mono _ _ _ _ _ _ _ _ _
   | exact LeO.none _
   | refine LeO.ite ?_ ?_
   | refine LeO.bind ?_ (fun _ => ?_)
set_option maxHeartbeats 8000000 in
set_option maxRecDepth 100000 in
theorem spec_SemverCompare.calls (k : Nat) (a0_0 : Bool) (A0_1 : Option Addr) (c0_1 : Nat) (l0_1 : List (S28)) (a0_2 : ByteArray) (a0_3 : ByteArray) (a1_0 : Bool) (A1_1 : Option Addr) (c1_1 : Nat) (l1_1 : List (S28)) (a1_2 : ByteArray) (a1_3 : ByteArray) (r1 : Int) (r2 : Bool) (w : World) (hr0_1 : Kd.C k28 w A0_1 l0_1.length l0_1) (hc0_1 : l0_1.length ≤ c0_1) (hr1_1 : Kd.C k28 w A1_1 l1_1.length l1_1) (hc1_1 : l1_1.length ≤ c1_1) (h : spec_SemverCompare.f k a0_0 l0_1 a0_2 a0_3 a1_0 l1_1 a1_2 a1_3 = some (r1, r2)) :
  Calls Tryd.prog 14 #[.agg #[.bool a0_0, .slice A0_1 l0_1.length c0_1, .string a0_2, .string a0_3], .agg #[.bool a1_0, .slice A1_1 l1_1.length c1_1, .string a1_2, .string a1_3]] w fun e w' => e = .returned (.tuple #[.int .i64 r1, .bool r2]) ∧ Below w.heap.size w w' := by
 have hu32 := Tryd.underlying32
 have HR0_1 := Aside0.mk hr0_1
 have HC0_1 := Aside0.mk hc0_1
 clear hr0_1 hc0_1
 have HR1_1 := Aside0.mk hr1_1
 have HC1_1 := Aside0.mk hc1_1
 clear hr1_1 hc1_1
 have HB := Aside0.mk (Below.refl w.heap.size w)
 have H : ((spec_likeOrder.f k a0_0 l0_1 a0_2 a0_3 a1_0 l1_1 a1_2 a1_3).bind fun t192 => (some (t192, true))) = some (r1, r2) := h
 clear h
 replace H := Option.bind_eq_some_iff.mp H
 obtain ⟨t192, A30, H⟩ := H
 replace H : (some (t192, true)) = some (r1, r2) := H
 have A3 := Aside0.mk A30
 clear A30
 simp only [Option.some.injEq, Prod.mk.injEq] at H
 obtain ⟨rfl, rfl⟩ := H
 go_enter Tryd.func14, Tryd.ntmps14
 go_wp2_with (first | ((with_reducible refine gate_dst (N := 2) rfl ?_); refine box_event ?hg (N := 2) ?hd (cs := #[.bool a0_0, .slice A0_1 l0_1.length c0_1, .string a0_2, .string a0_3]) (t := 32) ?hr ?_; (case hd => rfl); (case hg => rfl); (case hr => first | (go_simp; done) | (go_simp; rfl)); intro gb190 hg w4 hbox hb; have n0_ := Aside0.mk (below_step (by repeat (first | (with_reducible first | exact HB.out | apply below_alloc | apply pw_below_drewN | apply below_drew1) | exact HB.out)) hb); have n1_ := Aside0.mk (hbox); have n2_ := Aside0.mk ((by rw [hg]; exact (below_size (by repeat (first | (with_reducible first | exact HB.out | apply below_alloc | apply pw_below_drewN | apply below_drew1) | exact HB.out))) : w.heap.size ≤ gb190)); have n3_ := Aside0.mk ((by rw [hg]; exact (below_size (by repeat (first | (with_reducible first | exact HB.out | apply below_alloc | apply pw_below_drewN | apply below_drew1) | exact HB.out))) : w.heap.size ≤ gb190)); clear HB; have HB := n0_; have BK190 := n1_; have GW190 := n2_; have GE190 := n3_; clear n0_ n1_ n2_ n3_; clear hb hbox hg) | ((with_reducible refine gate_dst (N := 3) rfl ?_); refine box_event ?hg (N := 3) ?hd (cs := #[.bool a1_0, .slice A1_1 l1_1.length c1_1, .string a1_2, .string a1_3]) (t := 32) ?hr ?_; (case hd => rfl); (case hg => rfl); (case hr => first | (go_simp; done) | (go_simp; rfl)); intro gb191 hg w5 hbox hb; have n0_ := Aside0.mk (blk_below (g := gb190) (o := .cells #[.bool a0_0, .slice A0_1 l0_1.length c0_1, .string a0_2, .string a0_3] 32 (0, 0)) (by (with_reducible repeat (first | refine blk_drewN ?_ _ | refine blk_drew ?_ | refine blk_alloc ?_ _)); exact BK190.out) hb); have n1_ := Aside0.mk (below_step (by repeat (first | (with_reducible first | exact HB.out | apply below_alloc | apply pw_below_drewN | apply below_drew1 | refine below_set ?_ GE190.out) | exact HB.out)) hb); have n2_ := Aside0.mk (hbox); have n3_ := Aside0.mk ((by rw [hg]; exact (below_size (by repeat (first | (with_reducible first | exact HB.out | apply below_alloc | apply pw_below_drewN | apply below_drew1 | refine below_set ?_ GE190.out) | exact HB.out))) : w.heap.size ≤ gb191)); have n4_ := Aside0.mk ((by rw [hg]; exact (below_size (by repeat (first | (with_reducible first | exact HB.out | apply below_alloc | apply pw_below_drewN | apply below_drew1 | refine below_set ?_ GE190.out) | exact HB.out))) : w.heap.size ≤ gb191)); have n5_ := Aside0.mk ((by rw [hg]; exact Nat.ne_of_lt (blk_lt (g := gb190) (o := .cells #[.bool a0_0, .slice A0_1 l0_1.length c0_1, .string a0_2, .string a0_3] 32 (0, 0)) (by (with_reducible repeat (first | refine blk_drewN ?_ _ | refine blk_drew ?_ | refine blk_alloc ?_ _)); exact BK190.out)) : gb190 ≠ gb191)); have n6_ := Aside0.mk ((by rw [hg]; exact Nat.ne_of_gt (blk_lt (g := gb190) (o := .cells #[.bool a0_0, .slice A0_1 l0_1.length c0_1, .string a0_2, .string a0_3] 32 (0, 0)) (by (with_reducible repeat (first | refine blk_drewN ?_ _ | refine blk_drew ?_ | refine blk_alloc ?_ _)); exact BK190.out)) : gb191 ≠ gb190)); clear BK190; clear HB; have BK190 := n0_; have HB := n1_; have BK191 := n2_; have GW191 := n3_; have GE191 := n4_; have NB190_191 := n5_; have NB191_190 := n6_; clear n0_ n1_ n2_ n3_ n4_ n5_ n6_; clear hb hbox hg; have hnb6 := NB190_191.out; have hnc6 := NB191_190.out; have hcz7_0 : w5.cell? ⟨gb190, 0, none⟩ = some (.bool a0_0) := (blk_cell BK190.out 0).trans rfl; have hcz7_1 : w5.cell? ⟨gb190, 1, none⟩ = some (.slice A0_1 l0_1.length c0_1) := (blk_cell BK190.out 1).trans rfl; have hcz7_2 : w5.cell? ⟨gb190, 2, none⟩ = some (.string a0_2) := (blk_cell BK190.out 2).trans rfl; have hcz7_3 : w5.cell? ⟨gb190, 3, none⟩ = some (.string a0_3) := (blk_cell BK190.out 3).trans rfl; have hfz7_0 := blk_frozen BK190.out 0; have hfz7_1 := blk_frozen BK190.out 1; have hfz7_2 := blk_frozen BK190.out 2; have hfz7_3 := blk_frozen BK190.out 3; have hcz8_0 : w5.cell? ⟨gb191, 0, none⟩ = some (.bool a1_0) := (blk_cell BK191.out 0).trans rfl; have hcz8_1 : w5.cell? ⟨gb191, 1, none⟩ = some (.slice A1_1 l1_1.length c1_1) := (blk_cell BK191.out 1).trans rfl; have hcz8_2 : w5.cell? ⟨gb191, 2, none⟩ = some (.string a1_2) := (blk_cell BK191.out 2).trans rfl; have hcz8_3 : w5.cell? ⟨gb191, 3, none⟩ = some (.string a1_3) := (blk_cell BK191.out 3).trans rfl; have hfz8_0 := blk_frozen BK191.out 0; have hfz8_1 := blk_frozen BK191.out 1; have hfz8_2 := blk_frozen BK191.out 2; have hfz8_3 := blk_frozen BK191.out 3) | ((with_reducible refine gate_callee (f := 24) rfl ?_); refine goesL_ (some 8) rfl rfl Tryd.func24 (by kernel_rfl) rfl #[.agg #[.bool a0_0, .slice A0_1 l0_1.length c0_1, .string a0_2, .string a0_3], .agg #[.bool a1_0, .slice A1_1 l1_1.length c1_1, .string a1_2, .string a1_3]] rfl (by (try simp only [List.map_toArray, List.map_cons, List.map_nil]); first | done | rfl | (simp only [List.length_drop, List.length_take]; rfl)) ?_; (with_reducible refine (spec_likeOrder.calls k a0_0 _ _ l0_1 a0_2 a0_3 a1_0 _ _ l1_1 a1_2 a1_3 t192 _ ?side1 ?side2 ?side3 ?side4 A3.out).mono ?_); (case side1 => repeat (first | exact (Kd.C_below HR0_1.out HB.out) | (with_reducible refine Kd.C_alloc ?_ _) | (with_reducible refine Kd.C_drewN ?_ _) | (with_reducible refine Kd.C_drew ?_))); (case side2 => exact HC0_1.out); (case side3 => repeat (first | exact (Kd.C_below HR1_1.out HB.out) | (with_reducible refine Kd.C_alloc ?_ _) | (with_reducible refine Kd.C_drewN ?_ _) | (with_reducible refine Kd.C_drew ?_))); (case side4 => exact HC1_1.out); rintro e w9 ⟨rfl, hb⟩; refine ⟨_, rfl, ?_⟩; have n0_ := Aside0.mk (blk_below (g := gb190) (o := .cells #[.bool a0_0, .slice A0_1 l0_1.length c0_1, .string a0_2, .string a0_3] 32 (0, 0)) (by (with_reducible repeat (first | refine blk_drewN ?_ _ | refine blk_drew ?_ | refine blk_alloc ?_ _)); exact BK190.out) hb); have n1_ := Aside0.mk (blk_below (g := gb191) (o := .cells #[.bool a1_0, .slice A1_1 l1_1.length c1_1, .string a1_2, .string a1_3] 32 (0, 0)) (by (with_reducible repeat (first | refine blk_drewN ?_ _ | refine blk_drew ?_ | refine blk_alloc ?_ _)); exact BK191.out) hb); have n2_ := Aside0.mk (below_step (by repeat (first | (with_reducible first | exact HB.out | apply below_alloc | apply pw_below_drewN | apply below_drew1 | refine below_set ?_ GE190.out | refine below_set ?_ GE191.out) | exact HB.out)) hb); clear BK190; clear BK191; clear HB; have BK190 := n0_; have BK191 := n1_; have HB := n2_; clear n0_ n1_ n2_; (try clear hb); (try clear hb2); (try clear hk); (try clear hi)))
 go_ret2
 exact ⟨by first | rfl | (simp [errW_none, errW_some] <;> rfl) | (simp [*, errW_none, errW_some] <;> rfl), by repeat (first | (with_reducible first | exact HB.out | apply below_alloc | apply pw_below_drewN | apply below_drew1 | refine below_set ?_ GE190.out | refine below_set ?_ GE191.out) | exact HB.out)⟩

/-! ### impl_bigs: function 39 -/
def impl_bigs.l0 : Nat → List (S77) → List (S28) → Int → Int → Option ((List (S77)))
 | 0, _, _, _, _ => none
 | k + 1, x3, x6, x7, x8 => if x8 < x7 then (if 0 ≤ x8 then (if x8 < (x6.length : Int) then (if x3.length < 5864062014805 then (impl_bigs.l0 k (x3 ++ [(⟨(rd_T28 x6 x8).f0, (rd_T28 x6 x8).f1⟩ : S77)]) x6 x7 (wrap64 (x8 + 1))) else (none)) else (none)) else (none)) else (some x3)
def impl_bigs.f (k : Nat) (l0 : List (S28)) : Option ((List (S77))) := impl_bigs.l0 k ([] : List (S77)) l0 (l0.length : Int) 0
theorem impl_bigs.mono_l : ∀ k, (∀ y0 y1 y2 y3, LeO (impl_bigs.l0 k y0 y1 y2 y3) (impl_bigs.l0 (k + 1) y0 y1 y2 y3))
 | 0 => fun _ _ _ _ r h => by simp [impl_bigs.l0] at h
 | k + 1 => by
  have ih0 := impl_bigs.mono_l k
  ·intro y0 y1 y2 y3
   unfold impl_bigs.l0
   repeat' first
   | (with_reducible exact ih0 _ _ _ _)
   | (with_reducible exact LeO.refl _)
   | (with_reducible exact LeO.none _)
   | (with_reducible refine LeO.ite ?_ ?_)
   | (with_reducible refine LeO.bind ?_ (fun _ => ?_))
   | exact ih0 _ _ _ _
   | exact LeO.none _
   | refine LeO.ite ?_ ?_
   | refine LeO.bind ?_ (fun _ => ?_)
theorem impl_bigs.mono : ∀ a0 k, LeO (impl_bigs.f k a0) (impl_bigs.f (k + 1) a0) := by
 intro a0 k
 have ih0 := impl_bigs.mono_l k
 unfold impl_bigs.f
 repeat' first
   | (with_reducible exact ih0 _ _ _ _)
   | (with_reducible exact LeO.refl _)
   | (with_reducible exact LeO.none _)
   | (with_reducible refine LeO.ite ?_ ?_)
   | (with_reducible refine LeO.bind ?_ (fun _ => ?_))
   | exact ih0 _ _ _ _
   | exact LeO.none _
   | refine LeO.ite ?_ ?_
   | refine LeO.bind ?_ (fun _ => ?_)
set_option maxHeartbeats 8000000 in
set_option maxRecDepth 100000 in
theorem impl_bigs.calls (k : Nat) (A0 : Option Addr) (c0 : Nat) (l0 : List (S28)) (r : List (S77)) (w : World) (hr0 : Kd.C k28 w A0 l0.length l0) (hc0 : l0.length ≤ c0) (h : impl_bigs.f k l0 = some r) :
  Calls Tryd.prog 39 #[.slice A0 l0.length c0] w fun e w' => ∃ v0_ : Value, e = .returned (v0_) ∧ Kd.R k77 77 w' w.heap.size (fun _ => True) v0_ r ∧ Below w.heap.size w w' := by
 have hu28 := Tryd.underlying28
 have HR0 := Aside0.mk hr0
 have HC0 := Aside0.mk hc0
 clear hr0 hc0
 have HB := Aside0.mk (Below.refl w.heap.size w)
 have H : (impl_bigs.l0 k ([] : List (S77)) l0 (l0.length : Int) 0) = some r := h
 clear h
 have H' := Aside0.mk H
 clear H
 go_enter Tryd.func39, Tryd.ntmps39
 go_wp2
 go_loopg [3, 8] k (fun kq v3 v8 w' => ∃ (x3_1 : List (S77)) (x8_1 : Int), v8 = .int .i64 x8_1 ∧ Aside0 (impl_bigs.l0 kq x3_1 l0 (l0.length : Int) x8_1 = some r) ∧ Aside0 (kq ≤ k) ∧ Aside0 (Kd.R k77 77 w' w.heap.size (fun _ => True) v3 x3_1) ∧ Aside0 (Below w.heap.size w w'))
 case atStart => exact ⟨(([] : List (S77))), (0), (by first | rfl | (simp; done) | (simp [*]; done)), H', ⟨Nat.le_refl _⟩, ⟨by first | exact Kd.R_nil _ _ _ _ _ | exact Kd.N_nil _ _ _ _ _ | exact Kd.V_nil _ _ _ _ _ | exact Kd.Q_nil _ _ _ _ _ | exact Kd.S_nil _ _ _ _ _⟩, ⟨by repeat (first | (with_reducible first | exact HB.out | apply below_alloc | apply pw_below_drewN | apply below_drew1) | exact HB.out)⟩⟩
 case round =>
  clear H'
  obtain ⟨x3_1, x8_1, rfl, HA, HK1, HO_3, HB⟩ := hrel
  cases gk with
  | zero => exact absurd HA.out (by simp [impl_bigs.l0])
  | succ k1 =>
   have H := HA.out
   clear HA
   simp only [impl_bigs.l0] at H
   by_cases c2 : x8_1 < (l0.length : Int)
   ·rw [if_pos c2] at H
    have c2b0 : decide (x8_1 < (l0.length : Int)) = true := decide_eq_true c2
    clear c2
    by_cases c3 : 0 ≤ x8_1
    ·rw [if_pos c3] at H
     have c3b0 : decide (0 ≤ x8_1) = true := decide_eq_true c3
     clear c3
     by_cases c4 : x8_1 < (l0.length : Int)
     ·rw [if_pos c4] at H
      have c4b0 : decide (x8_1 < (l0.length : Int)) = true := decide_eq_true c4
      clear c4
      by_cases c5 : x3_1.length < 5864062014805
      ·rw [if_pos c5] at H
       have LMc5 := Aside0.mk c5
       clear c5
       obtain ⟨y195, hy195⟩ : ∃ y_ : List (S77), y_ = (x3_1 ++ [(⟨(rd_T28 l0 x8_1).f0, (rd_T28 l0 x8_1).f1⟩ : S77)]) := ⟨_, rfl⟩
       replace H : (impl_bigs.l0 k1 y195 l0 (l0.length : Int) (wrap64 (x8_1 + 1))) = some r := by first | (rw [hy195]; with_reducible exact H) | (have H2_ := (Option.bind_some _ _).symm.trans H; rw [hy195]; with_reducible exact H2_) | (have H2_ := (Option.bind_some _ _).symm.trans H; with_reducible exact H2_) | with_reducible exact H | (rw [hy195]; exact H) | exact H
       have Ny195 := Aside0.mk hy195
       clear hy195
       have H' := Aside0.mk H
       clear H
       have p193 : 0 ≤ (x8_1 : Int) := of_decide_eq_true (by first | (with_reducible assumption) | assumption)
       have q193 : x8_1 < (l0.length : Int) := of_decide_eq_true (by first | (with_reducible assumption) | assumption)
       obtain ⟨ad193, e193, hx193_0, hx193_1⟩ := at_T28 HR0.out x8_1 p193 q193
       cases e193
       replace hx193_0 := (HB.out.cell (World.block_lt_of_cell? w _ hx193_0)).trans hx193_0
       replace hx193_1 := (HB.out.cell (World.block_lt_of_cell? w _ hx193_1)).trans hx193_1
       replace p193 := eq_true p193
       replace q193 := eq_true q193
       go_wp2_with (first | ((with_reducible refine gate_dst (N := 5) rfl ?_); refine box_event ?hg (N := 5) ?hd (cs := #[.bool false, .string (⟨#[]⟩ : ByteArray)]) (t := 28) ?hr ?_; (case hd => rfl); (case hg => rfl); (case hr => first | (go_simp; done) | (go_simp; rfl)); intro gb194 hg w6 hbox hb; have n0_ := Aside0.mk (Kd.R_below (by (with_reducible repeat (first | apply Kd.R_alloc | apply Kd.R_drewN | apply Kd.R_drew)); exact HO_3.out) hb); have n1_ := Aside0.mk (below_step (by repeat (first | (with_reducible first | exact HB.out | apply below_alloc | apply pw_below_drewN | apply below_drew1) | exact HB.out)) hb); have n2_ := Aside0.mk (hbox); have n3_ := Aside0.mk ((by rw [hg]; exact (below_size (by repeat (first | (with_reducible first | exact HB.out | apply below_alloc | apply pw_below_drewN | apply below_drew1) | exact HB.out))) : w.heap.size ≤ gb194)); have n4_ := Aside0.mk ((by rw [hg]; exact (below_size (by repeat (first | (with_reducible first | exact HB.out | apply below_alloc | apply pw_below_drewN | apply below_drew1) | exact HB.out))) : w.heap.size ≤ gb194)); clear HO_3; clear HB; have HO_3 := n0_; have HB := n1_; have BK194 := n2_; have GW194 := n3_; have GE194 := n4_; clear n0_ n1_ n2_ n3_ n4_; clear hb hbox hg; have hcz7_0 : w6.cell? ⟨gb194, 0, none⟩ = some (.bool false) := (blk_cell BK194.out 0).trans rfl; have hcz7_1 : w6.cell? ⟨gb194, 1, none⟩ = some (.string (⟨#[]⟩ : ByteArray)) := (blk_cell BK194.out 1).trans rfl; have hfz7_0 := blk_frozen BK194.out 0; have hfz7_1 := blk_frozen BK194.out 1) | ((with_reducible refine gate_builtin (b := .append) (xs := #[.tmp 12, .tmp 14]) rfl ?_); at_builtin; refine Kd.R_append k77 (w0 := w) w.heap.size rfl (.tmp 12) (.tmp 14) 44 77 (.agg #[(.bool false), (.string ⟨#[]⟩)]) 24 rfl Tryd.underlying44 info77 rfl (by decide) (by omega) u3 x3_1 (⟨(rd_T28 l0 x8_1).f0, (rd_T28 l0 x8_1).f1⟩ : S77) [.bool ((rd_T28 l0 x8_1).f0), .string ((rd_T28 l0 x8_1).f1)] (fun _ => True) (fun _ => False) rfl (by first | (go_simp; done) | (go_simp; rfl)) ?aP (fun _ hk => hk.elim) ?aF ?aO ?aB ?aS ?aL ?_; (case aP => exact k77_mkM _ _ _ (⟨(rd_T28 l0 x8_1).f0, (rd_T28 l0 x8_1).f1⟩ : S77)); (case aB => exact (by repeat (first | (with_reducible first | exact HB.out | apply below_alloc | apply pw_below_drewN | apply below_drew1 | refine below_set ?_ GE194.out) | exact HB.out))); (case aF => exact (fun _ _ => trivial)); (case aO => exact (by (with_reducible repeat (first | apply Kd.R_alloc | apply Kd.R_drewN | apply Kd.R_drew)); exact Kd.R_mono (Kd.R_far (p := ⟨gb194, 1, none⟩) (Kd.R_far (p := ⟨gb194, 0, none⟩) (Kd.R_types HO_3.out BK194.out (by decide)) (fun _ hk => hk.2) (.bool ((rd_T28 l0 x8_1).f0))) (fun _ hk => hk.2) (.string ((rd_T28 l0 x8_1).f1))) (fun _ hk => trivial))); (case aS => exact (below_size (by repeat (first | (with_reducible first | exact HB.out | apply below_alloc | apply pw_below_drewN | apply below_drew1 | refine below_set ?_ GE194.out) | exact HB.out)))); (case aL => have := LMc5.out; omega); intro v196 w8 ho hb hg hat; rw [← Ny195.out] at ho; have n0_ := Aside0.mk (blk_grown (g := gb194) (o := .cells #[.bool ((rd_T28 l0 x8_1).f0), .string ((rd_T28 l0 x8_1).f1)] 28 (0, 0)) (by (with_reducible repeat (first | refine blk_drewN ?_ _ | refine blk_drew ?_ | refine blk_alloc ?_ _)); refine blk_put (cs := #[.bool ((rd_T28 l0 x8_1).f0), .string (⟨#[]⟩ : ByteArray)]) ?_ 1 _ rfl; (with_reducible repeat (first | refine blk_drewN ?_ _ | refine blk_drew ?_ | refine blk_alloc ?_ _)); refine blk_put (cs := #[.bool false, .string (⟨#[]⟩ : ByteArray)]) ?_ 0 _ rfl; (with_reducible repeat (first | refine blk_drewN ?_ _ | refine blk_drew ?_ | refine blk_alloc ?_ _)); exact BK194.out) hg (Kd.R_ne HO_3.out BK194.out (by decide))); have n1_ := Aside0.mk (hb); have n2_ := Aside0.mk (ho); clear BK194; clear HB; clear HO_3; have BK194 := n0_; have HB := n1_; have HO197 := n2_; clear n0_ n1_ n2_; clear ho hb hg hat))
       go_roundg k1
       case measure => have := HK1.out; omega
       case rel => exact ⟨(y195), (wrap64 (x8_1 + 1)), (by first | rfl | (simp; done) | (simp [*]; done)), H', ⟨by have := HK1.out; omega⟩, ⟨by (with_reducible repeat (first | apply Kd.R_alloc | apply Kd.R_drewN | apply Kd.R_drew)); exact HO197.out⟩, ⟨by repeat (first | (with_reducible first | exact HB.out | apply below_alloc | apply pw_below_drewN | apply below_drew1 | refine below_set ?_ GE194.out) | exact HB.out)⟩⟩
      ·rw [if_neg c5] at H
       exact absurd H (by simp)
     ·rw [if_neg c4] at H
      exact absurd H (by simp)
    ·rw [if_neg c3] at H
     exact absurd H (by simp)
   ·rw [if_neg c2] at H
    have c2b0 : decide (x8_1 < (l0.length : Int)) = false := decide_eq_false c2
    clear c2
    obtain rfl := Option.some.inj H
    go_wp2
    go_ret
    exact ⟨_, by first | rfl | (simp [errW_none, errW_some] <;> rfl) | (simp [*, errW_none, errW_some] <;> rfl), by (with_reducible repeat (first | apply Kd.R_alloc | apply Kd.R_drewN | apply Kd.R_drew)); exact HO_3.out, by repeat (first | (with_reducible first | exact HB.out | apply below_alloc | apply pw_below_drewN | apply below_drew1) | exact HB.out)⟩

/-! ### impl_like: function 26 -/
def impl_like.f (k : Nat) (a0_0 : Bool) (l0_1 : List (S28)) (a0_2 : ByteArray) (a0_3 : ByteArray) : Option (Bool × (List (S77)) × ByteArray × ByteArray) := (impl_bigs.f k l0_1).bind fun t200 => (some (a0_0, t200, a0_2, a0_3))
theorem impl_like.mono : ∀ a0 a1 a2 a3 k, LeO (impl_like.f k a0 a1 a2 a3) (impl_like.f (k + 1) a0 a1 a2 a3) := by
 intro a0 a1 a2 a3 k
 unfold impl_like.f
 repeat' first
   | (with_reducible exact impl_bigs.mono _ _)
   | (with_reducible exact LeO.refl _)
   | (with_reducible exact LeO.none _)
   | (with_reducible refine LeO.ite ?_ ?_)
   | (with_reducible refine LeO.bind ?_ (fun _ => ?_))
   | exact impl_bigs.mono _ _
   | exact LeO.none _
   | refine LeO.ite ?_ ?_
   | refine LeO.bind ?_ (fun _ => ?_)
def impl_like.T1 : Bool × List (List Nat × List Nat) := (true, [([], []), ([0], [0]), ([], []), ([2], [2]), ([3], [3]), ([], []), ([5], [5]), ([], []), ([7], [7]), ([1, 4, 6, 8], [1, 4, 6, 8]), ([9, 4, 0, 1, 2, 3, 4, 5, 6, 7, 8, 9], [9])])
def impl_like.B1 : List Nat := [0, 1, 0, 4, 12, 0, 32, 0, 128, 511, 1023]
theorem impl_like.tab1 : rtab .any (opsOf Tryd.f26 1) = impl_like.T1 := by kernel_rfl
theorem impl_like.bits1 : waitsOk impl_like.T1.2 impl_like.B1 = true := by kernel_rfl
set_option maxHeartbeats 8000000 in
set_option maxRecDepth 100000 in
theorem impl_like.calls (k : Nat) (a0_0 : Bool) (A0_1 : Option Addr) (c0_1 : Nat) (l0_1 : List (S28)) (a0_2 : ByteArray) (a0_3 : ByteArray) (r1 : Bool) (r2 : List (S77)) (r3 : ByteArray) (r4 : ByteArray) (w : World) (hr0_1 : Kd.C k28 w A0_1 l0_1.length l0_1) (hc0_1 : l0_1.length ≤ c0_1) (h : impl_like.f k a0_0 l0_1 a0_2 a0_3 = some (r1, r2, r3, r4)) :
  Calls Tryd.prog 26 #[.agg #[.bool a0_0, .slice A0_1 l0_1.length c0_1, .string a0_2, .string a0_3]] w fun e w' => ∃ v1_ : Value, e = .returned (.agg #[.bool r1, v1_, .string r3, .string r4]) ∧ Kd.R k77 77 w' w.heap.size (fun _ => True) v1_ r2 ∧ Below w.heap.size w w' := by
 have hu32 := Tryd.underlying32
 have hu46 := Tryd.underlying46
 have HR0_1 := Aside0.mk hr0_1
 have HC0_1 := Aside0.mk hc0_1
 clear hr0_1 hc0_1
 have HB := Aside0.mk (Below.refl w.heap.size w)
 have H : ((impl_bigs.f k l0_1).bind fun t200 => (some (a0_0, t200, a0_2, a0_3))) = some (r1, r2, r3, r4) := h
 clear h
 replace H := Option.bind_eq_some_iff.mp H
 obtain ⟨t200, A20, H⟩ := H
 replace H : (some (a0_0, t200, a0_2, a0_3)) = some (r1, r2, r3, r4) := H
 have A2 := Aside0.mk A20
 clear A20
 simp only [Option.some.injEq, Prod.mk.injEq] at H
 obtain ⟨rfl, rfl, rfl, rfl⟩ := H
 go_enter Tryd.func26, Tryd.ntmps26
 try go_wp2_with (first | ((with_reducible refine gate_dst (N := 1) rfl ?_); refine box_event ?hg (N := 1) ?hd (cs := #[.bool a0_0, .slice A0_1 l0_1.length c0_1, .string a0_2, .string a0_3]) (t := 32) ?hr ?_; (case hd => rfl); (case hg => rfl); (case hr => first | (go_simp; done) | (go_simp; rfl)); intro gb198 hg w3 hbox hb; have n0_ := Aside0.mk (below_step (by repeat (first | (with_reducible first | exact HB.out | apply below_alloc | apply pw_below_drewN | apply below_drew1) | exact HB.out)) hb); have n1_ := Aside0.mk (hbox); have n2_ := Aside0.mk ((by rw [hg]; exact (below_size (by repeat (first | (with_reducible first | exact HB.out | apply below_alloc | apply pw_below_drewN | apply below_drew1) | exact HB.out))) : w.heap.size ≤ gb198)); have n3_ := Aside0.mk ((by rw [hg]; exact (below_size (by repeat (first | (with_reducible first | exact HB.out | apply below_alloc | apply pw_below_drewN | apply below_drew1) | exact HB.out))) : w.heap.size ≤ gb198)); clear HB; have HB := n0_; have BK198 := n1_; have GW198 := n2_; have GE198 := n3_; clear n0_ n1_ n2_ n3_; clear hb hbox hg) | ((with_reducible refine gate_dst (N := 2) rfl ?_); refine box_event ?hg (N := 2) ?hd (cs := #[.bool false, .slice none 0 0, .string (⟨#[]⟩ : ByteArray), .string (⟨#[]⟩ : ByteArray)]) (t := 46) ?hr ?_; (case hd => rfl); (case hg => rfl); (case hr => first | (go_simp; done) | (go_simp; rfl)); intro gb199 hg w4 hbox hb; have n0_ := Aside0.mk (blk_below (g := gb198) (o := .cells #[.bool a0_0, .slice A0_1 l0_1.length c0_1, .string a0_2, .string a0_3] 32 (0, 0)) (by (with_reducible repeat (first | refine blk_drewN ?_ _ | refine blk_drew ?_ | refine blk_alloc ?_ _)); exact BK198.out) hb); have n1_ := Aside0.mk (below_step (by repeat (first | (with_reducible first | exact HB.out | apply below_alloc | apply pw_below_drewN | apply below_drew1 | refine below_set ?_ GE198.out) | exact HB.out)) hb); have n2_ := Aside0.mk (hbox); have n3_ := Aside0.mk ((by rw [hg]; exact (below_size (by repeat (first | (with_reducible first | exact HB.out | apply below_alloc | apply pw_below_drewN | apply below_drew1 | refine below_set ?_ GE198.out) | exact HB.out))) : w.heap.size ≤ gb199)); have n4_ := Aside0.mk ((by rw [hg]; exact (below_size (by repeat (first | (with_reducible first | exact HB.out | apply below_alloc | apply pw_below_drewN | apply below_drew1 | refine below_set ?_ GE198.out) | exact HB.out))) : w.heap.size ≤ gb199)); have n5_ := Aside0.mk ((by rw [hg]; exact Nat.ne_of_lt (blk_lt (g := gb198) (o := .cells #[.bool a0_0, .slice A0_1 l0_1.length c0_1, .string a0_2, .string a0_3] 32 (0, 0)) (by (with_reducible repeat (first | refine blk_drewN ?_ _ | refine blk_drew ?_ | refine blk_alloc ?_ _)); exact BK198.out)) : gb198 ≠ gb199)); have n6_ := Aside0.mk ((by rw [hg]; exact Nat.ne_of_gt (blk_lt (g := gb198) (o := .cells #[.bool a0_0, .slice A0_1 l0_1.length c0_1, .string a0_2, .string a0_3] 32 (0, 0)) (by (with_reducible repeat (first | refine blk_drewN ?_ _ | refine blk_drew ?_ | refine blk_alloc ?_ _)); exact BK198.out)) : gb199 ≠ gb198)); clear BK198; clear HB; have BK198 := n0_; have HB := n1_; have BK199 := n2_; have GW199 := n3_; have GE199 := n4_; have NB198_199 := n5_; have NB199_198 := n6_; clear n0_ n1_ n2_ n3_ n4_ n5_ n6_; clear hb hbox hg))
 have n0_ := Aside0.mk (blk_drew BK198.out)
 have n1_ := Aside0.mk (blk_drew BK199.out)
 have n2_ := Aside0.mk (below_drew1 HB.out)
 clear BK198
 clear BK199
 clear HB
 have BK198 := n0_
 have BK199 := n1_
 have HB := n2_
 clear n0_ n1_ n2_
 refine start_ (n := 11) (S := fun w' => w'.cell? ⟨gb198, 0, none⟩ = some (.bool a0_0) ∧ w'.cell? ⟨gb198, 1, none⟩ = some (.slice A0_1 l0_1.length c0_1) ∧ w'.cell? ⟨gb198, 2, none⟩ = some (.string a0_2) ∧ w'.cell? ⟨gb198, 3, none⟩ = some (.string a0_3)) (ds := []) #[false, false, false, false, false, false, false, false, false, false, false] (by kernel_rfl) rfl rfl ⟨(blk_cell BK198.out 0).trans rfl, (blk_cell BK198.out 1).trans rfl, (blk_cell BK198.out 2).trans rfl, (blk_cell BK198.out 3).trans rfl⟩ (fun hHeld => ?_); refine with_tabW impl_like.tab1 impl_like.bits1 (fun HT_ HW_ => ?_)
 generalize w4.drew = w5 at BK198 BK199 HB hHeld ⊢
 refine pure_ (i := 0) (N := some 3) (v := ?_) (a' := ?_) #[true, false, false, false, false, false, false, false, false, false, false] rfl rfl (any_of HT_.out (by kernel_rfl)) (fun _ _ _ h => h) (Or.inl ⟨by rfl, ?_⟩) ?_ ?_
 rotate_left
 ·intro w'
  go_simp
  with_reducible rfl
 rotate_left
 ·simp only [Act.put, List.setIfInBounds_toArray, List.set_cons_zero, List.set_cons_succ, i64_w, i32_w]
  rfl
 refine pure_ (i := 2) (N := some 5) (v := ?_) (a' := ?_) #[true, false, true, false, false, false, false, false, false, false, false] rfl rfl (any_of HT_.out (by kernel_rfl)) (fun _ _ _ h => h) (Or.inl ⟨by rfl, ?_⟩) ?_ ?_
 rotate_left
 ·intro w'
  go_simp
  with_reducible rfl
 rotate_left
 ·simp only [Act.put, List.setIfInBounds_toArray, List.set_cons_zero, List.set_cons_succ, i64_w, i32_w]
  rfl
 refine pure_ (i := 5) (N := some 8) (v := ?_) (a' := ?_) #[true, false, true, false, false, true, false, false, false, false, false] rfl rfl (any_of HT_.out (by kernel_rfl)) (fun _ _ _ h => h) (Or.inl ⟨by rfl, ?_⟩) ?_ ?_
 rotate_left
 ·intro w'
  go_simp
  with_reducible rfl
 rotate_left
 ·simp only [Act.put, List.setIfInBounds_toArray, List.set_cons_zero, List.set_cons_succ, i64_w, i32_w]
  rfl
 refine pure_ (i := 7) (N := some 10) (v := ?_) (a' := ?_) #[true, false, true, false, false, true, false, true, false, false, false] rfl rfl (any_of HT_.out (by kernel_rfl)) (fun _ _ _ h => h) (Or.inl ⟨by rfl, ?_⟩) ?_ ?_
 rotate_left
 ·intro w'
  go_simp
  with_reducible rfl
 rotate_left
 ·simp only [Act.put, List.setIfInBounds_toArray, List.set_cons_zero, List.set_cons_succ, i64_w, i32_w]
  rfl
 refine take_ (i := 1) (N := some 4) (v := ?_) (a' := ?_) #[true, true, true, false, false, true, false, true, false, false, false] rfl rfl (take_ofW HT_.out HW_.out (by kernel_rfl)) (fun _ _ _ h => h) (Or.inl ⟨by rfl, ?_⟩) hHeld ?_ ?_
 rotate_left
 ·rintro w' ⟨s0, s1, s2, s3⟩
  go_simp
  with_reducible rfl
 rotate_left
 ·simp only [Act.put, List.setIfInBounds_toArray, List.set_cons_zero, List.set_cons_succ, i64_w, i32_w]
  rfl
 refine take_ (i := 3) (N := some 6) (v := ?_) (a' := ?_) #[true, true, true, true, false, true, false, true, false, false, false] rfl rfl (take_ofW HT_.out HW_.out (by kernel_rfl)) (fun _ _ _ h => h) (Or.inl ⟨by rfl, ?_⟩) hHeld ?_ ?_
 rotate_left
 ·rintro w' ⟨s0, s1, s2, s3⟩
  go_simp
  with_reducible rfl
 rotate_left
 ·simp only [Act.put, List.setIfInBounds_toArray, List.set_cons_zero, List.set_cons_succ, i64_w, i32_w]
  rfl
 refine take_ (i := 6) (N := some 9) (v := ?_) (a' := ?_) #[true, true, true, true, false, true, true, true, false, false, false] rfl rfl (take_ofW HT_.out HW_.out (by kernel_rfl)) (fun _ _ _ h => h) (Or.inl ⟨by rfl, ?_⟩) hHeld ?_ ?_
 rotate_left
 ·rintro w' ⟨s0, s1, s2, s3⟩
  go_simp
  with_reducible rfl
 rotate_left
 ·simp only [Act.put, List.setIfInBounds_toArray, List.set_cons_zero, List.set_cons_succ, i64_w, i32_w]
  rfl
 refine take_ (i := 8) (N := some 11) (v := ?_) (a' := ?_) #[true, true, true, true, false, true, true, true, true, false, false] rfl rfl (take_ofW HT_.out HW_.out (by kernel_rfl)) (fun _ _ _ h => h) (Or.inl ⟨by rfl, ?_⟩) hHeld ?_ ?_
 rotate_left
 ·rintro w' ⟨s0, s1, s2, s3⟩
  go_simp
  with_reducible rfl
 rotate_left
 ·simp only [Act.put, List.setIfInBounds_toArray, List.set_cons_zero, List.set_cons_succ, i64_w, i32_w]
  rfl
 refine one_ (i := 4) (N := some 7) #[true, true, true, true, true, true, true, true, true, false, false] rfl rfl (one_of HT_.out (by kernel_rfl)) (by decide) (fun K hK => ?_)
 refine goes_ Tryd.func39 (by kernel_rfl) rfl #[.slice A0_1 l0_1.length c0_1] (by rfl) rfl rfl (by (try simp only [List.map_toArray, List.map_cons, List.map_nil]); first | done | rfl | (simp only [List.length_drop, List.length_take]; rfl)) ?_
 with_reducible refine (impl_bigs.calls k _ _ l0_1 t200 _ ?side1 ?side2 A2.out).mono ?_
 (case side1 => repeat (first | exact (Kd.C_below HR0_1.out HB.out) | (with_reducible refine Kd.C_alloc ?_ _) | (with_reducible refine Kd.C_drewN ?_ _) | (with_reducible refine Kd.C_drew ?_)))
 (case side2 => exact HC0_1.out)
 rintro e w6 ⟨v201, rfl, ho0, hb⟩
 refine ⟨_, rfl, ?_⟩
 have n0_ := Aside0.mk (Kd.R_lower ho0 (below_size (by repeat (first | (with_reducible first | exact HB.out | apply below_alloc | apply pw_below_drewN | apply below_drew1 | refine below_set ?_ GE198.out | refine below_set ?_ GE199.out) | exact HB.out))))
 have n1_ := Aside0.mk (blk_below (g := gb198) (o := .cells #[.bool a0_0, .slice A0_1 l0_1.length c0_1, .string a0_2, .string a0_3] 32 (0, 0)) (by (with_reducible repeat (first | refine blk_drewN ?_ _ | refine blk_drew ?_ | refine blk_alloc ?_ _)); exact BK198.out) hb)
 have n2_ := Aside0.mk (blk_below (g := gb199) (o := .cells #[.bool false, .slice none 0 0, .string (⟨#[]⟩ : ByteArray), .string (⟨#[]⟩ : ByteArray)] 46 (0, 0)) (by (with_reducible repeat (first | refine blk_drewN ?_ _ | refine blk_drew ?_ | refine blk_alloc ?_ _)); exact BK199.out) hb)
 have n3_ := Aside0.mk (below_step (by repeat (first | (with_reducible first | exact HB.out | apply below_alloc | apply pw_below_drewN | apply below_drew1 | refine below_set ?_ GE198.out | refine below_set ?_ GE199.out) | exact HB.out)) hb)
 clear BK198
 clear BK199
 clear HB
 have HO202 := n0_
 have BK198 := n1_
 have BK199 := n2_
 have HB := n3_
 clear n0_ n1_ n2_ n3_
 (try clear hb)
 (try clear hb2)
 (try clear hk)
 (try clear hi)
 (try clear ho0)
 obtain ⟨Ao7, co7, eo7⟩ := Kd.R_slice HO202.out
 (first | subst eo7 | (injection eo7 with f1_ f2_ f3_; have f4_ := f1_.symm; have f5_ := f3_.symm; clear f1_ f2_ f3_; subst f4_; subst f5_))
 refine hK.out _ _ ⟨(blk_cell BK198.out 0).trans rfl, (blk_cell BK198.out 1).trans rfl, (blk_cell BK198.out 2).trans rfl, (blk_cell BK198.out 3).trans rfl⟩ (fun hHeld => ?_)
 clear hK K
 refine norm_ (a' := ?_) ?_ ?_
 rotate_left
 ·show Act.put _ (some 7) _ = _
  simp only [Act.put, List.setIfInBounds_toArray, List.set_cons_zero, List.set_cons_succ, i64_w, i32_w]
  rfl
 refine pure_ (i := 9) (N := some 12) (v := ?_) (a' := ?_) #[true, true, true, true, true, true, true, true, true, true, false] rfl rfl (any_of HT_.out (by kernel_rfl)) (fun _ _ _ h => h) (Or.inl ⟨by rfl, ?_⟩) ?_ ?_
 rotate_left
 ·intro w'
  go_simp
  with_reducible rfl
 rotate_left
 ·simp only [Act.put, List.setIfInBounds_toArray, List.set_cons_zero, List.set_cons_succ, i64_w, i32_w]
  rfl
 refine one_ (i := 10) (N := none) #[true, true, true, true, true, true, true, true, true, true, true] rfl rfl (one_of HT_.out (by kernel_rfl)) (by decide) (fun K hK => ?_)
 have hs8 : w6.cell? ⟨gb199, 0, none⟩ = some (.bool false) := (blk_cell BK199.out 0).trans rfl
 have hfs8 := blk_frozen BK199.out 0
 have hns8_0 := NB198_199.out
 have hms8_0 := NB199_198.out
 have hs9 : w6.cell? ⟨gb199, 1, none⟩ = some (.slice none 0 0) := (blk_cell BK199.out 1).trans rfl
 have hfs9 := blk_frozen BK199.out 1
 have hns9_0 := NB198_199.out
 have hms9_0 := NB199_198.out
 have hs10 : w6.cell? ⟨gb199, 2, none⟩ = some (.string (⟨#[]⟩ : ByteArray)) := (blk_cell BK199.out 2).trans rfl
 have hfs10 := blk_frozen BK199.out 2
 have hns10_0 := NB198_199.out
 have hms10_0 := NB199_198.out
 have hs11 : w6.cell? ⟨gb199, 3, none⟩ = some (.string (⟨#[]⟩ : ByteArray)) := (blk_cell BK199.out 3).trans rfl
 have hfs11 := blk_frozen BK199.out 3
 have hns11_0 := NB198_199.out
 have hms11_0 := NB199_198.out
 refine skip_ (w1 := ?_) (by rfl) rfl ?_ ?_
 rotate_left
 ·go_simp
  rfl
 refine hK.out _ _ ⟨((cell_far (p := ⟨gb199, _, none⟩) NB198_199.out _).trans (((cell_far (p := ⟨gb199, _, none⟩) NB198_199.out _).trans (((cell_far (p := ⟨gb199, _, none⟩) NB198_199.out _).trans (((cell_far (p := ⟨gb199, _, none⟩) NB198_199.out _).trans (hHeld.1)))))))), ((cell_far (p := ⟨gb199, _, none⟩) NB198_199.out _).trans (((cell_far (p := ⟨gb199, _, none⟩) NB198_199.out _).trans (((cell_far (p := ⟨gb199, _, none⟩) NB198_199.out _).trans (((cell_far (p := ⟨gb199, _, none⟩) NB198_199.out _).trans (hHeld.2.1)))))))), ((cell_far (p := ⟨gb199, _, none⟩) NB198_199.out _).trans (((cell_far (p := ⟨gb199, _, none⟩) NB198_199.out _).trans (((cell_far (p := ⟨gb199, _, none⟩) NB198_199.out _).trans (((cell_far (p := ⟨gb199, _, none⟩) NB198_199.out _).trans (hHeld.2.2.1)))))))), ((cell_far (p := ⟨gb199, _, none⟩) NB198_199.out _).trans (((cell_far (p := ⟨gb199, _, none⟩) NB198_199.out _).trans (((cell_far (p := ⟨gb199, _, none⟩) NB198_199.out _).trans (((cell_far (p := ⟨gb199, _, none⟩) NB198_199.out _).trans (hHeld.2.2.2))))))))⟩ (fun hHeld => ?_)
 clear hK K
 refine done_ (done_of HT_.out (by kernel_rfl)) ?_
 try go_wp2
 refine bodyPost_ret (results_cell_row rfl _ _ gb199 46 #[.bool a0_0, .slice Ao7 t200.length co7, .string a0_2, .string a0_3] (0, 0) _ rfl (by (with_reducible repeat (first | refine blk_drewN ?_ _ | refine blk_drew ?_ | refine blk_alloc ?_ _)); refine blk_put (cs := #[.bool a0_0, .slice Ao7 t200.length co7, .string a0_2, .string (⟨#[]⟩ : ByteArray)]) ?_ 3 _ rfl; (with_reducible repeat (first | refine blk_drewN ?_ _ | refine blk_drew ?_ | refine blk_alloc ?_ _)); refine blk_put (cs := #[.bool a0_0, .slice Ao7 t200.length co7, .string (⟨#[]⟩ : ByteArray), .string (⟨#[]⟩ : ByteArray)]) ?_ 2 _ rfl; (with_reducible repeat (first | refine blk_drewN ?_ _ | refine blk_drew ?_ | refine blk_alloc ?_ _)); refine blk_put (cs := #[.bool a0_0, .slice none 0 0, .string (⟨#[]⟩ : ByteArray), .string (⟨#[]⟩ : ByteArray)]) ?_ 1 _ rfl; (with_reducible repeat (first | refine blk_drewN ?_ _ | refine blk_drew ?_ | refine blk_alloc ?_ _)); refine blk_put (cs := #[.bool false, .slice none 0 0, .string (⟨#[]⟩ : ByteArray), .string (⟨#[]⟩ : ByteArray)]) ?_ 0 _ rfl; (with_reducible repeat (first | refine blk_drewN ?_ _ | refine blk_drew ?_ | refine blk_alloc ?_ _)); exact BK199.out) Tryd.underlying46 rfl (by kernel_rfl)) rfl ?_
 exact ⟨_, by first | rfl | (simp [errW_none, errW_some] <;> rfl) | (simp [*, errW_none, errW_some] <;> rfl), by (with_reducible repeat (first | apply Kd.R_alloc | apply Kd.R_drewN | apply Kd.R_drew)); exact Kd.R_mono (Kd.R_far (p := ⟨gb199, 3, none⟩) (Kd.R_far (p := ⟨gb199, 2, none⟩) (Kd.R_far (p := ⟨gb199, 1, none⟩) (Kd.R_far (p := ⟨gb199, 0, none⟩) (Kd.R_types HO202.out BK199.out (by decide)) (fun _ hk => hk.2) (.bool a0_0)) (fun _ hk => hk.2) (.slice Ao7 t200.length co7)) (fun _ hk => hk.2) (.string a0_2)) (fun _ hk => hk.2) (.string a0_3)) (fun _ hk => trivial), by repeat (first | (with_reducible first | exact HB.out | apply below_alloc | apply pw_below_drewN | apply below_drew1 | refine below_set ?_ GE198.out | refine below_set ?_ GE199.out) | exact HB.out)⟩

end Go.Proofs.YtajglnedoeboaaaDoor.Z
