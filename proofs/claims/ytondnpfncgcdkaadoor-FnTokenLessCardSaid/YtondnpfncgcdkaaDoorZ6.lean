-- Written by a program of this session (myprint.py).
import Derived.Test.YtondnpfncgcdkaaDoorZ0
import Derived.Test.YtondnpfncgcdkaaDoorZ1
import Derived.Test.YtondnpfncgcdkaaDoorZ5
import Derived.Test.YtondnpfncgcdkaaDoorGe
namespace Go.Proofs.YtondnpfncgcdkaaDoor.Z
open Go.Proofs.YtondnpfncgcdkaaDoor.Gw
open Go.RowKit Go.Proofs.YtondnpfncgcdkaaDoorW.PrintWords Go.Proofs.YtondnpfncgcdkaaDoorW.PrintLast Go.Proofs.YtondnpfncgcdkaaDoorW.PrintMore
attribute [local go_sem high] Go.Proofs.YtondnpfncgcdkaaDoor.Ge.gtr_str
attribute [local go_sem] max2_int min2_int max_two min_two max_three min_three max_four min_four   -- for this text's walks alone
set_option linter.unusedVariables false
set_option linter.unusedSimpArgs false

/-! ### spec_mavenOne: function 24 -/
mutual
def spec_mavenOne.j0 : Nat → Bool → Bool → Bool → ByteArray → ByteArray → Bool → ByteArray → ByteArray → Bool → Option (Int × Bool)
  | 0, _, _, _, _, _, _, _, _, _ => none
  | k + 1, x6, x7, x40, x131000, x131001, x131002, x132000, x132001, x132002 => if x40 = true then ((spec_orderNumbers.f k x131001 x132001).bind fun t139 => (some (t139, true))) else (if x6 = true then (spec_mavenOne.j1 k x6 x7 false x131000 x131001 x131002 x132000 x132001 x132002) else (spec_mavenOne.j1 k x6 x7 (!x7) x131000 x131001 x131002 x132000 x132001 x132002))
def spec_mavenOne.j1 : Nat → Bool → Bool → Bool → ByteArray → ByteArray → Bool → ByteArray → ByteArray → Bool → Option (Int × Bool)
  | 0, _, _, _, _, _, _, _, _, _ => none
  | k + 1, x6, x7, x50, x131000, x131001, x131002, x132000, x132001, x132002 => if x50 = true then ((spec_mavenQualifiers.f k x131001 x132001).bind fun t140 => (some (t140, true))) else (if x6 = true then (if x131002 = true then ((spec_Keyword.f k x132001).bind fun t141 => ((spec_Keyword.f k (⟨#[115, 112]⟩ : ByteArray)).bind fun t142 => (spec_mavenOne.j2 k x6 x7 (decide (t141 > t142)) x131000 x131001 x131002 x132000 x132001 x132002))) else (spec_mavenOne.j2 k x6 x7 false x131000 x131001 x131002 x132000 x132001 x132002)) else (spec_mavenOne.j2 k x6 x7 false x131000 x131001 x131002 x132000 x132001 x132002))
def spec_mavenOne.j2 : Nat → Bool → Bool → Bool → ByteArray → ByteArray → Bool → ByteArray → ByteArray → Bool → Option (Int × Bool)
  | 0, _, _, _, _, _, _, _, _, _ => none
  | k + 1, x6, x7, x62, x131000, x131001, x131002, x132000, x132001, x132002 => if x62 = true then (some ((-1), true)) else (if x7 = true then (if x132002 = true then ((spec_Keyword.f k x131001).bind fun t143 => ((spec_Keyword.f k (⟨#[115, 112]⟩ : ByteArray)).bind fun t144 => (spec_mavenOne.j3 k x6 (decide (t143 > t144))))) else (spec_mavenOne.j3 k x6 false)) else (spec_mavenOne.j3 k x6 false))
def spec_mavenOne.j3 : Nat → Bool → Bool → Option (Int × Bool)
  | 0, _, _ => none
  | k + 1, x6, x75 => if x75 = true then (some (1, true)) else (if x6 = true then (some (1, true)) else (some ((-1), true)))
end
def spec_mavenOne.f (k : Nat) (a0_0 : ByteArray) (a0_1 : ByteArray) (a0_2 : Bool) (a1_0 : ByteArray) (a1_1 : ByteArray) (a1_2 : Bool) : Option (Int × Bool) := (spec_allDigits.f k a0_1).bind fun t132 => ((spec_allDigits.f k a1_1).bind fun t133 => (if a0_0.toList = a1_0.toList then (if t132 = true then (spec_mavenOne.j0 k t132 t133 t133 a0_0 a0_1 a0_2 a1_0 a1_1 a1_2) else (spec_mavenOne.j0 k t132 t133 false a0_0 a0_1 a0_2 a1_0 a1_1 a1_2)) else ((spec_TokenOrder.f k a0_0 a0_1 a0_2).bind fun bt134 => ((spec_TokenOrder.f k a1_0 a1_1 a1_2).bind fun bt136 => ((spec_orderInts.f bt134.1 bt136.1).bind fun t138 => (if bt134.2 = true then (some (t138, bt136.2)) else (some (t138, false))))))))
theorem spec_mavenOne.mono_l : ∀ k, (∀ y0 y1 y2 y3 y4 y5 y6 y7 y8, LeO (spec_mavenOne.j0 k y0 y1 y2 y3 y4 y5 y6 y7 y8) (spec_mavenOne.j0 (k + 1) y0 y1 y2 y3 y4 y5 y6 y7 y8)) ∧ (∀ y0 y1 y2 y3 y4 y5 y6 y7 y8, LeO (spec_mavenOne.j1 k y0 y1 y2 y3 y4 y5 y6 y7 y8) (spec_mavenOne.j1 (k + 1) y0 y1 y2 y3 y4 y5 y6 y7 y8)) ∧ (∀ y0 y1 y2 y3 y4 y5 y6 y7 y8, LeO (spec_mavenOne.j2 k y0 y1 y2 y3 y4 y5 y6 y7 y8) (spec_mavenOne.j2 (k + 1) y0 y1 y2 y3 y4 y5 y6 y7 y8)) ∧ (∀ y0 y1, LeO (spec_mavenOne.j3 k y0 y1) (spec_mavenOne.j3 (k + 1) y0 y1))
  | 0 => ⟨fun _ _ _ _ _ _ _ _ _ r h => by simp [spec_mavenOne.j0] at h, fun _ _ _ _ _ _ _ _ _ r h => by simp [spec_mavenOne.j1] at h, fun _ _ _ _ _ _ _ _ _ r h => by simp [spec_mavenOne.j2] at h, fun _ _ r h => by simp [spec_mavenOne.j3] at h⟩
  | k + 1 => by
    obtain ⟨ih0, ih1, ih2, ih3⟩ := spec_mavenOne.mono_l k
    refine ⟨?_, ?_, ?_, ?_⟩
    · intro y0 y1 y2 y3 y4 y5 y6 y7 y8
      unfold spec_mavenOne.j0
      repeat' first
      | (with_reducible exact ih0 _ _ _ _ _ _ _ _ _)
      | (with_reducible exact ih1 _ _ _ _ _ _ _ _ _)
      | (with_reducible exact ih2 _ _ _ _ _ _ _ _ _)
      | (with_reducible exact ih3 _ _)
      | (with_reducible exact spec_Keyword.mono _ _)
      | (with_reducible exact spec_TokenOrder.mono _ _ _ _)
      | (with_reducible exact spec_allDigits.mono _ _)
      | (with_reducible exact spec_mavenQualifiers.mono _ _ _)
      | (with_reducible exact spec_orderNumbers.mono _ _ _)
      | (with_reducible exact LeO.refl _)
      | (with_reducible exact LeO.none _)
      | (with_reducible refine LeO.ite ?_ ?_)
      | (with_reducible refine LeO.bind ?_ (fun _ => ?_))
      | exact ih0 _ _ _ _ _ _ _ _ _
      | exact ih1 _ _ _ _ _ _ _ _ _
      | exact ih2 _ _ _ _ _ _ _ _ _
      | exact ih3 _ _
      | exact spec_Keyword.mono _ _
      | exact spec_TokenOrder.mono _ _ _ _
      | exact spec_allDigits.mono _ _
      | exact spec_mavenQualifiers.mono _ _ _
      | exact spec_orderNumbers.mono _ _ _
      | exact LeO.none _
      | refine LeO.ite ?_ ?_
      | refine LeO.bind ?_ (fun _ => ?_)
    · intro y0 y1 y2 y3 y4 y5 y6 y7 y8
      unfold spec_mavenOne.j1
      repeat' first
      | (with_reducible exact ih0 _ _ _ _ _ _ _ _ _)
      | (with_reducible exact ih1 _ _ _ _ _ _ _ _ _)
      | (with_reducible exact ih2 _ _ _ _ _ _ _ _ _)
      | (with_reducible exact ih3 _ _)
      | (with_reducible exact spec_Keyword.mono _ _)
      | (with_reducible exact spec_TokenOrder.mono _ _ _ _)
      | (with_reducible exact spec_allDigits.mono _ _)
      | (with_reducible exact spec_mavenQualifiers.mono _ _ _)
      | (with_reducible exact spec_orderNumbers.mono _ _ _)
      | (with_reducible exact LeO.refl _)
      | (with_reducible exact LeO.none _)
      | (with_reducible refine LeO.ite ?_ ?_)
      | (with_reducible refine LeO.bind ?_ (fun _ => ?_))
      | exact ih0 _ _ _ _ _ _ _ _ _
      | exact ih1 _ _ _ _ _ _ _ _ _
      | exact ih2 _ _ _ _ _ _ _ _ _
      | exact ih3 _ _
      | exact spec_Keyword.mono _ _
      | exact spec_TokenOrder.mono _ _ _ _
      | exact spec_allDigits.mono _ _
      | exact spec_mavenQualifiers.mono _ _ _
      | exact spec_orderNumbers.mono _ _ _
      | exact LeO.none _
      | refine LeO.ite ?_ ?_
      | refine LeO.bind ?_ (fun _ => ?_)
    · intro y0 y1 y2 y3 y4 y5 y6 y7 y8
      unfold spec_mavenOne.j2
      repeat' first
      | (with_reducible exact ih0 _ _ _ _ _ _ _ _ _)
      | (with_reducible exact ih1 _ _ _ _ _ _ _ _ _)
      | (with_reducible exact ih2 _ _ _ _ _ _ _ _ _)
      | (with_reducible exact ih3 _ _)
      | (with_reducible exact spec_Keyword.mono _ _)
      | (with_reducible exact spec_TokenOrder.mono _ _ _ _)
      | (with_reducible exact spec_allDigits.mono _ _)
      | (with_reducible exact spec_mavenQualifiers.mono _ _ _)
      | (with_reducible exact spec_orderNumbers.mono _ _ _)
      | (with_reducible exact LeO.refl _)
      | (with_reducible exact LeO.none _)
      | (with_reducible refine LeO.ite ?_ ?_)
      | (with_reducible refine LeO.bind ?_ (fun _ => ?_))
      | exact ih0 _ _ _ _ _ _ _ _ _
      | exact ih1 _ _ _ _ _ _ _ _ _
      | exact ih2 _ _ _ _ _ _ _ _ _
      | exact ih3 _ _
      | exact spec_Keyword.mono _ _
      | exact spec_TokenOrder.mono _ _ _ _
      | exact spec_allDigits.mono _ _
      | exact spec_mavenQualifiers.mono _ _ _
      | exact spec_orderNumbers.mono _ _ _
      | exact LeO.none _
      | refine LeO.ite ?_ ?_
      | refine LeO.bind ?_ (fun _ => ?_)
    · intro y0 y1
      unfold spec_mavenOne.j3
      repeat' first
      | (with_reducible exact ih0 _ _ _ _ _ _ _ _ _)
      | (with_reducible exact ih1 _ _ _ _ _ _ _ _ _)
      | (with_reducible exact ih2 _ _ _ _ _ _ _ _ _)
      | (with_reducible exact ih3 _ _)
      | (with_reducible exact spec_Keyword.mono _ _)
      | (with_reducible exact spec_TokenOrder.mono _ _ _ _)
      | (with_reducible exact spec_allDigits.mono _ _)
      | (with_reducible exact spec_mavenQualifiers.mono _ _ _)
      | (with_reducible exact spec_orderNumbers.mono _ _ _)
      | (with_reducible exact LeO.refl _)
      | (with_reducible exact LeO.none _)
      | (with_reducible refine LeO.ite ?_ ?_)
      | (with_reducible refine LeO.bind ?_ (fun _ => ?_))
      | exact ih0 _ _ _ _ _ _ _ _ _
      | exact ih1 _ _ _ _ _ _ _ _ _
      | exact ih2 _ _ _ _ _ _ _ _ _
      | exact ih3 _ _
      | exact spec_Keyword.mono _ _
      | exact spec_TokenOrder.mono _ _ _ _
      | exact spec_allDigits.mono _ _
      | exact spec_mavenQualifiers.mono _ _ _
      | exact spec_orderNumbers.mono _ _ _
      | exact LeO.none _
      | refine LeO.ite ?_ ?_
      | refine LeO.bind ?_ (fun _ => ?_)
theorem spec_mavenOne.mono : ∀ a0 a1 a2 a3 a4 a5 k, LeO (spec_mavenOne.f k a0 a1 a2 a3 a4 a5) (spec_mavenOne.f (k + 1) a0 a1 a2 a3 a4 a5) := by
  intro a0 a1 a2 a3 a4 a5 k
  obtain ⟨ih0, ih1, ih2, ih3⟩ := spec_mavenOne.mono_l k
  unfold spec_mavenOne.f
  repeat' first
      | (with_reducible exact ih0 _ _ _ _ _ _ _ _ _)
      | (with_reducible exact ih1 _ _ _ _ _ _ _ _ _)
      | (with_reducible exact ih2 _ _ _ _ _ _ _ _ _)
      | (with_reducible exact ih3 _ _)
      | (with_reducible exact spec_Keyword.mono _ _)
      | (with_reducible exact spec_TokenOrder.mono _ _ _ _)
      | (with_reducible exact spec_allDigits.mono _ _)
      | (with_reducible exact spec_mavenQualifiers.mono _ _ _)
      | (with_reducible exact spec_orderNumbers.mono _ _ _)
      | (with_reducible exact LeO.refl _)
      | (with_reducible exact LeO.none _)
      | (with_reducible refine LeO.ite ?_ ?_)
      | (with_reducible refine LeO.bind ?_ (fun _ => ?_))
      | exact ih0 _ _ _ _ _ _ _ _ _
      | exact ih1 _ _ _ _ _ _ _ _ _
      | exact ih2 _ _ _ _ _ _ _ _ _
      | exact ih3 _ _
      | exact spec_Keyword.mono _ _
      | exact spec_TokenOrder.mono _ _ _ _
      | exact spec_allDigits.mono _ _
      | exact spec_mavenQualifiers.mono _ _ _
      | exact spec_orderNumbers.mono _ _ _
      | exact LeO.none _
      | refine LeO.ite ?_ ?_
      | refine LeO.bind ?_ (fun _ => ?_)
set_option maxHeartbeats 8000000 in
set_option maxRecDepth 100000 in
theorem spec_mavenOne.calls (k : Nat) (a0_0 : ByteArray) (a0_1 : ByteArray) (a0_2 : Bool) (a1_0 : ByteArray) (a1_1 : ByteArray) (a1_2 : Bool) (r1 : Int) (r2 : Bool) (w : World) (h : spec_mavenOne.f k a0_0 a0_1 a0_2 a1_0 a1_1 a1_2 = some (r1, r2)) :
    Calls Tryd.prog 24 #[.agg #[.string a0_0, .string a0_1, .bool a0_2], .agg #[.string a1_0, .string a1_1, .bool a1_2]] w fun e w' => e = .returned (.tuple #[.int .i64 r1, .bool r2]) ∧ Below w.heap.size w w' := by
  have hu23 := Tryd.underlying23
  have HB := Aside0.mk (Below.refl w.heap.size w)
  have H : ((spec_allDigits.f k a0_1).bind fun t132 => ((spec_allDigits.f k a1_1).bind fun t133 => (if a0_0.toList = a1_0.toList then (if t132 = true then (spec_mavenOne.j0 k t132 t133 t133 a0_0 a0_1 a0_2 a1_0 a1_1 a1_2) else (spec_mavenOne.j0 k t132 t133 false a0_0 a0_1 a0_2 a1_0 a1_1 a1_2)) else ((spec_TokenOrder.f k a0_0 a0_1 a0_2).bind fun bt134 => ((spec_TokenOrder.f k a1_0 a1_1 a1_2).bind fun bt136 => ((spec_orderInts.f bt134.1 bt136.1).bind fun t138 => (if bt134.2 = true then (some (t138, bt136.2)) else (some (t138, false))))))))) = some (r1, r2) := h
  clear h
  replace H := Option.bind_eq_some_iff.mp H
  obtain ⟨t132, A30, H⟩ := H
  replace H : ((spec_allDigits.f k a1_1).bind fun t133 => (if a0_0.toList = a1_0.toList then (if t132 = true then (spec_mavenOne.j0 k t132 t133 t133 a0_0 a0_1 a0_2 a1_0 a1_1 a1_2) else (spec_mavenOne.j0 k t132 t133 false a0_0 a0_1 a0_2 a1_0 a1_1 a1_2)) else ((spec_TokenOrder.f k a0_0 a0_1 a0_2).bind fun bt134 => ((spec_TokenOrder.f k a1_0 a1_1 a1_2).bind fun bt136 => ((spec_orderInts.f bt134.1 bt136.1).bind fun t138 => (if bt134.2 = true then (some (t138, bt136.2)) else (some (t138, false)))))))) = some (r1, r2) := H
  have A3 := Aside0.mk A30
  clear A30
  replace H := Option.bind_eq_some_iff.mp H
  obtain ⟨t133, A40, H⟩ := H
  replace H : (if a0_0.toList = a1_0.toList then (if t132 = true then (spec_mavenOne.j0 k t132 t133 t133 a0_0 a0_1 a0_2 a1_0 a1_1 a1_2) else (spec_mavenOne.j0 k t132 t133 false a0_0 a0_1 a0_2 a1_0 a1_1 a1_2)) else ((spec_TokenOrder.f k a0_0 a0_1 a0_2).bind fun bt134 => ((spec_TokenOrder.f k a1_0 a1_1 a1_2).bind fun bt136 => ((spec_orderInts.f bt134.1 bt136.1).bind fun t138 => (if bt134.2 = true then (some (t138, bt136.2)) else (some (t138, false))))))) = some (r1, r2) := H
  have A4 := Aside0.mk A40
  clear A40
  by_cases c5 : a0_0.toList = a1_0.toList
  · rw [if_pos c5] at H
    have c5b0 : (a0_0.toList == a1_0.toList) = true := beq_iff_eq.mpr c5
    have c5b1 : (a0_0.toList != a1_0.toList) = false := bne_eq_false_iff_eq.mpr c5
    clear c5
    have HC6 := Aside0.mk H
    clear H
    go_enter Tryd.func24, Tryd.ntmps24
    go_upto_region 6 with (first | ((with_reducible refine gate_dst (N := 2) rfl ?_); refine box_event ?hg (N := 2) ?hd (cs := #[.string a0_0, .string a0_1, .bool a0_2]) (t := 23) ?hr ?_; (case hd => rfl); (case hg => rfl); (case hr => first | (go_simp; done) | (go_simp; rfl)); intro gb130 hg w7 hbox hb; have n0_ := Aside0.mk (below_step (by repeat (first | (with_reducible first | exact HB.out | apply below_alloc | apply pw_below_drewN | apply below_drew1) | exact HB.out)) hb); have n1_ := Aside0.mk (hbox); have n2_ := Aside0.mk ((by rw [hg]; exact (below_size (by repeat (first | (with_reducible first | exact HB.out | apply below_alloc | apply pw_below_drewN | apply below_drew1) | exact HB.out))) : w.heap.size ≤ gb130)); have n3_ := Aside0.mk ((by rw [hg]; exact (below_size (by repeat (first | (with_reducible first | exact HB.out | apply below_alloc | apply pw_below_drewN | apply below_drew1) | exact HB.out))) : w.heap.size ≤ gb130)); clear HB; have HB := n0_; have BK130 := n1_; have GW130 := n2_; have GE130 := n3_; clear n0_ n1_ n2_ n3_; clear hb hbox hg) | ((with_reducible refine gate_dst (N := 3) rfl ?_); refine box_event ?hg (N := 3) ?hd (cs := #[.string a1_0, .string a1_1, .bool a1_2]) (t := 23) ?hr ?_; (case hd => rfl); (case hg => rfl); (case hr => first | (go_simp; done) | (go_simp; rfl)); intro gb131 hg w8 hbox hb; have n0_ := Aside0.mk (blk_below (g := gb130) (o := .cells #[.string a0_0, .string a0_1, .bool a0_2] 23 (0, 0)) (by (with_reducible repeat (first | refine blk_drewN ?_ _ | refine blk_drew ?_ | refine blk_alloc ?_ _)); exact BK130.out) hb); have n1_ := Aside0.mk (below_step (by repeat (first | (with_reducible first | exact HB.out | apply below_alloc | apply pw_below_drewN | apply below_drew1 | refine below_set ?_ GE130.out) | exact HB.out)) hb); have n2_ := Aside0.mk (hbox); have n3_ := Aside0.mk ((by rw [hg]; exact (below_size (by repeat (first | (with_reducible first | exact HB.out | apply below_alloc | apply pw_below_drewN | apply below_drew1 | refine below_set ?_ GE130.out) | exact HB.out))) : w.heap.size ≤ gb131)); have n4_ := Aside0.mk ((by rw [hg]; exact (below_size (by repeat (first | (with_reducible first | exact HB.out | apply below_alloc | apply pw_below_drewN | apply below_drew1 | refine below_set ?_ GE130.out) | exact HB.out))) : w.heap.size ≤ gb131)); have n5_ := Aside0.mk ((by rw [hg]; exact Nat.ne_of_lt (blk_lt (g := gb130) (o := .cells #[.string a0_0, .string a0_1, .bool a0_2] 23 (0, 0)) (by (with_reducible repeat (first | refine blk_drewN ?_ _ | refine blk_drew ?_ | refine blk_alloc ?_ _)); exact BK130.out)) : gb130 ≠ gb131)); have n6_ := Aside0.mk ((by rw [hg]; exact Nat.ne_of_gt (blk_lt (g := gb130) (o := .cells #[.string a0_0, .string a0_1, .bool a0_2] 23 (0, 0)) (by (with_reducible repeat (first | refine blk_drewN ?_ _ | refine blk_drew ?_ | refine blk_alloc ?_ _)); exact BK130.out)) : gb131 ≠ gb130)); clear BK130; clear HB; have BK130 := n0_; have HB := n1_; have BK131 := n2_; have GW131 := n3_; have GE131 := n4_; have NB130_131 := n5_; have NB131_130 := n6_; clear n0_ n1_ n2_ n3_ n4_ n5_ n6_; clear hb hbox hg; have hnb9 := NB130_131.out; have hnc9 := NB131_130.out; have hcz10_0 : w8.cell? ⟨gb130, 0, none⟩ = some (.string a0_0) := (blk_cell BK130.out 0).trans rfl; have hcz10_1 : w8.cell? ⟨gb130, 1, none⟩ = some (.string a0_1) := (blk_cell BK130.out 1).trans rfl; have hcz10_2 : w8.cell? ⟨gb130, 2, none⟩ = some (.bool a0_2) := (blk_cell BK130.out 2).trans rfl; have hfz10_0 := blk_frozen BK130.out 0; have hfz10_1 := blk_frozen BK130.out 1; have hfz10_2 := blk_frozen BK130.out 2) | (go_at_call 21; (with_reducible refine (spec_allDigits.calls k a0_1 t132 _ A3.out).mono ?_); rintro e w' ⟨rfl, ⟨nd, rfl⟩⟩; (try first | exact ⟨rfl, _, World.drewN_drewN _ _ _⟩ | exact ⟨rfl, _, Eq.trans (World.drewN_drewN _ _ _) (congrArg (World.drewN _) (Nat.add_assoc _ _ _))⟩); have hcz11_0 : w8.cell? ⟨gb131, 0, none⟩ = some (.string a1_0) := (blk_cell BK131.out 0).trans rfl; have hcz11_1 : w8.cell? ⟨gb131, 1, none⟩ = some (.string a1_1) := (blk_cell BK131.out 1).trans rfl; have hcz11_2 : w8.cell? ⟨gb131, 2, none⟩ = some (.bool a1_2) := (blk_cell BK131.out 2).trans rfl; have hfz11_0 := blk_frozen BK131.out 0; have hfz11_1 := blk_frozen BK131.out 1; have hfz11_2 := blk_frozen BK131.out 2) | (go_at_call 21; (with_reducible refine (spec_allDigits.calls k a1_1 t133 _ A4.out).mono ?_); rintro e w' ⟨rfl, ⟨nd, rfl⟩⟩; (try first | exact ⟨rfl, _, World.drewN_drewN _ _ _⟩ | exact ⟨rfl, _, Eq.trans (World.drewN_drewN _ _ _) (congrArg (World.drewN _) (Nat.add_assoc _ _ _))⟩)))
    repeat (go_quiet (first | ((with_reducible refine gate_dst (N := 2) rfl ?_); refine box_event ?hg (N := 2) ?hd (cs := #[.string a0_0, .string a0_1, .bool a0_2]) (t := 23) ?hr ?_; (case hd => rfl); (case hg => rfl); (case hr => first | (go_simp; done) | (go_simp; rfl)); intro gb130 hg w7 hbox hb; have n0_ := Aside0.mk (below_step (by repeat (first | (with_reducible first | exact HB.out | apply below_alloc | apply pw_below_drewN | apply below_drew1) | exact HB.out)) hb); have n1_ := Aside0.mk (hbox); have n2_ := Aside0.mk ((by rw [hg]; exact (below_size (by repeat (first | (with_reducible first | exact HB.out | apply below_alloc | apply pw_below_drewN | apply below_drew1) | exact HB.out))) : w.heap.size ≤ gb130)); have n3_ := Aside0.mk ((by rw [hg]; exact (below_size (by repeat (first | (with_reducible first | exact HB.out | apply below_alloc | apply pw_below_drewN | apply below_drew1) | exact HB.out))) : w.heap.size ≤ gb130)); clear HB; have HB := n0_; have BK130 := n1_; have GW130 := n2_; have GE130 := n3_; clear n0_ n1_ n2_ n3_; clear hb hbox hg) | ((with_reducible refine gate_dst (N := 3) rfl ?_); refine box_event ?hg (N := 3) ?hd (cs := #[.string a1_0, .string a1_1, .bool a1_2]) (t := 23) ?hr ?_; (case hd => rfl); (case hg => rfl); (case hr => first | (go_simp; done) | (go_simp; rfl)); intro gb131 hg w8 hbox hb; have n0_ := Aside0.mk (blk_below (g := gb130) (o := .cells #[.string a0_0, .string a0_1, .bool a0_2] 23 (0, 0)) (by (with_reducible repeat (first | refine blk_drewN ?_ _ | refine blk_drew ?_ | refine blk_alloc ?_ _)); exact BK130.out) hb); have n1_ := Aside0.mk (below_step (by repeat (first | (with_reducible first | exact HB.out | apply below_alloc | apply pw_below_drewN | apply below_drew1 | refine below_set ?_ GE130.out) | exact HB.out)) hb); have n2_ := Aside0.mk (hbox); have n3_ := Aside0.mk ((by rw [hg]; exact (below_size (by repeat (first | (with_reducible first | exact HB.out | apply below_alloc | apply pw_below_drewN | apply below_drew1 | refine below_set ?_ GE130.out) | exact HB.out))) : w.heap.size ≤ gb131)); have n4_ := Aside0.mk ((by rw [hg]; exact (below_size (by repeat (first | (with_reducible first | exact HB.out | apply below_alloc | apply pw_below_drewN | apply below_drew1 | refine below_set ?_ GE130.out) | exact HB.out))) : w.heap.size ≤ gb131)); have n5_ := Aside0.mk ((by rw [hg]; exact Nat.ne_of_lt (blk_lt (g := gb130) (o := .cells #[.string a0_0, .string a0_1, .bool a0_2] 23 (0, 0)) (by (with_reducible repeat (first | refine blk_drewN ?_ _ | refine blk_drew ?_ | refine blk_alloc ?_ _)); exact BK130.out)) : gb130 ≠ gb131)); have n6_ := Aside0.mk ((by rw [hg]; exact Nat.ne_of_gt (blk_lt (g := gb130) (o := .cells #[.string a0_0, .string a0_1, .bool a0_2] 23 (0, 0)) (by (with_reducible repeat (first | refine blk_drewN ?_ _ | refine blk_drew ?_ | refine blk_alloc ?_ _)); exact BK130.out)) : gb131 ≠ gb130)); clear BK130; clear HB; have BK130 := n0_; have HB := n1_; have BK131 := n2_; have GW131 := n3_; have GE131 := n4_; have NB130_131 := n5_; have NB131_130 := n6_; clear n0_ n1_ n2_ n3_ n4_ n5_ n6_; clear hb hbox hg; have hnb9 := NB130_131.out; have hnc9 := NB131_130.out; have hcz10_0 : w8.cell? ⟨gb130, 0, none⟩ = some (.string a0_0) := (blk_cell BK130.out 0).trans rfl; have hcz10_1 : w8.cell? ⟨gb130, 1, none⟩ = some (.string a0_1) := (blk_cell BK130.out 1).trans rfl; have hcz10_2 : w8.cell? ⟨gb130, 2, none⟩ = some (.bool a0_2) := (blk_cell BK130.out 2).trans rfl; have hfz10_0 := blk_frozen BK130.out 0; have hfz10_1 := blk_frozen BK130.out 1; have hfz10_2 := blk_frozen BK130.out 2) | (go_at_call 21; (with_reducible refine (spec_allDigits.calls k a0_1 t132 _ A3.out).mono ?_); rintro e w' ⟨rfl, ⟨nd, rfl⟩⟩; (try first | exact ⟨rfl, _, World.drewN_drewN _ _ _⟩ | exact ⟨rfl, _, Eq.trans (World.drewN_drewN _ _ _) (congrArg (World.drewN _) (Nat.add_assoc _ _ _))⟩); have hcz11_0 : w8.cell? ⟨gb131, 0, none⟩ = some (.string a1_0) := (blk_cell BK131.out 0).trans rfl; have hcz11_1 : w8.cell? ⟨gb131, 1, none⟩ = some (.string a1_1) := (blk_cell BK131.out 1).trans rfl; have hcz11_2 : w8.cell? ⟨gb131, 2, none⟩ = some (.bool a1_2) := (blk_cell BK131.out 2).trans rfl; have hfz11_0 := blk_frozen BK131.out 0; have hfz11_1 := blk_frozen BK131.out 1; have hfz11_2 := blk_frozen BK131.out 2) | (go_at_call 21; (with_reducible refine (spec_allDigits.calls k a1_1 t133 _ A4.out).mono ?_); rintro e w' ⟨rfl, ⟨nd, rfl⟩⟩; (try first | exact ⟨rfl, _, World.drewN_drewN _ _ _⟩ | exact ⟨rfl, _, Eq.trans (World.drewN_drewN _ _ _) (congrArg (World.drewN _) (Nat.add_assoc _ _ _))⟩))); go_upto_region 6 with (first | ((with_reducible refine gate_dst (N := 2) rfl ?_); refine box_event ?hg (N := 2) ?hd (cs := #[.string a0_0, .string a0_1, .bool a0_2]) (t := 23) ?hr ?_; (case hd => rfl); (case hg => rfl); (case hr => first | (go_simp; done) | (go_simp; rfl)); intro gb130 hg w7 hbox hb; have n0_ := Aside0.mk (below_step (by repeat (first | (with_reducible first | exact HB.out | apply below_alloc | apply pw_below_drewN | apply below_drew1) | exact HB.out)) hb); have n1_ := Aside0.mk (hbox); have n2_ := Aside0.mk ((by rw [hg]; exact (below_size (by repeat (first | (with_reducible first | exact HB.out | apply below_alloc | apply pw_below_drewN | apply below_drew1) | exact HB.out))) : w.heap.size ≤ gb130)); have n3_ := Aside0.mk ((by rw [hg]; exact (below_size (by repeat (first | (with_reducible first | exact HB.out | apply below_alloc | apply pw_below_drewN | apply below_drew1) | exact HB.out))) : w.heap.size ≤ gb130)); clear HB; have HB := n0_; have BK130 := n1_; have GW130 := n2_; have GE130 := n3_; clear n0_ n1_ n2_ n3_; clear hb hbox hg) | ((with_reducible refine gate_dst (N := 3) rfl ?_); refine box_event ?hg (N := 3) ?hd (cs := #[.string a1_0, .string a1_1, .bool a1_2]) (t := 23) ?hr ?_; (case hd => rfl); (case hg => rfl); (case hr => first | (go_simp; done) | (go_simp; rfl)); intro gb131 hg w8 hbox hb; have n0_ := Aside0.mk (blk_below (g := gb130) (o := .cells #[.string a0_0, .string a0_1, .bool a0_2] 23 (0, 0)) (by (with_reducible repeat (first | refine blk_drewN ?_ _ | refine blk_drew ?_ | refine blk_alloc ?_ _)); exact BK130.out) hb); have n1_ := Aside0.mk (below_step (by repeat (first | (with_reducible first | exact HB.out | apply below_alloc | apply pw_below_drewN | apply below_drew1 | refine below_set ?_ GE130.out) | exact HB.out)) hb); have n2_ := Aside0.mk (hbox); have n3_ := Aside0.mk ((by rw [hg]; exact (below_size (by repeat (first | (with_reducible first | exact HB.out | apply below_alloc | apply pw_below_drewN | apply below_drew1 | refine below_set ?_ GE130.out) | exact HB.out))) : w.heap.size ≤ gb131)); have n4_ := Aside0.mk ((by rw [hg]; exact (below_size (by repeat (first | (with_reducible first | exact HB.out | apply below_alloc | apply pw_below_drewN | apply below_drew1 | refine below_set ?_ GE130.out) | exact HB.out))) : w.heap.size ≤ gb131)); have n5_ := Aside0.mk ((by rw [hg]; exact Nat.ne_of_lt (blk_lt (g := gb130) (o := .cells #[.string a0_0, .string a0_1, .bool a0_2] 23 (0, 0)) (by (with_reducible repeat (first | refine blk_drewN ?_ _ | refine blk_drew ?_ | refine blk_alloc ?_ _)); exact BK130.out)) : gb130 ≠ gb131)); have n6_ := Aside0.mk ((by rw [hg]; exact Nat.ne_of_gt (blk_lt (g := gb130) (o := .cells #[.string a0_0, .string a0_1, .bool a0_2] 23 (0, 0)) (by (with_reducible repeat (first | refine blk_drewN ?_ _ | refine blk_drew ?_ | refine blk_alloc ?_ _)); exact BK130.out)) : gb131 ≠ gb130)); clear BK130; clear HB; have BK130 := n0_; have HB := n1_; have BK131 := n2_; have GW131 := n3_; have GE131 := n4_; have NB130_131 := n5_; have NB131_130 := n6_; clear n0_ n1_ n2_ n3_ n4_ n5_ n6_; clear hb hbox hg; have hnb9 := NB130_131.out; have hnc9 := NB131_130.out; have hcz10_0 : w8.cell? ⟨gb130, 0, none⟩ = some (.string a0_0) := (blk_cell BK130.out 0).trans rfl; have hcz10_1 : w8.cell? ⟨gb130, 1, none⟩ = some (.string a0_1) := (blk_cell BK130.out 1).trans rfl; have hcz10_2 : w8.cell? ⟨gb130, 2, none⟩ = some (.bool a0_2) := (blk_cell BK130.out 2).trans rfl; have hfz10_0 := blk_frozen BK130.out 0; have hfz10_1 := blk_frozen BK130.out 1; have hfz10_2 := blk_frozen BK130.out 2) | (go_at_call 21; (with_reducible refine (spec_allDigits.calls k a0_1 t132 _ A3.out).mono ?_); rintro e w' ⟨rfl, ⟨nd, rfl⟩⟩; (try first | exact ⟨rfl, _, World.drewN_drewN _ _ _⟩ | exact ⟨rfl, _, Eq.trans (World.drewN_drewN _ _ _) (congrArg (World.drewN _) (Nat.add_assoc _ _ _))⟩); have hcz11_0 : w8.cell? ⟨gb131, 0, none⟩ = some (.string a1_0) := (blk_cell BK131.out 0).trans rfl; have hcz11_1 : w8.cell? ⟨gb131, 1, none⟩ = some (.string a1_1) := (blk_cell BK131.out 1).trans rfl; have hcz11_2 : w8.cell? ⟨gb131, 2, none⟩ = some (.bool a1_2) := (blk_cell BK131.out 2).trans rfl; have hfz11_0 := blk_frozen BK131.out 0; have hfz11_1 := blk_frozen BK131.out 1; have hfz11_2 := blk_frozen BK131.out 2) | (go_at_call 21; (with_reducible refine (spec_allDigits.calls k a1_1 t133 _ A4.out).mono ?_); rintro e w' ⟨rfl, ⟨nd, rfl⟩⟩; (try first | exact ⟨rfl, _, World.drewN_drewN _ _ _⟩ | exact ⟨rfl, _, Eq.trans (World.drewN_drewN _ _ _) (congrArg (World.drewN _) (Nat.add_assoc _ _ _))⟩))))
    (try simp only [Act.put, List.setIfInBounds_toArray, List.set_cons_zero, List.set_cons_succ])
    go_cut [40] (fun v40 wc => ∃ (kq : Nat) (x40_5 : Bool), v40 = .bool x40_5 ∧ Aside0 (spec_mavenOne.j0 kq t132 t133 x40_5 a0_0 a0_1 a0_2 a1_0 a1_1 a1_2 = some (r1, r2)) ∧ Aside0 (kq ≤ k) ∧ Aside0 (wc.heap[gb130]? = some (.cells #[.string a0_0, .string a0_1, .bool a0_2] 23 (0, 0))) ∧ Aside0 (wc.heap[gb131]? = some (.cells #[.string a1_0, .string a1_1, .bool a1_2] 23 (0, 0))) ∧ Aside0 (Below w.heap.size w wc))
    case first =>
      have H := HC6.out
      clear HC6
      by_cases c12 : t132 = true
      · subst c12
        have H1 : (spec_mavenOne.j0 k true t133 t133 a0_0 a0_1 a0_2 a1_0 a1_1 a1_2) = some (r1, r2) := by rw [if_pos rfl] at H; exact H
        clear H
        have H := H1
        clear H1
        have H' := Aside0.mk H
        clear H
        go_wp2
        repeat (go_quiet (fail); try go_wp2)
        go_meet
        case rel => exact ⟨_, (t133), (by first | rfl | (simp; done) | (simp [*]; done)), H', ⟨by first | omega | exact Nat.le_refl _⟩, ⟨by (with_reducible repeat (first | refine blk_drewN ?_ _ | refine blk_drew ?_ | refine blk_alloc ?_ _)); exact BK130.out⟩, ⟨by (with_reducible repeat (first | refine blk_drewN ?_ _ | refine blk_drew ?_ | refine blk_alloc ?_ _)); exact BK131.out⟩, ⟨by repeat (first | (with_reducible first | exact HB.out | apply below_alloc | apply pw_below_drewN | apply below_drew1 | refine below_set ?_ GE130.out | refine below_set ?_ GE131.out) | exact HB.out)⟩⟩
      · replace c12 := Bool.eq_false_iff.mpr c12
        subst c12
        have H1 : (spec_mavenOne.j0 k false t133 false a0_0 a0_1 a0_2 a1_0 a1_1 a1_2) = some (r1, r2) := by rw [if_neg (show ¬ (false = true) by decide)] at H; exact H
        clear H
        have H := H1
        clear H1
        have H' := Aside0.mk H
        clear H
        go_wp2
        repeat (go_quiet (fail); try go_wp2)
        go_meet
        case rel => exact ⟨_, (false), (by first | rfl | (simp; done) | (simp [*]; done)), H', ⟨by first | omega | exact Nat.le_refl _⟩, ⟨by (with_reducible repeat (first | refine blk_drewN ?_ _ | refine blk_drew ?_ | refine blk_alloc ?_ _)); exact BK130.out⟩, ⟨by (with_reducible repeat (first | refine blk_drewN ?_ _ | refine blk_drew ?_ | refine blk_alloc ?_ _)); exact BK131.out⟩, ⟨by repeat (first | (with_reducible first | exact HB.out | apply below_alloc | apply pw_below_drewN | apply below_drew1 | refine below_set ?_ GE130.out | refine below_set ?_ GE131.out) | exact HB.out)⟩⟩
    case rest =>
      clear HC6
      try clear c1
      try clear c2
      try clear p2
      try clear c5
      try clear c5b0
      try clear c5b1
      try clear c9
      try clear c12
      try clear hcz10_0
      try clear hcz10_1
      try clear hcz10_2
      try clear hcz11_0
      try clear hcz11_1
      try clear hcz11_2
      try clear hfz10_0
      try clear hfz10_1
      try clear hfz10_2
      try clear hfz11_0
      try clear hfz11_1
      try clear hfz11_2
      obtain ⟨kq, x40_5, rfl, HA, HJ5, BK130, BK131, HB⟩ := hcut
      cases kq with
      | zero => exact absurd HA.out (by simp [spec_mavenOne.j0])
      | succ kj5 =>
        have H := HA.out
        clear HA
        simp only [spec_mavenOne.j0] at H
        by_cases c13 : x40_5 = true
        · subst c13
          have H1 : ((spec_orderNumbers.f kj5 a0_1 a1_1).bind fun t139 => (some (t139, true))) = some (r1, r2) := by rw [if_pos rfl] at H; exact H
          clear H
          have H := H1
          clear H1
          replace H := Option.bind_eq_some_iff.mp H
          obtain ⟨t139, A140, H⟩ := H
          replace H : (some (t139, true)) = some (r1, r2) := H
          have A14 := Aside0.mk A140
          clear A140
          simp only [Option.some.injEq, Prod.mk.injEq] at H
          obtain ⟨rfl, rfl⟩ := H
          have hnb15 := NB130_131.out
          have hnc15 := NB131_130.out
          have hcz16_0 : wc.cell? ⟨gb130, 0, none⟩ = some (.string a0_0) := (blk_cell BK130.out 0).trans rfl
          have hcz16_1 : wc.cell? ⟨gb130, 1, none⟩ = some (.string a0_1) := (blk_cell BK130.out 1).trans rfl
          have hcz16_2 : wc.cell? ⟨gb130, 2, none⟩ = some (.bool a0_2) := (blk_cell BK130.out 2).trans rfl
          have hfz16_0 := blk_frozen BK130.out 0
          have hfz16_1 := blk_frozen BK130.out 1
          have hfz16_2 := blk_frozen BK130.out 2
          have hcz17_0 : wc.cell? ⟨gb131, 0, none⟩ = some (.string a1_0) := (blk_cell BK131.out 0).trans rfl
          have hcz17_1 : wc.cell? ⟨gb131, 1, none⟩ = some (.string a1_1) := (blk_cell BK131.out 1).trans rfl
          have hcz17_2 : wc.cell? ⟨gb131, 2, none⟩ = some (.bool a1_2) := (blk_cell BK131.out 2).trans rfl
          have hfz17_0 := blk_frozen BK131.out 0
          have hfz17_1 := blk_frozen BK131.out 1
          have hfz17_2 := blk_frozen BK131.out 2
          go_wp2_with (first | (go_at_call 38; (with_reducible refine (spec_orderNumbers.calls kj5 a0_1 a1_1 t139 _ A14.out).mono ?_); rintro e w' ⟨rfl, ⟨nd, rfl⟩⟩; (try first | exact ⟨rfl, _, World.drewN_drewN _ _ _⟩ | exact ⟨rfl, _, Eq.trans (World.drewN_drewN _ _ _) (congrArg (World.drewN _) (Nat.add_assoc _ _ _))⟩)))
          repeat (go_quiet (first | (go_at_call 38; (with_reducible refine (spec_orderNumbers.calls kj5 a0_1 a1_1 t139 _ A14.out).mono ?_); rintro e w' ⟨rfl, ⟨nd, rfl⟩⟩; (try first | exact ⟨rfl, _, World.drewN_drewN _ _ _⟩ | exact ⟨rfl, _, Eq.trans (World.drewN_drewN _ _ _) (congrArg (World.drewN _) (Nat.add_assoc _ _ _))⟩))); try go_wp2_with (first | (go_at_call 38; (with_reducible refine (spec_orderNumbers.calls kj5 a0_1 a1_1 t139 _ A14.out).mono ?_); rintro e w' ⟨rfl, ⟨nd, rfl⟩⟩; (try first | exact ⟨rfl, _, World.drewN_drewN _ _ _⟩ | exact ⟨rfl, _, Eq.trans (World.drewN_drewN _ _ _) (congrArg (World.drewN _) (Nat.add_assoc _ _ _))⟩))))
          go_ret2
          exact ⟨by first | rfl | (simp [errW_none, errW_some] <;> rfl) | (simp [*, errW_none, errW_some] <;> rfl), by repeat (first | (with_reducible first | exact HB.out | apply below_alloc | apply pw_below_drewN | apply below_drew1 | refine below_set ?_ GE130.out | refine below_set ?_ GE131.out) | exact HB.out)⟩
        · replace c13 := Bool.eq_false_iff.mpr c13
          subst c13
          have H1 : (if t132 = true then (spec_mavenOne.j1 kj5 t132 t133 false a0_0 a0_1 a0_2 a1_0 a1_1 a1_2) else (spec_mavenOne.j1 kj5 t132 t133 (!t133) a0_0 a0_1 a0_2 a1_0 a1_1 a1_2)) = some (r1, r2) := by rw [if_neg (show ¬ (false = true) by decide)] at H; exact H
          clear H
          have H := H1
          clear H1
          have HC18 := Aside0.mk H
          clear H
          go_upto_region 8 with (fail)
          repeat (go_quiet (fail); go_upto_region 8 with (fail))
          go_cut [50] (fun v50 wc => ∃ (kq : Nat) (x50_17 : Bool), v50 = .bool x50_17 ∧ Aside0 (spec_mavenOne.j1 kq t132 t133 x50_17 a0_0 a0_1 a0_2 a1_0 a1_1 a1_2 = some (r1, r2)) ∧ Aside0 (kq ≤ kj5) ∧ Aside0 (wc.heap[gb130]? = some (.cells #[.string a0_0, .string a0_1, .bool a0_2] 23 (0, 0))) ∧ Aside0 (wc.heap[gb131]? = some (.cells #[.string a1_0, .string a1_1, .bool a1_2] 23 (0, 0))) ∧ Aside0 (Below w.heap.size w wc))
          case first =>
            have H := HC18.out
            clear HC18
            by_cases c19 : t132 = true
            · subst c19
              have H1 : (spec_mavenOne.j1 kj5 true t133 false a0_0 a0_1 a0_2 a1_0 a1_1 a1_2) = some (r1, r2) := by rw [if_pos rfl] at H; exact H
              clear H
              have H := H1
              clear H1
              have H' := Aside0.mk H
              clear H
              go_wp2
              repeat (go_quiet (fail); try go_wp2)
              go_meet
              case rel => exact ⟨_, (false), (by first | rfl | (simp; done) | (simp [*]; done)), H', ⟨by have := HJ5.out; first | omega | exact Nat.le_refl _⟩, ⟨by (with_reducible repeat (first | refine blk_drewN ?_ _ | refine blk_drew ?_ | refine blk_alloc ?_ _)); exact BK130.out⟩, ⟨by (with_reducible repeat (first | refine blk_drewN ?_ _ | refine blk_drew ?_ | refine blk_alloc ?_ _)); exact BK131.out⟩, ⟨by repeat (first | (with_reducible first | exact HB.out | apply below_alloc | apply pw_below_drewN | apply below_drew1 | refine below_set ?_ GE130.out | refine below_set ?_ GE131.out) | exact HB.out)⟩⟩
            · replace c19 := Bool.eq_false_iff.mpr c19
              subst c19
              have H1 : (spec_mavenOne.j1 kj5 false t133 (!t133) a0_0 a0_1 a0_2 a1_0 a1_1 a1_2) = some (r1, r2) := by rw [if_neg (show ¬ (false = true) by decide)] at H; exact H
              clear H
              have H := H1
              clear H1
              have H' := Aside0.mk H
              clear H
              go_wp2
              repeat (go_quiet (fail); try go_wp2)
              go_meet
              case rel => exact ⟨_, (!t133), (by first | rfl | (simp; done) | (simp [*]; done)), H', ⟨by have := HJ5.out; first | omega | exact Nat.le_refl _⟩, ⟨by (with_reducible repeat (first | refine blk_drewN ?_ _ | refine blk_drew ?_ | refine blk_alloc ?_ _)); exact BK130.out⟩, ⟨by (with_reducible repeat (first | refine blk_drewN ?_ _ | refine blk_drew ?_ | refine blk_alloc ?_ _)); exact BK131.out⟩, ⟨by repeat (first | (with_reducible first | exact HB.out | apply below_alloc | apply pw_below_drewN | apply below_drew1 | refine below_set ?_ GE130.out | refine below_set ?_ GE131.out) | exact HB.out)⟩⟩
          case rest =>
            clear HC18
            try clear c1
            try clear c2
            try clear p2
            try clear c5
            try clear c5b0
            try clear c5b1
            try clear c9
            try clear c12
            try clear c13
            try clear c15
            try clear c19
            try clear hcz10_0
            try clear hcz10_1
            try clear hcz10_2
            try clear hcz11_0
            try clear hcz11_1
            try clear hcz11_2
            try clear hcz16_0
            try clear hcz16_1
            try clear hcz16_2
            try clear hcz17_0
            try clear hcz17_1
            try clear hcz17_2
            try clear hfz10_0
            try clear hfz10_1
            try clear hfz10_2
            try clear hfz11_0
            try clear hfz11_1
            try clear hfz11_2
            try clear hfz16_0
            try clear hfz16_1
            try clear hfz16_2
            try clear hfz17_0
            try clear hfz17_1
            try clear hfz17_2
            try clear p2
            obtain ⟨kq, x50_17, rfl, HA, HJ17, BK130, BK131, HB⟩ := hcut
            cases kq with
            | zero => exact absurd HA.out (by simp [spec_mavenOne.j1])
            | succ kj17 =>
              have H := HA.out
              clear HA
              simp only [spec_mavenOne.j1] at H
              by_cases c20 : x50_17 = true
              · subst c20
                have H1 : ((spec_mavenQualifiers.f kj17 a0_1 a1_1).bind fun t140 => (some (t140, true))) = some (r1, r2) := by rw [if_pos rfl] at H; exact H
                clear H
                have H := H1
                clear H1
                replace H := Option.bind_eq_some_iff.mp H
                obtain ⟨t140, A210, H⟩ := H
                replace H : (some (t140, true)) = some (r1, r2) := H
                have A21 := Aside0.mk A210
                clear A210
                simp only [Option.some.injEq, Prod.mk.injEq] at H
                obtain ⟨rfl, rfl⟩ := H
                have hnb22 := NB130_131.out
                have hnc22 := NB131_130.out
                have hcz23_0 : wc.cell? ⟨gb130, 0, none⟩ = some (.string a0_0) := (blk_cell BK130.out 0).trans rfl
                have hcz23_1 : wc.cell? ⟨gb130, 1, none⟩ = some (.string a0_1) := (blk_cell BK130.out 1).trans rfl
                have hcz23_2 : wc.cell? ⟨gb130, 2, none⟩ = some (.bool a0_2) := (blk_cell BK130.out 2).trans rfl
                have hfz23_0 := blk_frozen BK130.out 0
                have hfz23_1 := blk_frozen BK130.out 1
                have hfz23_2 := blk_frozen BK130.out 2
                have hcz24_0 : wc.cell? ⟨gb131, 0, none⟩ = some (.string a1_0) := (blk_cell BK131.out 0).trans rfl
                have hcz24_1 : wc.cell? ⟨gb131, 1, none⟩ = some (.string a1_1) := (blk_cell BK131.out 1).trans rfl
                have hcz24_2 : wc.cell? ⟨gb131, 2, none⟩ = some (.bool a1_2) := (blk_cell BK131.out 2).trans rfl
                have hfz24_0 := blk_frozen BK131.out 0
                have hfz24_1 := blk_frozen BK131.out 1
                have hfz24_2 := blk_frozen BK131.out 2
                go_wp2_with (first | (go_at_call 39; (with_reducible refine (spec_mavenQualifiers.calls kj17 a0_1 a1_1 t140 _ A21.out).mono ?_); rintro e w25 ⟨rfl, hb⟩; have n0_ := Aside0.mk (blk_below (g := gb130) (o := .cells #[.string a0_0, .string a0_1, .bool a0_2] 23 (0, 0)) (by (with_reducible repeat (first | refine blk_drewN ?_ _ | refine blk_drew ?_ | refine blk_alloc ?_ _)); exact BK130.out) hb); have n1_ := Aside0.mk (blk_below (g := gb131) (o := .cells #[.string a1_0, .string a1_1, .bool a1_2] 23 (0, 0)) (by (with_reducible repeat (first | refine blk_drewN ?_ _ | refine blk_drew ?_ | refine blk_alloc ?_ _)); exact BK131.out) hb); have n2_ := Aside0.mk (below_step (by repeat (first | (with_reducible first | exact HB.out | apply below_alloc | apply pw_below_drewN | apply below_drew1 | refine below_set ?_ GE130.out | refine below_set ?_ GE131.out) | exact HB.out)) hb); clear BK130; clear BK131; clear HB; have BK130 := n0_; have BK131 := n1_; have HB := n2_; clear n0_ n1_ n2_; (try clear hb); (try clear hb2); (try clear hk); (try clear hi)))
                repeat (go_quiet (first | (go_at_call 39; (with_reducible refine (spec_mavenQualifiers.calls kj17 a0_1 a1_1 t140 _ A21.out).mono ?_); rintro e w25 ⟨rfl, hb⟩; have n0_ := Aside0.mk (blk_below (g := gb130) (o := .cells #[.string a0_0, .string a0_1, .bool a0_2] 23 (0, 0)) (by (with_reducible repeat (first | refine blk_drewN ?_ _ | refine blk_drew ?_ | refine blk_alloc ?_ _)); exact BK130.out) hb); have n1_ := Aside0.mk (blk_below (g := gb131) (o := .cells #[.string a1_0, .string a1_1, .bool a1_2] 23 (0, 0)) (by (with_reducible repeat (first | refine blk_drewN ?_ _ | refine blk_drew ?_ | refine blk_alloc ?_ _)); exact BK131.out) hb); have n2_ := Aside0.mk (below_step (by repeat (first | (with_reducible first | exact HB.out | apply below_alloc | apply pw_below_drewN | apply below_drew1 | refine below_set ?_ GE130.out | refine below_set ?_ GE131.out) | exact HB.out)) hb); clear BK130; clear BK131; clear HB; have BK130 := n0_; have BK131 := n1_; have HB := n2_; clear n0_ n1_ n2_; (try clear hb); (try clear hb2); (try clear hk); (try clear hi))); try go_wp2_with (first | (go_at_call 39; (with_reducible refine (spec_mavenQualifiers.calls kj17 a0_1 a1_1 t140 _ A21.out).mono ?_); rintro e w25 ⟨rfl, hb⟩; have n0_ := Aside0.mk (blk_below (g := gb130) (o := .cells #[.string a0_0, .string a0_1, .bool a0_2] 23 (0, 0)) (by (with_reducible repeat (first | refine blk_drewN ?_ _ | refine blk_drew ?_ | refine blk_alloc ?_ _)); exact BK130.out) hb); have n1_ := Aside0.mk (blk_below (g := gb131) (o := .cells #[.string a1_0, .string a1_1, .bool a1_2] 23 (0, 0)) (by (with_reducible repeat (first | refine blk_drewN ?_ _ | refine blk_drew ?_ | refine blk_alloc ?_ _)); exact BK131.out) hb); have n2_ := Aside0.mk (below_step (by repeat (first | (with_reducible first | exact HB.out | apply below_alloc | apply pw_below_drewN | apply below_drew1 | refine below_set ?_ GE130.out | refine below_set ?_ GE131.out) | exact HB.out)) hb); clear BK130; clear BK131; clear HB; have BK130 := n0_; have BK131 := n1_; have HB := n2_; clear n0_ n1_ n2_; (try clear hb); (try clear hb2); (try clear hk); (try clear hi))))
                go_ret2
                exact ⟨by first | rfl | (simp [errW_none, errW_some] <;> rfl) | (simp [*, errW_none, errW_some] <;> rfl), by repeat (first | (with_reducible first | exact HB.out | apply below_alloc | apply pw_below_drewN | apply below_drew1 | refine below_set ?_ GE130.out | refine below_set ?_ GE131.out) | exact HB.out)⟩
              · replace c20 := Bool.eq_false_iff.mpr c20
                subst c20
                have H1 : (if t132 = true then (if a0_2 = true then ((spec_Keyword.f kj17 a1_1).bind fun t141 => ((spec_Keyword.f kj17 (⟨#[115, 112]⟩ : ByteArray)).bind fun t142 => (spec_mavenOne.j2 kj17 t132 t133 (decide (t141 > t142)) a0_0 a0_1 a0_2 a1_0 a1_1 a1_2))) else (spec_mavenOne.j2 kj17 t132 t133 false a0_0 a0_1 a0_2 a1_0 a1_1 a1_2)) else (spec_mavenOne.j2 kj17 t132 t133 false a0_0 a0_1 a0_2 a1_0 a1_1 a1_2)) = some (r1, r2) := by rw [if_neg (show ¬ (false = true) by decide)] at H; exact H
                clear H
                have H := H1
                clear H1
                have HC26 := Aside0.mk H
                clear H
                go_upto_region 10 with (fail)
                repeat (go_quiet (fail); go_upto_region 10 with (fail))
                go_cut [62] (fun v62 wc => ∃ (kq : Nat) (x62_25 : Bool), v62 = .bool x62_25 ∧ Aside0 (spec_mavenOne.j2 kq t132 t133 x62_25 a0_0 a0_1 a0_2 a1_0 a1_1 a1_2 = some (r1, r2)) ∧ Aside0 (kq ≤ kj17) ∧ Aside0 (wc.heap[gb130]? = some (.cells #[.string a0_0, .string a0_1, .bool a0_2] 23 (0, 0))) ∧ Aside0 (wc.heap[gb131]? = some (.cells #[.string a1_0, .string a1_1, .bool a1_2] 23 (0, 0))) ∧ Aside0 (Below w.heap.size w wc))
                case first =>
                  have H := HC26.out
                  clear HC26
                  by_cases c27 : t132 = true
                  · subst c27
                    have H1 : (if a0_2 = true then ((spec_Keyword.f kj17 a1_1).bind fun t141 => ((spec_Keyword.f kj17 (⟨#[115, 112]⟩ : ByteArray)).bind fun t142 => (spec_mavenOne.j2 kj17 true t133 (decide (t141 > t142)) a0_0 a0_1 a0_2 a1_0 a1_1 a1_2))) else (spec_mavenOne.j2 kj17 true t133 false a0_0 a0_1 a0_2 a1_0 a1_1 a1_2)) = some (r1, r2) := by rw [if_pos rfl] at H; exact H
                    clear H
                    have H := H1
                    clear H1
                    by_cases c28 : a0_2 = true
                    · subst c28
                      have H1 : ((spec_Keyword.f kj17 a1_1).bind fun t141 => ((spec_Keyword.f kj17 (⟨#[115, 112]⟩ : ByteArray)).bind fun t142 => (spec_mavenOne.j2 kj17 true t133 (decide (t141 > t142)) a0_0 a0_1 true a1_0 a1_1 a1_2))) = some (r1, r2) := by rw [if_pos rfl] at H; exact H
                      clear H
                      have H := H1
                      clear H1
                      replace H := Option.bind_eq_some_iff.mp H
                      obtain ⟨t141, A290, H⟩ := H
                      replace H : ((spec_Keyword.f kj17 (⟨#[115, 112]⟩ : ByteArray)).bind fun t142 => (spec_mavenOne.j2 kj17 true t133 (decide (t141 > t142)) a0_0 a0_1 true a1_0 a1_1 a1_2)) = some (r1, r2) := H
                      have A29 := Aside0.mk A290
                      clear A290
                      replace H := Option.bind_eq_some_iff.mp H
                      obtain ⟨t142, A300, H⟩ := H
                      replace H : (spec_mavenOne.j2 kj17 true t133 (decide (t141 > t142)) a0_0 a0_1 true a1_0 a1_1 a1_2) = some (r1, r2) := H
                      have A30 := Aside0.mk A300
                      clear A300
                      have H' := Aside0.mk H
                      clear H
                      have hnb31 := NB130_131.out
                      have hnc31 := NB131_130.out
                      have hcz32_0 : wc.cell? ⟨gb130, 0, none⟩ = some (.string a0_0) := (blk_cell BK130.out 0).trans rfl
                      have hcz32_1 : wc.cell? ⟨gb130, 1, none⟩ = some (.string a0_1) := (blk_cell BK130.out 1).trans rfl
                      have hcz32_2 : wc.cell? ⟨gb130, 2, none⟩ = some (.bool true) := (blk_cell BK130.out 2).trans rfl
                      have hfz32_0 := blk_frozen BK130.out 0
                      have hfz32_1 := blk_frozen BK130.out 1
                      have hfz32_2 := blk_frozen BK130.out 2
                      have hcz33_0 : wc.cell? ⟨gb131, 0, none⟩ = some (.string a1_0) := (blk_cell BK131.out 0).trans rfl
                      have hcz33_1 : wc.cell? ⟨gb131, 1, none⟩ = some (.string a1_1) := (blk_cell BK131.out 1).trans rfl
                      have hcz33_2 : wc.cell? ⟨gb131, 2, none⟩ = some (.bool a1_2) := (blk_cell BK131.out 2).trans rfl
                      have hfz33_0 := blk_frozen BK131.out 0
                      have hfz33_1 := blk_frozen BK131.out 1
                      have hfz33_2 := blk_frozen BK131.out 2
                      go_wp2_with (first | (go_at_call 40; (with_reducible refine (spec_Keyword.calls kj17 a1_1 t141 _ A29.out).mono ?_); rintro e w34 ⟨rfl, hb⟩; have n0_ := Aside0.mk (blk_below (g := gb130) (o := .cells #[.string a0_0, .string a0_1, .bool true] 23 (0, 0)) (by (with_reducible repeat (first | refine blk_drewN ?_ _ | refine blk_drew ?_ | refine blk_alloc ?_ _)); exact BK130.out) hb); have n1_ := Aside0.mk (blk_below (g := gb131) (o := .cells #[.string a1_0, .string a1_1, .bool a1_2] 23 (0, 0)) (by (with_reducible repeat (first | refine blk_drewN ?_ _ | refine blk_drew ?_ | refine blk_alloc ?_ _)); exact BK131.out) hb); have n2_ := Aside0.mk (below_step (by repeat (first | (with_reducible first | exact HB.out | apply below_alloc | apply pw_below_drewN | apply below_drew1 | refine below_set ?_ GE130.out | refine below_set ?_ GE131.out) | exact HB.out)) hb); clear BK130; clear BK131; clear HB; have BK130 := n0_; have BK131 := n1_; have HB := n2_; clear n0_ n1_ n2_; (try clear hb); (try clear hb2); (try clear hk); (try clear hi)) | (go_at_call 40; (with_reducible refine (spec_Keyword.calls kj17 (⟨#[115, 112]⟩ : ByteArray) t142 _ A30.out).mono ?_); rintro e w35 ⟨rfl, hb⟩; have n0_ := Aside0.mk (blk_below (g := gb130) (o := .cells #[.string a0_0, .string a0_1, .bool true] 23 (0, 0)) (by (with_reducible repeat (first | refine blk_drewN ?_ _ | refine blk_drew ?_ | refine blk_alloc ?_ _)); exact BK130.out) hb); have n1_ := Aside0.mk (blk_below (g := gb131) (o := .cells #[.string a1_0, .string a1_1, .bool a1_2] 23 (0, 0)) (by (with_reducible repeat (first | refine blk_drewN ?_ _ | refine blk_drew ?_ | refine blk_alloc ?_ _)); exact BK131.out) hb); have n2_ := Aside0.mk (below_step (by repeat (first | (with_reducible first | exact HB.out | apply below_alloc | apply pw_below_drewN | apply below_drew1 | refine below_set ?_ GE130.out | refine below_set ?_ GE131.out) | exact HB.out)) hb); clear BK130; clear BK131; clear HB; have BK130 := n0_; have BK131 := n1_; have HB := n2_; clear n0_ n1_ n2_; (try clear hb); (try clear hb2); (try clear hk); (try clear hi)))
                      repeat (go_quiet (first | (go_at_call 40; (with_reducible refine (spec_Keyword.calls kj17 a1_1 t141 _ A29.out).mono ?_); rintro e w34 ⟨rfl, hb⟩; have n0_ := Aside0.mk (blk_below (g := gb130) (o := .cells #[.string a0_0, .string a0_1, .bool true] 23 (0, 0)) (by (with_reducible repeat (first | refine blk_drewN ?_ _ | refine blk_drew ?_ | refine blk_alloc ?_ _)); exact BK130.out) hb); have n1_ := Aside0.mk (blk_below (g := gb131) (o := .cells #[.string a1_0, .string a1_1, .bool a1_2] 23 (0, 0)) (by (with_reducible repeat (first | refine blk_drewN ?_ _ | refine blk_drew ?_ | refine blk_alloc ?_ _)); exact BK131.out) hb); have n2_ := Aside0.mk (below_step (by repeat (first | (with_reducible first | exact HB.out | apply below_alloc | apply pw_below_drewN | apply below_drew1 | refine below_set ?_ GE130.out | refine below_set ?_ GE131.out) | exact HB.out)) hb); clear BK130; clear BK131; clear HB; have BK130 := n0_; have BK131 := n1_; have HB := n2_; clear n0_ n1_ n2_; (try clear hb); (try clear hb2); (try clear hk); (try clear hi)) | (go_at_call 40; (with_reducible refine (spec_Keyword.calls kj17 (⟨#[115, 112]⟩ : ByteArray) t142 _ A30.out).mono ?_); rintro e w35 ⟨rfl, hb⟩; have n0_ := Aside0.mk (blk_below (g := gb130) (o := .cells #[.string a0_0, .string a0_1, .bool true] 23 (0, 0)) (by (with_reducible repeat (first | refine blk_drewN ?_ _ | refine blk_drew ?_ | refine blk_alloc ?_ _)); exact BK130.out) hb); have n1_ := Aside0.mk (blk_below (g := gb131) (o := .cells #[.string a1_0, .string a1_1, .bool a1_2] 23 (0, 0)) (by (with_reducible repeat (first | refine blk_drewN ?_ _ | refine blk_drew ?_ | refine blk_alloc ?_ _)); exact BK131.out) hb); have n2_ := Aside0.mk (below_step (by repeat (first | (with_reducible first | exact HB.out | apply below_alloc | apply pw_below_drewN | apply below_drew1 | refine below_set ?_ GE130.out | refine below_set ?_ GE131.out) | exact HB.out)) hb); clear BK130; clear BK131; clear HB; have BK130 := n0_; have BK131 := n1_; have HB := n2_; clear n0_ n1_ n2_; (try clear hb); (try clear hb2); (try clear hk); (try clear hi))); try go_wp2_with (first | (go_at_call 40; (with_reducible refine (spec_Keyword.calls kj17 a1_1 t141 _ A29.out).mono ?_); rintro e w34 ⟨rfl, hb⟩; have n0_ := Aside0.mk (blk_below (g := gb130) (o := .cells #[.string a0_0, .string a0_1, .bool true] 23 (0, 0)) (by (with_reducible repeat (first | refine blk_drewN ?_ _ | refine blk_drew ?_ | refine blk_alloc ?_ _)); exact BK130.out) hb); have n1_ := Aside0.mk (blk_below (g := gb131) (o := .cells #[.string a1_0, .string a1_1, .bool a1_2] 23 (0, 0)) (by (with_reducible repeat (first | refine blk_drewN ?_ _ | refine blk_drew ?_ | refine blk_alloc ?_ _)); exact BK131.out) hb); have n2_ := Aside0.mk (below_step (by repeat (first | (with_reducible first | exact HB.out | apply below_alloc | apply pw_below_drewN | apply below_drew1 | refine below_set ?_ GE130.out | refine below_set ?_ GE131.out) | exact HB.out)) hb); clear BK130; clear BK131; clear HB; have BK130 := n0_; have BK131 := n1_; have HB := n2_; clear n0_ n1_ n2_; (try clear hb); (try clear hb2); (try clear hk); (try clear hi)) | (go_at_call 40; (with_reducible refine (spec_Keyword.calls kj17 (⟨#[115, 112]⟩ : ByteArray) t142 _ A30.out).mono ?_); rintro e w35 ⟨rfl, hb⟩; have n0_ := Aside0.mk (blk_below (g := gb130) (o := .cells #[.string a0_0, .string a0_1, .bool true] 23 (0, 0)) (by (with_reducible repeat (first | refine blk_drewN ?_ _ | refine blk_drew ?_ | refine blk_alloc ?_ _)); exact BK130.out) hb); have n1_ := Aside0.mk (blk_below (g := gb131) (o := .cells #[.string a1_0, .string a1_1, .bool a1_2] 23 (0, 0)) (by (with_reducible repeat (first | refine blk_drewN ?_ _ | refine blk_drew ?_ | refine blk_alloc ?_ _)); exact BK131.out) hb); have n2_ := Aside0.mk (below_step (by repeat (first | (with_reducible first | exact HB.out | apply below_alloc | apply pw_below_drewN | apply below_drew1 | refine below_set ?_ GE130.out | refine below_set ?_ GE131.out) | exact HB.out)) hb); clear BK130; clear BK131; clear HB; have BK130 := n0_; have BK131 := n1_; have HB := n2_; clear n0_ n1_ n2_; (try clear hb); (try clear hb2); (try clear hk); (try clear hi))))
                      go_meet
                      case rel => exact ⟨_, (decide (t141 > t142)), (by first | rfl | (simp; done) | (simp [*]; done)), H', ⟨by have := HJ5.out; have := HJ17.out; first | omega | exact Nat.le_refl _⟩, ⟨by (with_reducible repeat (first | refine blk_drewN ?_ _ | refine blk_drew ?_ | refine blk_alloc ?_ _)); exact BK130.out⟩, ⟨by (with_reducible repeat (first | refine blk_drewN ?_ _ | refine blk_drew ?_ | refine blk_alloc ?_ _)); exact BK131.out⟩, ⟨by repeat (first | (with_reducible first | exact HB.out | apply below_alloc | apply pw_below_drewN | apply below_drew1 | refine below_set ?_ GE130.out | refine below_set ?_ GE131.out) | exact HB.out)⟩⟩
                    · replace c28 := Bool.eq_false_iff.mpr c28
                      subst c28
                      have H1 : (spec_mavenOne.j2 kj17 true t133 false a0_0 a0_1 false a1_0 a1_1 a1_2) = some (r1, r2) := by rw [if_neg (show ¬ (false = true) by decide)] at H; exact H
                      clear H
                      have H := H1
                      clear H1
                      have H' := Aside0.mk H
                      clear H
                      have hnb36 := NB130_131.out
                      have hnc36 := NB131_130.out
                      have hcz37_0 : wc.cell? ⟨gb130, 0, none⟩ = some (.string a0_0) := (blk_cell BK130.out 0).trans rfl
                      have hcz37_1 : wc.cell? ⟨gb130, 1, none⟩ = some (.string a0_1) := (blk_cell BK130.out 1).trans rfl
                      have hcz37_2 : wc.cell? ⟨gb130, 2, none⟩ = some (.bool false) := (blk_cell BK130.out 2).trans rfl
                      have hfz37_0 := blk_frozen BK130.out 0
                      have hfz37_1 := blk_frozen BK130.out 1
                      have hfz37_2 := blk_frozen BK130.out 2
                      go_wp2
                      repeat (go_quiet (fail); try go_wp2)
                      go_meet
                      case rel => exact ⟨_, (false), (by first | rfl | (simp; done) | (simp [*]; done)), H', ⟨by have := HJ5.out; have := HJ17.out; first | omega | exact Nat.le_refl _⟩, ⟨by (with_reducible repeat (first | refine blk_drewN ?_ _ | refine blk_drew ?_ | refine blk_alloc ?_ _)); exact BK130.out⟩, ⟨by (with_reducible repeat (first | refine blk_drewN ?_ _ | refine blk_drew ?_ | refine blk_alloc ?_ _)); exact BK131.out⟩, ⟨by repeat (first | (with_reducible first | exact HB.out | apply below_alloc | apply pw_below_drewN | apply below_drew1 | refine below_set ?_ GE130.out | refine below_set ?_ GE131.out) | exact HB.out)⟩⟩
                  · replace c27 := Bool.eq_false_iff.mpr c27
                    subst c27
                    have H1 : (spec_mavenOne.j2 kj17 false t133 false a0_0 a0_1 a0_2 a1_0 a1_1 a1_2) = some (r1, r2) := by rw [if_neg (show ¬ (false = true) by decide)] at H; exact H
                    clear H
                    have H := H1
                    clear H1
                    have H' := Aside0.mk H
                    clear H
                    go_wp2
                    repeat (go_quiet (fail); try go_wp2)
                    go_meet
                    case rel => exact ⟨_, (false), (by first | rfl | (simp; done) | (simp [*]; done)), H', ⟨by have := HJ5.out; have := HJ17.out; first | omega | exact Nat.le_refl _⟩, ⟨by (with_reducible repeat (first | refine blk_drewN ?_ _ | refine blk_drew ?_ | refine blk_alloc ?_ _)); exact BK130.out⟩, ⟨by (with_reducible repeat (first | refine blk_drewN ?_ _ | refine blk_drew ?_ | refine blk_alloc ?_ _)); exact BK131.out⟩, ⟨by repeat (first | (with_reducible first | exact HB.out | apply below_alloc | apply pw_below_drewN | apply below_drew1 | refine below_set ?_ GE130.out | refine below_set ?_ GE131.out) | exact HB.out)⟩⟩
                case rest =>
                  clear HC26
                  try clear c1
                  try clear c2
                  try clear p2
                  try clear c3
                  try clear c5
                  try clear c5b0
                  try clear c5b1
                  try clear c9
                  try clear c12
                  try clear c13
                  try clear c15
                  try clear c19
                  try clear c20
                  try clear c22
                  try clear c24
                  try clear c27
                  try clear c28
                  try clear c31
                  try clear c36
                  try clear hcz10_0
                  try clear hcz10_1
                  try clear hcz10_2
                  try clear hcz11_0
                  try clear hcz11_1
                  try clear hcz11_2
                  try clear hcz16_0
                  try clear hcz16_1
                  try clear hcz16_2
                  try clear hcz17_0
                  try clear hcz17_1
                  try clear hcz17_2
                  try clear hcz23_0
                  try clear hcz23_1
                  try clear hcz23_2
                  try clear hcz24_0
                  try clear hcz24_1
                  try clear hcz24_2
                  try clear hcz32_0
                  try clear hcz32_1
                  try clear hcz32_2
                  try clear hcz33_0
                  try clear hcz33_1
                  try clear hcz33_2
                  try clear hcz37_0
                  try clear hcz37_1
                  try clear hcz37_2
                  try clear hfz10_0
                  try clear hfz10_1
                  try clear hfz10_2
                  try clear hfz11_0
                  try clear hfz11_1
                  try clear hfz11_2
                  try clear hfz16_0
                  try clear hfz16_1
                  try clear hfz16_2
                  try clear hfz17_0
                  try clear hfz17_1
                  try clear hfz17_2
                  try clear hfz23_0
                  try clear hfz23_1
                  try clear hfz23_2
                  try clear hfz24_0
                  try clear hfz24_1
                  try clear hfz24_2
                  try clear hfz32_0
                  try clear hfz32_1
                  try clear hfz32_2
                  try clear hfz33_0
                  try clear hfz33_1
                  try clear hfz33_2
                  try clear hfz37_0
                  try clear hfz37_1
                  try clear hfz37_2
                  try clear p2
                  obtain ⟨kq, x62_25, rfl, HA, HJ25, BK130, BK131, HB⟩ := hcut
                  cases kq with
                  | zero => exact absurd HA.out (by simp [spec_mavenOne.j2])
                  | succ kj25 =>
                    have H := HA.out
                    clear HA
                    simp only [spec_mavenOne.j2] at H
                    by_cases c38 : x62_25 = true
                    · subst c38
                      have H1 : (some ((-1), true)) = some (r1, r2) := by rw [if_pos rfl] at H; exact H
                      clear H
                      have H := H1
                      clear H1
                      simp only [Option.some.injEq, Prod.mk.injEq] at H
                      obtain ⟨rfl, rfl⟩ := H
                      go_wp2
                      repeat (go_quiet (fail); try go_wp2)
                      go_ret2
                      exact ⟨by first | rfl | (simp [errW_none, errW_some] <;> rfl) | (simp [*, errW_none, errW_some] <;> rfl), by repeat (first | (with_reducible first | exact HB.out | apply below_alloc | apply pw_below_drewN | apply below_drew1 | refine below_set ?_ GE130.out | refine below_set ?_ GE131.out) | exact HB.out)⟩
                    · replace c38 := Bool.eq_false_iff.mpr c38
                      subst c38
                      have H1 : (if t133 = true then (if a1_2 = true then ((spec_Keyword.f kj25 a0_1).bind fun t143 => ((spec_Keyword.f kj25 (⟨#[115, 112]⟩ : ByteArray)).bind fun t144 => (spec_mavenOne.j3 kj25 t132 (decide (t143 > t144))))) else (spec_mavenOne.j3 kj25 t132 false)) else (spec_mavenOne.j3 kj25 t132 false)) = some (r1, r2) := by rw [if_neg (show ¬ (false = true) by decide)] at H; exact H
                      clear H
                      have H := H1
                      clear H1
                      have HC39 := Aside0.mk H
                      clear H
                      go_upto_region 12 with (fail)
                      repeat (go_quiet (fail); go_upto_region 12 with (fail))
                      go_cut [75] (fun v75 wc => ∃ (kq : Nat) (x75_38 : Bool), v75 = .bool x75_38 ∧ Aside0 (spec_mavenOne.j3 kq t132 x75_38 = some (r1, r2)) ∧ Aside0 (kq ≤ kj25) ∧ Aside0 (wc.heap[gb130]? = some (.cells #[.string a0_0, .string a0_1, .bool a0_2] 23 (0, 0))) ∧ Aside0 (wc.heap[gb131]? = some (.cells #[.string a1_0, .string a1_1, .bool a1_2] 23 (0, 0))) ∧ Aside0 (Below w.heap.size w wc))
                      case first =>
                        have H := HC39.out
                        clear HC39
                        by_cases c40 : t133 = true
                        · subst c40
                          have H1 : (if a1_2 = true then ((spec_Keyword.f kj25 a0_1).bind fun t143 => ((spec_Keyword.f kj25 (⟨#[115, 112]⟩ : ByteArray)).bind fun t144 => (spec_mavenOne.j3 kj25 t132 (decide (t143 > t144))))) else (spec_mavenOne.j3 kj25 t132 false)) = some (r1, r2) := by rw [if_pos rfl] at H; exact H
                          clear H
                          have H := H1
                          clear H1
                          by_cases c41 : a1_2 = true
                          · subst c41
                            have H1 : ((spec_Keyword.f kj25 a0_1).bind fun t143 => ((spec_Keyword.f kj25 (⟨#[115, 112]⟩ : ByteArray)).bind fun t144 => (spec_mavenOne.j3 kj25 t132 (decide (t143 > t144))))) = some (r1, r2) := by rw [if_pos rfl] at H; exact H
                            clear H
                            have H := H1
                            clear H1
                            replace H := Option.bind_eq_some_iff.mp H
                            obtain ⟨t143, A420, H⟩ := H
                            replace H : ((spec_Keyword.f kj25 (⟨#[115, 112]⟩ : ByteArray)).bind fun t144 => (spec_mavenOne.j3 kj25 t132 (decide (t143 > t144)))) = some (r1, r2) := H
                            have A42 := Aside0.mk A420
                            clear A420
                            replace H := Option.bind_eq_some_iff.mp H
                            obtain ⟨t144, A430, H⟩ := H
                            replace H : (spec_mavenOne.j3 kj25 t132 (decide (t143 > t144))) = some (r1, r2) := H
                            have A43 := Aside0.mk A430
                            clear A430
                            have H' := Aside0.mk H
                            clear H
                            have hnb44 := NB131_130.out
                            have hnc44 := NB130_131.out
                            have hcz45_0 : wc.cell? ⟨gb131, 0, none⟩ = some (.string a1_0) := (blk_cell BK131.out 0).trans rfl
                            have hcz45_1 : wc.cell? ⟨gb131, 1, none⟩ = some (.string a1_1) := (blk_cell BK131.out 1).trans rfl
                            have hcz45_2 : wc.cell? ⟨gb131, 2, none⟩ = some (.bool true) := (blk_cell BK131.out 2).trans rfl
                            have hfz45_0 := blk_frozen BK131.out 0
                            have hfz45_1 := blk_frozen BK131.out 1
                            have hfz45_2 := blk_frozen BK131.out 2
                            have hcz46_0 : wc.cell? ⟨gb130, 0, none⟩ = some (.string a0_0) := (blk_cell BK130.out 0).trans rfl
                            have hcz46_1 : wc.cell? ⟨gb130, 1, none⟩ = some (.string a0_1) := (blk_cell BK130.out 1).trans rfl
                            have hcz46_2 : wc.cell? ⟨gb130, 2, none⟩ = some (.bool a0_2) := (blk_cell BK130.out 2).trans rfl
                            have hfz46_0 := blk_frozen BK130.out 0
                            have hfz46_1 := blk_frozen BK130.out 1
                            have hfz46_2 := blk_frozen BK130.out 2
                            go_wp2_with (first | (go_at_call 40; (with_reducible refine (spec_Keyword.calls kj25 a0_1 t143 _ A42.out).mono ?_); rintro e w47 ⟨rfl, hb⟩; have n0_ := Aside0.mk (blk_below (g := gb130) (o := .cells #[.string a0_0, .string a0_1, .bool a0_2] 23 (0, 0)) (by (with_reducible repeat (first | refine blk_drewN ?_ _ | refine blk_drew ?_ | refine blk_alloc ?_ _)); exact BK130.out) hb); have n1_ := Aside0.mk (blk_below (g := gb131) (o := .cells #[.string a1_0, .string a1_1, .bool true] 23 (0, 0)) (by (with_reducible repeat (first | refine blk_drewN ?_ _ | refine blk_drew ?_ | refine blk_alloc ?_ _)); exact BK131.out) hb); have n2_ := Aside0.mk (below_step (by repeat (first | (with_reducible first | exact HB.out | apply below_alloc | apply pw_below_drewN | apply below_drew1 | refine below_set ?_ GE130.out | refine below_set ?_ GE131.out) | exact HB.out)) hb); clear BK130; clear BK131; clear HB; have BK130 := n0_; have BK131 := n1_; have HB := n2_; clear n0_ n1_ n2_; (try clear hb); (try clear hb2); (try clear hk); (try clear hi)) | (go_at_call 40; (with_reducible refine (spec_Keyword.calls kj25 (⟨#[115, 112]⟩ : ByteArray) t144 _ A43.out).mono ?_); rintro e w48 ⟨rfl, hb⟩; have n0_ := Aside0.mk (blk_below (g := gb130) (o := .cells #[.string a0_0, .string a0_1, .bool a0_2] 23 (0, 0)) (by (with_reducible repeat (first | refine blk_drewN ?_ _ | refine blk_drew ?_ | refine blk_alloc ?_ _)); exact BK130.out) hb); have n1_ := Aside0.mk (blk_below (g := gb131) (o := .cells #[.string a1_0, .string a1_1, .bool true] 23 (0, 0)) (by (with_reducible repeat (first | refine blk_drewN ?_ _ | refine blk_drew ?_ | refine blk_alloc ?_ _)); exact BK131.out) hb); have n2_ := Aside0.mk (below_step (by repeat (first | (with_reducible first | exact HB.out | apply below_alloc | apply pw_below_drewN | apply below_drew1 | refine below_set ?_ GE130.out | refine below_set ?_ GE131.out) | exact HB.out)) hb); clear BK130; clear BK131; clear HB; have BK130 := n0_; have BK131 := n1_; have HB := n2_; clear n0_ n1_ n2_; (try clear hb); (try clear hb2); (try clear hk); (try clear hi)))
                            repeat (go_quiet (first | (go_at_call 40; (with_reducible refine (spec_Keyword.calls kj25 a0_1 t143 _ A42.out).mono ?_); rintro e w47 ⟨rfl, hb⟩; have n0_ := Aside0.mk (blk_below (g := gb130) (o := .cells #[.string a0_0, .string a0_1, .bool a0_2] 23 (0, 0)) (by (with_reducible repeat (first | refine blk_drewN ?_ _ | refine blk_drew ?_ | refine blk_alloc ?_ _)); exact BK130.out) hb); have n1_ := Aside0.mk (blk_below (g := gb131) (o := .cells #[.string a1_0, .string a1_1, .bool true] 23 (0, 0)) (by (with_reducible repeat (first | refine blk_drewN ?_ _ | refine blk_drew ?_ | refine blk_alloc ?_ _)); exact BK131.out) hb); have n2_ := Aside0.mk (below_step (by repeat (first | (with_reducible first | exact HB.out | apply below_alloc | apply pw_below_drewN | apply below_drew1 | refine below_set ?_ GE130.out | refine below_set ?_ GE131.out) | exact HB.out)) hb); clear BK130; clear BK131; clear HB; have BK130 := n0_; have BK131 := n1_; have HB := n2_; clear n0_ n1_ n2_; (try clear hb); (try clear hb2); (try clear hk); (try clear hi)) | (go_at_call 40; (with_reducible refine (spec_Keyword.calls kj25 (⟨#[115, 112]⟩ : ByteArray) t144 _ A43.out).mono ?_); rintro e w48 ⟨rfl, hb⟩; have n0_ := Aside0.mk (blk_below (g := gb130) (o := .cells #[.string a0_0, .string a0_1, .bool a0_2] 23 (0, 0)) (by (with_reducible repeat (first | refine blk_drewN ?_ _ | refine blk_drew ?_ | refine blk_alloc ?_ _)); exact BK130.out) hb); have n1_ := Aside0.mk (blk_below (g := gb131) (o := .cells #[.string a1_0, .string a1_1, .bool true] 23 (0, 0)) (by (with_reducible repeat (first | refine blk_drewN ?_ _ | refine blk_drew ?_ | refine blk_alloc ?_ _)); exact BK131.out) hb); have n2_ := Aside0.mk (below_step (by repeat (first | (with_reducible first | exact HB.out | apply below_alloc | apply pw_below_drewN | apply below_drew1 | refine below_set ?_ GE130.out | refine below_set ?_ GE131.out) | exact HB.out)) hb); clear BK130; clear BK131; clear HB; have BK130 := n0_; have BK131 := n1_; have HB := n2_; clear n0_ n1_ n2_; (try clear hb); (try clear hb2); (try clear hk); (try clear hi))); try go_wp2_with (first | (go_at_call 40; (with_reducible refine (spec_Keyword.calls kj25 a0_1 t143 _ A42.out).mono ?_); rintro e w47 ⟨rfl, hb⟩; have n0_ := Aside0.mk (blk_below (g := gb130) (o := .cells #[.string a0_0, .string a0_1, .bool a0_2] 23 (0, 0)) (by (with_reducible repeat (first | refine blk_drewN ?_ _ | refine blk_drew ?_ | refine blk_alloc ?_ _)); exact BK130.out) hb); have n1_ := Aside0.mk (blk_below (g := gb131) (o := .cells #[.string a1_0, .string a1_1, .bool true] 23 (0, 0)) (by (with_reducible repeat (first | refine blk_drewN ?_ _ | refine blk_drew ?_ | refine blk_alloc ?_ _)); exact BK131.out) hb); have n2_ := Aside0.mk (below_step (by repeat (first | (with_reducible first | exact HB.out | apply below_alloc | apply pw_below_drewN | apply below_drew1 | refine below_set ?_ GE130.out | refine below_set ?_ GE131.out) | exact HB.out)) hb); clear BK130; clear BK131; clear HB; have BK130 := n0_; have BK131 := n1_; have HB := n2_; clear n0_ n1_ n2_; (try clear hb); (try clear hb2); (try clear hk); (try clear hi)) | (go_at_call 40; (with_reducible refine (spec_Keyword.calls kj25 (⟨#[115, 112]⟩ : ByteArray) t144 _ A43.out).mono ?_); rintro e w48 ⟨rfl, hb⟩; have n0_ := Aside0.mk (blk_below (g := gb130) (o := .cells #[.string a0_0, .string a0_1, .bool a0_2] 23 (0, 0)) (by (with_reducible repeat (first | refine blk_drewN ?_ _ | refine blk_drew ?_ | refine blk_alloc ?_ _)); exact BK130.out) hb); have n1_ := Aside0.mk (blk_below (g := gb131) (o := .cells #[.string a1_0, .string a1_1, .bool true] 23 (0, 0)) (by (with_reducible repeat (first | refine blk_drewN ?_ _ | refine blk_drew ?_ | refine blk_alloc ?_ _)); exact BK131.out) hb); have n2_ := Aside0.mk (below_step (by repeat (first | (with_reducible first | exact HB.out | apply below_alloc | apply pw_below_drewN | apply below_drew1 | refine below_set ?_ GE130.out | refine below_set ?_ GE131.out) | exact HB.out)) hb); clear BK130; clear BK131; clear HB; have BK130 := n0_; have BK131 := n1_; have HB := n2_; clear n0_ n1_ n2_; (try clear hb); (try clear hb2); (try clear hk); (try clear hi))))
                            go_meet
                            case rel => exact ⟨_, (decide (t143 > t144)), (by first | rfl | (simp; done) | (simp [*]; done)), H', ⟨by have := HJ5.out; have := HJ17.out; have := HJ25.out; first | omega | exact Nat.le_refl _⟩, ⟨by (with_reducible repeat (first | refine blk_drewN ?_ _ | refine blk_drew ?_ | refine blk_alloc ?_ _)); exact BK130.out⟩, ⟨by (with_reducible repeat (first | refine blk_drewN ?_ _ | refine blk_drew ?_ | refine blk_alloc ?_ _)); exact BK131.out⟩, ⟨by repeat (first | (with_reducible first | exact HB.out | apply below_alloc | apply pw_below_drewN | apply below_drew1 | refine below_set ?_ GE130.out | refine below_set ?_ GE131.out) | exact HB.out)⟩⟩
                          · replace c41 := Bool.eq_false_iff.mpr c41
                            subst c41
                            have H1 : (spec_mavenOne.j3 kj25 t132 false) = some (r1, r2) := by rw [if_neg (show ¬ (false = true) by decide)] at H; exact H
                            clear H
                            have H := H1
                            clear H1
                            have H' := Aside0.mk H
                            clear H
                            have hnb49 := NB131_130.out
                            have hnc49 := NB130_131.out
                            have hcz50_0 : wc.cell? ⟨gb131, 0, none⟩ = some (.string a1_0) := (blk_cell BK131.out 0).trans rfl
                            have hcz50_1 : wc.cell? ⟨gb131, 1, none⟩ = some (.string a1_1) := (blk_cell BK131.out 1).trans rfl
                            have hcz50_2 : wc.cell? ⟨gb131, 2, none⟩ = some (.bool false) := (blk_cell BK131.out 2).trans rfl
                            have hfz50_0 := blk_frozen BK131.out 0
                            have hfz50_1 := blk_frozen BK131.out 1
                            have hfz50_2 := blk_frozen BK131.out 2
                            go_wp2
                            repeat (go_quiet (fail); try go_wp2)
                            go_meet
                            case rel => exact ⟨_, (false), (by first | rfl | (simp; done) | (simp [*]; done)), H', ⟨by have := HJ5.out; have := HJ17.out; have := HJ25.out; first | omega | exact Nat.le_refl _⟩, ⟨by (with_reducible repeat (first | refine blk_drewN ?_ _ | refine blk_drew ?_ | refine blk_alloc ?_ _)); exact BK130.out⟩, ⟨by (with_reducible repeat (first | refine blk_drewN ?_ _ | refine blk_drew ?_ | refine blk_alloc ?_ _)); exact BK131.out⟩, ⟨by repeat (first | (with_reducible first | exact HB.out | apply below_alloc | apply pw_below_drewN | apply below_drew1 | refine below_set ?_ GE130.out | refine below_set ?_ GE131.out) | exact HB.out)⟩⟩
                        · replace c40 := Bool.eq_false_iff.mpr c40
                          subst c40
                          have H1 : (spec_mavenOne.j3 kj25 t132 false) = some (r1, r2) := by rw [if_neg (show ¬ (false = true) by decide)] at H; exact H
                          clear H
                          have H := H1
                          clear H1
                          have H' := Aside0.mk H
                          clear H
                          go_wp2
                          repeat (go_quiet (fail); try go_wp2)
                          go_meet
                          case rel => exact ⟨_, (false), (by first | rfl | (simp; done) | (simp [*]; done)), H', ⟨by have := HJ5.out; have := HJ17.out; have := HJ25.out; first | omega | exact Nat.le_refl _⟩, ⟨by (with_reducible repeat (first | refine blk_drewN ?_ _ | refine blk_drew ?_ | refine blk_alloc ?_ _)); exact BK130.out⟩, ⟨by (with_reducible repeat (first | refine blk_drewN ?_ _ | refine blk_drew ?_ | refine blk_alloc ?_ _)); exact BK131.out⟩, ⟨by repeat (first | (with_reducible first | exact HB.out | apply below_alloc | apply pw_below_drewN | apply below_drew1 | refine below_set ?_ GE130.out | refine below_set ?_ GE131.out) | exact HB.out)⟩⟩
                      case rest =>
                        clear HC39
                        try clear c1
                        try clear c2
                        try clear p2
                        try clear c3
                        try clear c4
                        try clear c5
                        try clear c5b0
                        try clear c5b1
                        try clear c9
                        try clear c12
                        try clear c13
                        try clear c15
                        try clear c19
                        try clear c20
                        try clear c22
                        try clear c24
                        try clear c27
                        try clear c28
                        try clear c31
                        try clear c36
                        try clear c38
                        try clear c40
                        try clear c41
                        try clear c44
                        try clear c49
                        try clear hcz10_0
                        try clear hcz10_1
                        try clear hcz10_2
                        try clear hcz11_0
                        try clear hcz11_1
                        try clear hcz11_2
                        try clear hcz16_0
                        try clear hcz16_1
                        try clear hcz16_2
                        try clear hcz17_0
                        try clear hcz17_1
                        try clear hcz17_2
                        try clear hcz23_0
                        try clear hcz23_1
                        try clear hcz23_2
                        try clear hcz24_0
                        try clear hcz24_1
                        try clear hcz24_2
                        try clear hcz32_0
                        try clear hcz32_1
                        try clear hcz32_2
                        try clear hcz33_0
                        try clear hcz33_1
                        try clear hcz33_2
                        try clear hcz37_0
                        try clear hcz37_1
                        try clear hcz37_2
                        try clear hcz45_0
                        try clear hcz45_1
                        try clear hcz45_2
                        try clear hcz46_0
                        try clear hcz46_1
                        try clear hcz46_2
                        try clear hcz50_0
                        try clear hcz50_1
                        try clear hcz50_2
                        try clear hfz10_0
                        try clear hfz10_1
                        try clear hfz10_2
                        try clear hfz11_0
                        try clear hfz11_1
                        try clear hfz11_2
                        try clear hfz16_0
                        try clear hfz16_1
                        try clear hfz16_2
                        try clear hfz17_0
                        try clear hfz17_1
                        try clear hfz17_2
                        try clear hfz23_0
                        try clear hfz23_1
                        try clear hfz23_2
                        try clear hfz24_0
                        try clear hfz24_1
                        try clear hfz24_2
                        try clear hfz32_0
                        try clear hfz32_1
                        try clear hfz32_2
                        try clear hfz33_0
                        try clear hfz33_1
                        try clear hfz33_2
                        try clear hfz37_0
                        try clear hfz37_1
                        try clear hfz37_2
                        try clear hfz45_0
                        try clear hfz45_1
                        try clear hfz45_2
                        try clear hfz46_0
                        try clear hfz46_1
                        try clear hfz46_2
                        try clear hfz50_0
                        try clear hfz50_1
                        try clear hfz50_2
                        try clear p2
                        obtain ⟨kq, x75_38, rfl, HA, HJ38, BK130, BK131, HB⟩ := hcut
                        cases kq with
                        | zero => exact absurd HA.out (by simp [spec_mavenOne.j3])
                        | succ kj38 =>
                          have H := HA.out
                          clear HA
                          simp only [spec_mavenOne.j3] at H
                          by_cases c51 : x75_38 = true
                          · subst c51
                            have H1 : (some (1, true)) = some (r1, r2) := by rw [if_pos rfl] at H; exact H
                            clear H
                            have H := H1
                            clear H1
                            simp only [Option.some.injEq, Prod.mk.injEq] at H
                            obtain ⟨rfl, rfl⟩ := H
                            go_wp2
                            repeat (go_quiet (fail); try go_wp2)
                            go_ret2
                            exact ⟨by first | rfl | (simp [errW_none, errW_some] <;> rfl) | (simp [*, errW_none, errW_some] <;> rfl), by repeat (first | (with_reducible first | exact HB.out | apply below_alloc | apply pw_below_drewN | apply below_drew1 | refine below_set ?_ GE130.out | refine below_set ?_ GE131.out) | exact HB.out)⟩
                          · replace c51 := Bool.eq_false_iff.mpr c51
                            subst c51
                            have H1 : (if t132 = true then (some (1, true)) else (some ((-1), true))) = some (r1, r2) := by rw [if_neg (show ¬ (false = true) by decide)] at H; exact H
                            clear H
                            have H := H1
                            clear H1
                            by_cases c52 : t132 = true
                            · subst c52
                              have H1 : (some (1, true)) = some (r1, r2) := by rw [if_pos rfl] at H; exact H
                              clear H
                              have H := H1
                              clear H1
                              simp only [Option.some.injEq, Prod.mk.injEq] at H
                              obtain ⟨rfl, rfl⟩ := H
                              go_wp2
                              repeat (go_quiet (fail); try go_wp2)
                              go_ret2
                              exact ⟨by first | rfl | (simp [errW_none, errW_some] <;> rfl) | (simp [*, errW_none, errW_some] <;> rfl), by repeat (first | (with_reducible first | exact HB.out | apply below_alloc | apply pw_below_drewN | apply below_drew1 | refine below_set ?_ GE130.out | refine below_set ?_ GE131.out) | exact HB.out)⟩
                            · replace c52 := Bool.eq_false_iff.mpr c52
                              subst c52
                              have H1 : (some ((-1), true)) = some (r1, r2) := by rw [if_neg (show ¬ (false = true) by decide)] at H; exact H
                              clear H
                              have H := H1
                              clear H1
                              simp only [Option.some.injEq, Prod.mk.injEq] at H
                              obtain ⟨rfl, rfl⟩ := H
                              go_wp2
                              repeat (go_quiet (fail); try go_wp2)
                              go_ret2
                              exact ⟨by first | rfl | (simp [errW_none, errW_some] <;> rfl) | (simp [*, errW_none, errW_some] <;> rfl), by repeat (first | (with_reducible first | exact HB.out | apply below_alloc | apply pw_below_drewN | apply below_drew1 | refine below_set ?_ GE130.out | refine below_set ?_ GE131.out) | exact HB.out)⟩
  · rw [if_neg c5] at H
    have c5b0 : (a0_0.toList == a1_0.toList) = false := beq_eq_false_iff_ne.mpr c5
    have c5b1 : (a0_0.toList != a1_0.toList) = true := bne_iff_ne.mpr c5
    replace H := Option.bind_eq_some_iff.mp H
    obtain ⟨⟨t134, t135⟩, A530, H⟩ := H
    replace H : ((spec_TokenOrder.f k a1_0 a1_1 a1_2).bind fun bt136 => ((spec_orderInts.f t134 bt136.1).bind fun t138 => (if t135 = true then (some (t138, bt136.2)) else (some (t138, false))))) = some (r1, r2) := H
    have A53 := Aside0.mk A530
    clear A530
    replace H := Option.bind_eq_some_iff.mp H
    obtain ⟨⟨t136, t137⟩, A540, H⟩ := H
    replace H : ((spec_orderInts.f t134 t136).bind fun t138 => (if t135 = true then (some (t138, t137)) else (some (t138, false)))) = some (r1, r2) := H
    have A54 := Aside0.mk A540
    clear A540
    replace H := Option.bind_eq_some_iff.mp H
    obtain ⟨t138, A550, H⟩ := H
    replace H : (if t135 = true then (some (t138, t137)) else (some (t138, false))) = some (r1, r2) := H
    have A55 := Aside0.mk A550
    clear A550
    by_cases c56 : t135 = true
    · subst c56
      have H1 : (some (t138, t137)) = some (r1, r2) := by rw [if_pos rfl] at H; exact H
      clear H
      have H := H1
      clear H1
      simp only [Option.some.injEq, Prod.mk.injEq] at H
      obtain ⟨rfl, rfl⟩ := H
      go_enter Tryd.func24, Tryd.ntmps24
      go_wp2_with (first | ((with_reducible refine gate_dst (N := 2) rfl ?_); refine box_event ?hg (N := 2) ?hd (cs := #[.string a0_0, .string a0_1, .bool a0_2]) (t := 23) ?hr ?_; (case hd => rfl); (case hg => rfl); (case hr => first | (go_simp; done) | (go_simp; rfl)); intro gb130 hg w57 hbox hb; have n0_ := Aside0.mk (below_step (by repeat (first | (with_reducible first | exact HB.out | apply below_alloc | apply pw_below_drewN | apply below_drew1) | exact HB.out)) hb); have n1_ := Aside0.mk (hbox); have n2_ := Aside0.mk ((by rw [hg]; exact (below_size (by repeat (first | (with_reducible first | exact HB.out | apply below_alloc | apply pw_below_drewN | apply below_drew1) | exact HB.out))) : w.heap.size ≤ gb130)); have n3_ := Aside0.mk ((by rw [hg]; exact (below_size (by repeat (first | (with_reducible first | exact HB.out | apply below_alloc | apply pw_below_drewN | apply below_drew1) | exact HB.out))) : w.heap.size ≤ gb130)); clear HB; have HB := n0_; have BK130 := n1_; have GW130 := n2_; have GE130 := n3_; clear n0_ n1_ n2_ n3_; clear hb hbox hg) | ((with_reducible refine gate_dst (N := 3) rfl ?_); refine box_event ?hg (N := 3) ?hd (cs := #[.string a1_0, .string a1_1, .bool a1_2]) (t := 23) ?hr ?_; (case hd => rfl); (case hg => rfl); (case hr => first | (go_simp; done) | (go_simp; rfl)); intro gb131 hg w58 hbox hb; have n0_ := Aside0.mk (blk_below (g := gb130) (o := .cells #[.string a0_0, .string a0_1, .bool a0_2] 23 (0, 0)) (by (with_reducible repeat (first | refine blk_drewN ?_ _ | refine blk_drew ?_ | refine blk_alloc ?_ _)); exact BK130.out) hb); have n1_ := Aside0.mk (below_step (by repeat (first | (with_reducible first | exact HB.out | apply below_alloc | apply pw_below_drewN | apply below_drew1 | refine below_set ?_ GE130.out) | exact HB.out)) hb); have n2_ := Aside0.mk (hbox); have n3_ := Aside0.mk ((by rw [hg]; exact (below_size (by repeat (first | (with_reducible first | exact HB.out | apply below_alloc | apply pw_below_drewN | apply below_drew1 | refine below_set ?_ GE130.out) | exact HB.out))) : w.heap.size ≤ gb131)); have n4_ := Aside0.mk ((by rw [hg]; exact (below_size (by repeat (first | (with_reducible first | exact HB.out | apply below_alloc | apply pw_below_drewN | apply below_drew1 | refine below_set ?_ GE130.out) | exact HB.out))) : w.heap.size ≤ gb131)); have n5_ := Aside0.mk ((by rw [hg]; exact Nat.ne_of_lt (blk_lt (g := gb130) (o := .cells #[.string a0_0, .string a0_1, .bool a0_2] 23 (0, 0)) (by (with_reducible repeat (first | refine blk_drewN ?_ _ | refine blk_drew ?_ | refine blk_alloc ?_ _)); exact BK130.out)) : gb130 ≠ gb131)); have n6_ := Aside0.mk ((by rw [hg]; exact Nat.ne_of_gt (blk_lt (g := gb130) (o := .cells #[.string a0_0, .string a0_1, .bool a0_2] 23 (0, 0)) (by (with_reducible repeat (first | refine blk_drewN ?_ _ | refine blk_drew ?_ | refine blk_alloc ?_ _)); exact BK130.out)) : gb131 ≠ gb130)); clear BK130; clear HB; have BK130 := n0_; have HB := n1_; have BK131 := n2_; have GW131 := n3_; have GE131 := n4_; have NB130_131 := n5_; have NB131_130 := n6_; clear n0_ n1_ n2_ n3_ n4_ n5_ n6_; clear hb hbox hg; have hnb59 := NB130_131.out; have hnc59 := NB131_130.out; have hcz60_0 : w58.cell? ⟨gb130, 0, none⟩ = some (.string a0_0) := (blk_cell BK130.out 0).trans rfl; have hcz60_1 : w58.cell? ⟨gb130, 1, none⟩ = some (.string a0_1) := (blk_cell BK130.out 1).trans rfl; have hcz60_2 : w58.cell? ⟨gb130, 2, none⟩ = some (.bool a0_2) := (blk_cell BK130.out 2).trans rfl; have hfz60_0 := blk_frozen BK130.out 0; have hfz60_1 := blk_frozen BK130.out 1; have hfz60_2 := blk_frozen BK130.out 2) | (go_at_call 21; (with_reducible refine (spec_allDigits.calls k a0_1 t132 _ A3.out).mono ?_); rintro e w' ⟨rfl, ⟨nd, rfl⟩⟩; (try first | exact ⟨rfl, _, World.drewN_drewN _ _ _⟩ | exact ⟨rfl, _, Eq.trans (World.drewN_drewN _ _ _) (congrArg (World.drewN _) (Nat.add_assoc _ _ _))⟩); have hcz61_0 : w58.cell? ⟨gb131, 0, none⟩ = some (.string a1_0) := (blk_cell BK131.out 0).trans rfl; have hcz61_1 : w58.cell? ⟨gb131, 1, none⟩ = some (.string a1_1) := (blk_cell BK131.out 1).trans rfl; have hcz61_2 : w58.cell? ⟨gb131, 2, none⟩ = some (.bool a1_2) := (blk_cell BK131.out 2).trans rfl; have hfz61_0 := blk_frozen BK131.out 0; have hfz61_1 := blk_frozen BK131.out 1; have hfz61_2 := blk_frozen BK131.out 2) | (go_at_call 21; (with_reducible refine (spec_allDigits.calls k a1_1 t133 _ A4.out).mono ?_); rintro e w' ⟨rfl, ⟨nd, rfl⟩⟩; (try first | exact ⟨rfl, _, World.drewN_drewN _ _ _⟩ | exact ⟨rfl, _, Eq.trans (World.drewN_drewN _ _ _) (congrArg (World.drewN _) (Nat.add_assoc _ _ _))⟩)) | (go_at_call 36; (with_reducible refine (spec_TokenOrder.calls k a0_0 a0_1 a0_2 t134 true _ A53.out).mono ?_); rintro e w62 ⟨rfl, hb⟩; have n0_ := Aside0.mk (blk_below (g := gb130) (o := .cells #[.string a0_0, .string a0_1, .bool a0_2] 23 (0, 0)) (by (with_reducible repeat (first | refine blk_drewN ?_ _ | refine blk_drew ?_ | refine blk_alloc ?_ _)); exact BK130.out) hb); have n1_ := Aside0.mk (blk_below (g := gb131) (o := .cells #[.string a1_0, .string a1_1, .bool a1_2] 23 (0, 0)) (by (with_reducible repeat (first | refine blk_drewN ?_ _ | refine blk_drew ?_ | refine blk_alloc ?_ _)); exact BK131.out) hb); have n2_ := Aside0.mk (below_step (by repeat (first | (with_reducible first | exact HB.out | apply below_alloc | apply pw_below_drewN | apply below_drew1 | refine below_set ?_ GE130.out | refine below_set ?_ GE131.out) | exact HB.out)) hb); clear BK130; clear BK131; clear HB; have BK130 := n0_; have BK131 := n1_; have HB := n2_; clear n0_ n1_ n2_; (try clear hb); (try clear hb2); (try clear hk); (try clear hi); have hcz63_0 : w62.cell? ⟨gb131, 0, none⟩ = some (.string a1_0) := (blk_cell BK131.out 0).trans rfl; have hcz63_1 : w62.cell? ⟨gb131, 1, none⟩ = some (.string a1_1) := (blk_cell BK131.out 1).trans rfl; have hcz63_2 : w62.cell? ⟨gb131, 2, none⟩ = some (.bool a1_2) := (blk_cell BK131.out 2).trans rfl; have hfz63_0 := blk_frozen BK131.out 0; have hfz63_1 := blk_frozen BK131.out 1; have hfz63_2 := blk_frozen BK131.out 2) | (go_at_call 36; (with_reducible refine (spec_TokenOrder.calls k a1_0 a1_1 a1_2 t136 t137 _ A54.out).mono ?_); rintro e w64 ⟨rfl, hb⟩; have n0_ := Aside0.mk (blk_below (g := gb130) (o := .cells #[.string a0_0, .string a0_1, .bool a0_2] 23 (0, 0)) (by (with_reducible repeat (first | refine blk_drewN ?_ _ | refine blk_drew ?_ | refine blk_alloc ?_ _)); exact BK130.out) hb); have n1_ := Aside0.mk (blk_below (g := gb131) (o := .cells #[.string a1_0, .string a1_1, .bool a1_2] 23 (0, 0)) (by (with_reducible repeat (first | refine blk_drewN ?_ _ | refine blk_drew ?_ | refine blk_alloc ?_ _)); exact BK131.out) hb); have n2_ := Aside0.mk (below_step (by repeat (first | (with_reducible first | exact HB.out | apply below_alloc | apply pw_below_drewN | apply below_drew1 | refine below_set ?_ GE130.out | refine below_set ?_ GE131.out) | exact HB.out)) hb); clear BK130; clear BK131; clear HB; have BK130 := n0_; have BK131 := n1_; have HB := n2_; clear n0_ n1_ n2_; (try clear hb); (try clear hb2); (try clear hk); (try clear hi)) | (go_at_call 37; (with_reducible refine (spec_orderInts.calls t134 t136 t138 _ A55.out).mono ?_); rintro e w' ⟨rfl, ⟨nd, rfl⟩⟩; (try first | exact ⟨rfl, _, World.drewN_drewN _ _ _⟩ | exact ⟨rfl, _, Eq.trans (World.drewN_drewN _ _ _) (congrArg (World.drewN _) (Nat.add_assoc _ _ _))⟩)))
      repeat (go_quiet (first | ((with_reducible refine gate_dst (N := 2) rfl ?_); refine box_event ?hg (N := 2) ?hd (cs := #[.string a0_0, .string a0_1, .bool a0_2]) (t := 23) ?hr ?_; (case hd => rfl); (case hg => rfl); (case hr => first | (go_simp; done) | (go_simp; rfl)); intro gb130 hg w57 hbox hb; have n0_ := Aside0.mk (below_step (by repeat (first | (with_reducible first | exact HB.out | apply below_alloc | apply pw_below_drewN | apply below_drew1) | exact HB.out)) hb); have n1_ := Aside0.mk (hbox); have n2_ := Aside0.mk ((by rw [hg]; exact (below_size (by repeat (first | (with_reducible first | exact HB.out | apply below_alloc | apply pw_below_drewN | apply below_drew1) | exact HB.out))) : w.heap.size ≤ gb130)); have n3_ := Aside0.mk ((by rw [hg]; exact (below_size (by repeat (first | (with_reducible first | exact HB.out | apply below_alloc | apply pw_below_drewN | apply below_drew1) | exact HB.out))) : w.heap.size ≤ gb130)); clear HB; have HB := n0_; have BK130 := n1_; have GW130 := n2_; have GE130 := n3_; clear n0_ n1_ n2_ n3_; clear hb hbox hg) | ((with_reducible refine gate_dst (N := 3) rfl ?_); refine box_event ?hg (N := 3) ?hd (cs := #[.string a1_0, .string a1_1, .bool a1_2]) (t := 23) ?hr ?_; (case hd => rfl); (case hg => rfl); (case hr => first | (go_simp; done) | (go_simp; rfl)); intro gb131 hg w58 hbox hb; have n0_ := Aside0.mk (blk_below (g := gb130) (o := .cells #[.string a0_0, .string a0_1, .bool a0_2] 23 (0, 0)) (by (with_reducible repeat (first | refine blk_drewN ?_ _ | refine blk_drew ?_ | refine blk_alloc ?_ _)); exact BK130.out) hb); have n1_ := Aside0.mk (below_step (by repeat (first | (with_reducible first | exact HB.out | apply below_alloc | apply pw_below_drewN | apply below_drew1 | refine below_set ?_ GE130.out) | exact HB.out)) hb); have n2_ := Aside0.mk (hbox); have n3_ := Aside0.mk ((by rw [hg]; exact (below_size (by repeat (first | (with_reducible first | exact HB.out | apply below_alloc | apply pw_below_drewN | apply below_drew1 | refine below_set ?_ GE130.out) | exact HB.out))) : w.heap.size ≤ gb131)); have n4_ := Aside0.mk ((by rw [hg]; exact (below_size (by repeat (first | (with_reducible first | exact HB.out | apply below_alloc | apply pw_below_drewN | apply below_drew1 | refine below_set ?_ GE130.out) | exact HB.out))) : w.heap.size ≤ gb131)); have n5_ := Aside0.mk ((by rw [hg]; exact Nat.ne_of_lt (blk_lt (g := gb130) (o := .cells #[.string a0_0, .string a0_1, .bool a0_2] 23 (0, 0)) (by (with_reducible repeat (first | refine blk_drewN ?_ _ | refine blk_drew ?_ | refine blk_alloc ?_ _)); exact BK130.out)) : gb130 ≠ gb131)); have n6_ := Aside0.mk ((by rw [hg]; exact Nat.ne_of_gt (blk_lt (g := gb130) (o := .cells #[.string a0_0, .string a0_1, .bool a0_2] 23 (0, 0)) (by (with_reducible repeat (first | refine blk_drewN ?_ _ | refine blk_drew ?_ | refine blk_alloc ?_ _)); exact BK130.out)) : gb131 ≠ gb130)); clear BK130; clear HB; have BK130 := n0_; have HB := n1_; have BK131 := n2_; have GW131 := n3_; have GE131 := n4_; have NB130_131 := n5_; have NB131_130 := n6_; clear n0_ n1_ n2_ n3_ n4_ n5_ n6_; clear hb hbox hg; have hnb59 := NB130_131.out; have hnc59 := NB131_130.out; have hcz60_0 : w58.cell? ⟨gb130, 0, none⟩ = some (.string a0_0) := (blk_cell BK130.out 0).trans rfl; have hcz60_1 : w58.cell? ⟨gb130, 1, none⟩ = some (.string a0_1) := (blk_cell BK130.out 1).trans rfl; have hcz60_2 : w58.cell? ⟨gb130, 2, none⟩ = some (.bool a0_2) := (blk_cell BK130.out 2).trans rfl; have hfz60_0 := blk_frozen BK130.out 0; have hfz60_1 := blk_frozen BK130.out 1; have hfz60_2 := blk_frozen BK130.out 2) | (go_at_call 21; (with_reducible refine (spec_allDigits.calls k a0_1 t132 _ A3.out).mono ?_); rintro e w' ⟨rfl, ⟨nd, rfl⟩⟩; (try first | exact ⟨rfl, _, World.drewN_drewN _ _ _⟩ | exact ⟨rfl, _, Eq.trans (World.drewN_drewN _ _ _) (congrArg (World.drewN _) (Nat.add_assoc _ _ _))⟩); have hcz61_0 : w58.cell? ⟨gb131, 0, none⟩ = some (.string a1_0) := (blk_cell BK131.out 0).trans rfl; have hcz61_1 : w58.cell? ⟨gb131, 1, none⟩ = some (.string a1_1) := (blk_cell BK131.out 1).trans rfl; have hcz61_2 : w58.cell? ⟨gb131, 2, none⟩ = some (.bool a1_2) := (blk_cell BK131.out 2).trans rfl; have hfz61_0 := blk_frozen BK131.out 0; have hfz61_1 := blk_frozen BK131.out 1; have hfz61_2 := blk_frozen BK131.out 2) | (go_at_call 21; (with_reducible refine (spec_allDigits.calls k a1_1 t133 _ A4.out).mono ?_); rintro e w' ⟨rfl, ⟨nd, rfl⟩⟩; (try first | exact ⟨rfl, _, World.drewN_drewN _ _ _⟩ | exact ⟨rfl, _, Eq.trans (World.drewN_drewN _ _ _) (congrArg (World.drewN _) (Nat.add_assoc _ _ _))⟩)) | (go_at_call 36; (with_reducible refine (spec_TokenOrder.calls k a0_0 a0_1 a0_2 t134 true _ A53.out).mono ?_); rintro e w62 ⟨rfl, hb⟩; have n0_ := Aside0.mk (blk_below (g := gb130) (o := .cells #[.string a0_0, .string a0_1, .bool a0_2] 23 (0, 0)) (by (with_reducible repeat (first | refine blk_drewN ?_ _ | refine blk_drew ?_ | refine blk_alloc ?_ _)); exact BK130.out) hb); have n1_ := Aside0.mk (blk_below (g := gb131) (o := .cells #[.string a1_0, .string a1_1, .bool a1_2] 23 (0, 0)) (by (with_reducible repeat (first | refine blk_drewN ?_ _ | refine blk_drew ?_ | refine blk_alloc ?_ _)); exact BK131.out) hb); have n2_ := Aside0.mk (below_step (by repeat (first | (with_reducible first | exact HB.out | apply below_alloc | apply pw_below_drewN | apply below_drew1 | refine below_set ?_ GE130.out | refine below_set ?_ GE131.out) | exact HB.out)) hb); clear BK130; clear BK131; clear HB; have BK130 := n0_; have BK131 := n1_; have HB := n2_; clear n0_ n1_ n2_; (try clear hb); (try clear hb2); (try clear hk); (try clear hi); have hcz63_0 : w62.cell? ⟨gb131, 0, none⟩ = some (.string a1_0) := (blk_cell BK131.out 0).trans rfl; have hcz63_1 : w62.cell? ⟨gb131, 1, none⟩ = some (.string a1_1) := (blk_cell BK131.out 1).trans rfl; have hcz63_2 : w62.cell? ⟨gb131, 2, none⟩ = some (.bool a1_2) := (blk_cell BK131.out 2).trans rfl; have hfz63_0 := blk_frozen BK131.out 0; have hfz63_1 := blk_frozen BK131.out 1; have hfz63_2 := blk_frozen BK131.out 2) | (go_at_call 36; (with_reducible refine (spec_TokenOrder.calls k a1_0 a1_1 a1_2 t136 t137 _ A54.out).mono ?_); rintro e w64 ⟨rfl, hb⟩; have n0_ := Aside0.mk (blk_below (g := gb130) (o := .cells #[.string a0_0, .string a0_1, .bool a0_2] 23 (0, 0)) (by (with_reducible repeat (first | refine blk_drewN ?_ _ | refine blk_drew ?_ | refine blk_alloc ?_ _)); exact BK130.out) hb); have n1_ := Aside0.mk (blk_below (g := gb131) (o := .cells #[.string a1_0, .string a1_1, .bool a1_2] 23 (0, 0)) (by (with_reducible repeat (first | refine blk_drewN ?_ _ | refine blk_drew ?_ | refine blk_alloc ?_ _)); exact BK131.out) hb); have n2_ := Aside0.mk (below_step (by repeat (first | (with_reducible first | exact HB.out | apply below_alloc | apply pw_below_drewN | apply below_drew1 | refine below_set ?_ GE130.out | refine below_set ?_ GE131.out) | exact HB.out)) hb); clear BK130; clear BK131; clear HB; have BK130 := n0_; have BK131 := n1_; have HB := n2_; clear n0_ n1_ n2_; (try clear hb); (try clear hb2); (try clear hk); (try clear hi)) | (go_at_call 37; (with_reducible refine (spec_orderInts.calls t134 t136 t138 _ A55.out).mono ?_); rintro e w' ⟨rfl, ⟨nd, rfl⟩⟩; (try first | exact ⟨rfl, _, World.drewN_drewN _ _ _⟩ | exact ⟨rfl, _, Eq.trans (World.drewN_drewN _ _ _) (congrArg (World.drewN _) (Nat.add_assoc _ _ _))⟩))); try go_wp2_with (first | ((with_reducible refine gate_dst (N := 2) rfl ?_); refine box_event ?hg (N := 2) ?hd (cs := #[.string a0_0, .string a0_1, .bool a0_2]) (t := 23) ?hr ?_; (case hd => rfl); (case hg => rfl); (case hr => first | (go_simp; done) | (go_simp; rfl)); intro gb130 hg w57 hbox hb; have n0_ := Aside0.mk (below_step (by repeat (first | (with_reducible first | exact HB.out | apply below_alloc | apply pw_below_drewN | apply below_drew1) | exact HB.out)) hb); have n1_ := Aside0.mk (hbox); have n2_ := Aside0.mk ((by rw [hg]; exact (below_size (by repeat (first | (with_reducible first | exact HB.out | apply below_alloc | apply pw_below_drewN | apply below_drew1) | exact HB.out))) : w.heap.size ≤ gb130)); have n3_ := Aside0.mk ((by rw [hg]; exact (below_size (by repeat (first | (with_reducible first | exact HB.out | apply below_alloc | apply pw_below_drewN | apply below_drew1) | exact HB.out))) : w.heap.size ≤ gb130)); clear HB; have HB := n0_; have BK130 := n1_; have GW130 := n2_; have GE130 := n3_; clear n0_ n1_ n2_ n3_; clear hb hbox hg) | ((with_reducible refine gate_dst (N := 3) rfl ?_); refine box_event ?hg (N := 3) ?hd (cs := #[.string a1_0, .string a1_1, .bool a1_2]) (t := 23) ?hr ?_; (case hd => rfl); (case hg => rfl); (case hr => first | (go_simp; done) | (go_simp; rfl)); intro gb131 hg w58 hbox hb; have n0_ := Aside0.mk (blk_below (g := gb130) (o := .cells #[.string a0_0, .string a0_1, .bool a0_2] 23 (0, 0)) (by (with_reducible repeat (first | refine blk_drewN ?_ _ | refine blk_drew ?_ | refine blk_alloc ?_ _)); exact BK130.out) hb); have n1_ := Aside0.mk (below_step (by repeat (first | (with_reducible first | exact HB.out | apply below_alloc | apply pw_below_drewN | apply below_drew1 | refine below_set ?_ GE130.out) | exact HB.out)) hb); have n2_ := Aside0.mk (hbox); have n3_ := Aside0.mk ((by rw [hg]; exact (below_size (by repeat (first | (with_reducible first | exact HB.out | apply below_alloc | apply pw_below_drewN | apply below_drew1 | refine below_set ?_ GE130.out) | exact HB.out))) : w.heap.size ≤ gb131)); have n4_ := Aside0.mk ((by rw [hg]; exact (below_size (by repeat (first | (with_reducible first | exact HB.out | apply below_alloc | apply pw_below_drewN | apply below_drew1 | refine below_set ?_ GE130.out) | exact HB.out))) : w.heap.size ≤ gb131)); have n5_ := Aside0.mk ((by rw [hg]; exact Nat.ne_of_lt (blk_lt (g := gb130) (o := .cells #[.string a0_0, .string a0_1, .bool a0_2] 23 (0, 0)) (by (with_reducible repeat (first | refine blk_drewN ?_ _ | refine blk_drew ?_ | refine blk_alloc ?_ _)); exact BK130.out)) : gb130 ≠ gb131)); have n6_ := Aside0.mk ((by rw [hg]; exact Nat.ne_of_gt (blk_lt (g := gb130) (o := .cells #[.string a0_0, .string a0_1, .bool a0_2] 23 (0, 0)) (by (with_reducible repeat (first | refine blk_drewN ?_ _ | refine blk_drew ?_ | refine blk_alloc ?_ _)); exact BK130.out)) : gb131 ≠ gb130)); clear BK130; clear HB; have BK130 := n0_; have HB := n1_; have BK131 := n2_; have GW131 := n3_; have GE131 := n4_; have NB130_131 := n5_; have NB131_130 := n6_; clear n0_ n1_ n2_ n3_ n4_ n5_ n6_; clear hb hbox hg; have hnb59 := NB130_131.out; have hnc59 := NB131_130.out; have hcz60_0 : w58.cell? ⟨gb130, 0, none⟩ = some (.string a0_0) := (blk_cell BK130.out 0).trans rfl; have hcz60_1 : w58.cell? ⟨gb130, 1, none⟩ = some (.string a0_1) := (blk_cell BK130.out 1).trans rfl; have hcz60_2 : w58.cell? ⟨gb130, 2, none⟩ = some (.bool a0_2) := (blk_cell BK130.out 2).trans rfl; have hfz60_0 := blk_frozen BK130.out 0; have hfz60_1 := blk_frozen BK130.out 1; have hfz60_2 := blk_frozen BK130.out 2) | (go_at_call 21; (with_reducible refine (spec_allDigits.calls k a0_1 t132 _ A3.out).mono ?_); rintro e w' ⟨rfl, ⟨nd, rfl⟩⟩; (try first | exact ⟨rfl, _, World.drewN_drewN _ _ _⟩ | exact ⟨rfl, _, Eq.trans (World.drewN_drewN _ _ _) (congrArg (World.drewN _) (Nat.add_assoc _ _ _))⟩); have hcz61_0 : w58.cell? ⟨gb131, 0, none⟩ = some (.string a1_0) := (blk_cell BK131.out 0).trans rfl; have hcz61_1 : w58.cell? ⟨gb131, 1, none⟩ = some (.string a1_1) := (blk_cell BK131.out 1).trans rfl; have hcz61_2 : w58.cell? ⟨gb131, 2, none⟩ = some (.bool a1_2) := (blk_cell BK131.out 2).trans rfl; have hfz61_0 := blk_frozen BK131.out 0; have hfz61_1 := blk_frozen BK131.out 1; have hfz61_2 := blk_frozen BK131.out 2) | (go_at_call 21; (with_reducible refine (spec_allDigits.calls k a1_1 t133 _ A4.out).mono ?_); rintro e w' ⟨rfl, ⟨nd, rfl⟩⟩; (try first | exact ⟨rfl, _, World.drewN_drewN _ _ _⟩ | exact ⟨rfl, _, Eq.trans (World.drewN_drewN _ _ _) (congrArg (World.drewN _) (Nat.add_assoc _ _ _))⟩)) | (go_at_call 36; (with_reducible refine (spec_TokenOrder.calls k a0_0 a0_1 a0_2 t134 true _ A53.out).mono ?_); rintro e w62 ⟨rfl, hb⟩; have n0_ := Aside0.mk (blk_below (g := gb130) (o := .cells #[.string a0_0, .string a0_1, .bool a0_2] 23 (0, 0)) (by (with_reducible repeat (first | refine blk_drewN ?_ _ | refine blk_drew ?_ | refine blk_alloc ?_ _)); exact BK130.out) hb); have n1_ := Aside0.mk (blk_below (g := gb131) (o := .cells #[.string a1_0, .string a1_1, .bool a1_2] 23 (0, 0)) (by (with_reducible repeat (first | refine blk_drewN ?_ _ | refine blk_drew ?_ | refine blk_alloc ?_ _)); exact BK131.out) hb); have n2_ := Aside0.mk (below_step (by repeat (first | (with_reducible first | exact HB.out | apply below_alloc | apply pw_below_drewN | apply below_drew1 | refine below_set ?_ GE130.out | refine below_set ?_ GE131.out) | exact HB.out)) hb); clear BK130; clear BK131; clear HB; have BK130 := n0_; have BK131 := n1_; have HB := n2_; clear n0_ n1_ n2_; (try clear hb); (try clear hb2); (try clear hk); (try clear hi); have hcz63_0 : w62.cell? ⟨gb131, 0, none⟩ = some (.string a1_0) := (blk_cell BK131.out 0).trans rfl; have hcz63_1 : w62.cell? ⟨gb131, 1, none⟩ = some (.string a1_1) := (blk_cell BK131.out 1).trans rfl; have hcz63_2 : w62.cell? ⟨gb131, 2, none⟩ = some (.bool a1_2) := (blk_cell BK131.out 2).trans rfl; have hfz63_0 := blk_frozen BK131.out 0; have hfz63_1 := blk_frozen BK131.out 1; have hfz63_2 := blk_frozen BK131.out 2) | (go_at_call 36; (with_reducible refine (spec_TokenOrder.calls k a1_0 a1_1 a1_2 t136 t137 _ A54.out).mono ?_); rintro e w64 ⟨rfl, hb⟩; have n0_ := Aside0.mk (blk_below (g := gb130) (o := .cells #[.string a0_0, .string a0_1, .bool a0_2] 23 (0, 0)) (by (with_reducible repeat (first | refine blk_drewN ?_ _ | refine blk_drew ?_ | refine blk_alloc ?_ _)); exact BK130.out) hb); have n1_ := Aside0.mk (blk_below (g := gb131) (o := .cells #[.string a1_0, .string a1_1, .bool a1_2] 23 (0, 0)) (by (with_reducible repeat (first | refine blk_drewN ?_ _ | refine blk_drew ?_ | refine blk_alloc ?_ _)); exact BK131.out) hb); have n2_ := Aside0.mk (below_step (by repeat (first | (with_reducible first | exact HB.out | apply below_alloc | apply pw_below_drewN | apply below_drew1 | refine below_set ?_ GE130.out | refine below_set ?_ GE131.out) | exact HB.out)) hb); clear BK130; clear BK131; clear HB; have BK130 := n0_; have BK131 := n1_; have HB := n2_; clear n0_ n1_ n2_; (try clear hb); (try clear hb2); (try clear hk); (try clear hi)) | (go_at_call 37; (with_reducible refine (spec_orderInts.calls t134 t136 t138 _ A55.out).mono ?_); rintro e w' ⟨rfl, ⟨nd, rfl⟩⟩; (try first | exact ⟨rfl, _, World.drewN_drewN _ _ _⟩ | exact ⟨rfl, _, Eq.trans (World.drewN_drewN _ _ _) (congrArg (World.drewN _) (Nat.add_assoc _ _ _))⟩))))
      go_ret2
      exact ⟨by first | rfl | (simp [errW_none, errW_some] <;> rfl) | (simp [*, errW_none, errW_some] <;> rfl), by repeat (first | (with_reducible first | exact HB.out | apply below_alloc | apply pw_below_drewN | apply below_drew1 | refine below_set ?_ GE130.out | refine below_set ?_ GE131.out) | exact HB.out)⟩
    · replace c56 := Bool.eq_false_iff.mpr c56
      subst c56
      have H1 : (some (t138, false)) = some (r1, r2) := by rw [if_neg (show ¬ (false = true) by decide)] at H; exact H
      clear H
      have H := H1
      clear H1
      simp only [Option.some.injEq, Prod.mk.injEq] at H
      obtain ⟨rfl, rfl⟩ := H
      go_enter Tryd.func24, Tryd.ntmps24
      go_wp2_with (first | ((with_reducible refine gate_dst (N := 2) rfl ?_); refine box_event ?hg (N := 2) ?hd (cs := #[.string a0_0, .string a0_1, .bool a0_2]) (t := 23) ?hr ?_; (case hd => rfl); (case hg => rfl); (case hr => first | (go_simp; done) | (go_simp; rfl)); intro gb130 hg w65 hbox hb; have n0_ := Aside0.mk (below_step (by repeat (first | (with_reducible first | exact HB.out | apply below_alloc | apply pw_below_drewN | apply below_drew1) | exact HB.out)) hb); have n1_ := Aside0.mk (hbox); have n2_ := Aside0.mk ((by rw [hg]; exact (below_size (by repeat (first | (with_reducible first | exact HB.out | apply below_alloc | apply pw_below_drewN | apply below_drew1) | exact HB.out))) : w.heap.size ≤ gb130)); have n3_ := Aside0.mk ((by rw [hg]; exact (below_size (by repeat (first | (with_reducible first | exact HB.out | apply below_alloc | apply pw_below_drewN | apply below_drew1) | exact HB.out))) : w.heap.size ≤ gb130)); clear HB; have HB := n0_; have BK130 := n1_; have GW130 := n2_; have GE130 := n3_; clear n0_ n1_ n2_ n3_; clear hb hbox hg) | ((with_reducible refine gate_dst (N := 3) rfl ?_); refine box_event ?hg (N := 3) ?hd (cs := #[.string a1_0, .string a1_1, .bool a1_2]) (t := 23) ?hr ?_; (case hd => rfl); (case hg => rfl); (case hr => first | (go_simp; done) | (go_simp; rfl)); intro gb131 hg w66 hbox hb; have n0_ := Aside0.mk (blk_below (g := gb130) (o := .cells #[.string a0_0, .string a0_1, .bool a0_2] 23 (0, 0)) (by (with_reducible repeat (first | refine blk_drewN ?_ _ | refine blk_drew ?_ | refine blk_alloc ?_ _)); exact BK130.out) hb); have n1_ := Aside0.mk (below_step (by repeat (first | (with_reducible first | exact HB.out | apply below_alloc | apply pw_below_drewN | apply below_drew1 | refine below_set ?_ GE130.out) | exact HB.out)) hb); have n2_ := Aside0.mk (hbox); have n3_ := Aside0.mk ((by rw [hg]; exact (below_size (by repeat (first | (with_reducible first | exact HB.out | apply below_alloc | apply pw_below_drewN | apply below_drew1 | refine below_set ?_ GE130.out) | exact HB.out))) : w.heap.size ≤ gb131)); have n4_ := Aside0.mk ((by rw [hg]; exact (below_size (by repeat (first | (with_reducible first | exact HB.out | apply below_alloc | apply pw_below_drewN | apply below_drew1 | refine below_set ?_ GE130.out) | exact HB.out))) : w.heap.size ≤ gb131)); have n5_ := Aside0.mk ((by rw [hg]; exact Nat.ne_of_lt (blk_lt (g := gb130) (o := .cells #[.string a0_0, .string a0_1, .bool a0_2] 23 (0, 0)) (by (with_reducible repeat (first | refine blk_drewN ?_ _ | refine blk_drew ?_ | refine blk_alloc ?_ _)); exact BK130.out)) : gb130 ≠ gb131)); have n6_ := Aside0.mk ((by rw [hg]; exact Nat.ne_of_gt (blk_lt (g := gb130) (o := .cells #[.string a0_0, .string a0_1, .bool a0_2] 23 (0, 0)) (by (with_reducible repeat (first | refine blk_drewN ?_ _ | refine blk_drew ?_ | refine blk_alloc ?_ _)); exact BK130.out)) : gb131 ≠ gb130)); clear BK130; clear HB; have BK130 := n0_; have HB := n1_; have BK131 := n2_; have GW131 := n3_; have GE131 := n4_; have NB130_131 := n5_; have NB131_130 := n6_; clear n0_ n1_ n2_ n3_ n4_ n5_ n6_; clear hb hbox hg; have hnb67 := NB130_131.out; have hnc67 := NB131_130.out; have hcz68_0 : w66.cell? ⟨gb130, 0, none⟩ = some (.string a0_0) := (blk_cell BK130.out 0).trans rfl; have hcz68_1 : w66.cell? ⟨gb130, 1, none⟩ = some (.string a0_1) := (blk_cell BK130.out 1).trans rfl; have hcz68_2 : w66.cell? ⟨gb130, 2, none⟩ = some (.bool a0_2) := (blk_cell BK130.out 2).trans rfl; have hfz68_0 := blk_frozen BK130.out 0; have hfz68_1 := blk_frozen BK130.out 1; have hfz68_2 := blk_frozen BK130.out 2) | (go_at_call 21; (with_reducible refine (spec_allDigits.calls k a0_1 t132 _ A3.out).mono ?_); rintro e w' ⟨rfl, ⟨nd, rfl⟩⟩; (try first | exact ⟨rfl, _, World.drewN_drewN _ _ _⟩ | exact ⟨rfl, _, Eq.trans (World.drewN_drewN _ _ _) (congrArg (World.drewN _) (Nat.add_assoc _ _ _))⟩); have hcz69_0 : w66.cell? ⟨gb131, 0, none⟩ = some (.string a1_0) := (blk_cell BK131.out 0).trans rfl; have hcz69_1 : w66.cell? ⟨gb131, 1, none⟩ = some (.string a1_1) := (blk_cell BK131.out 1).trans rfl; have hcz69_2 : w66.cell? ⟨gb131, 2, none⟩ = some (.bool a1_2) := (blk_cell BK131.out 2).trans rfl; have hfz69_0 := blk_frozen BK131.out 0; have hfz69_1 := blk_frozen BK131.out 1; have hfz69_2 := blk_frozen BK131.out 2) | (go_at_call 21; (with_reducible refine (spec_allDigits.calls k a1_1 t133 _ A4.out).mono ?_); rintro e w' ⟨rfl, ⟨nd, rfl⟩⟩; (try first | exact ⟨rfl, _, World.drewN_drewN _ _ _⟩ | exact ⟨rfl, _, Eq.trans (World.drewN_drewN _ _ _) (congrArg (World.drewN _) (Nat.add_assoc _ _ _))⟩)) | (go_at_call 36; (with_reducible refine (spec_TokenOrder.calls k a0_0 a0_1 a0_2 t134 false _ A53.out).mono ?_); rintro e w70 ⟨rfl, hb⟩; have n0_ := Aside0.mk (blk_below (g := gb130) (o := .cells #[.string a0_0, .string a0_1, .bool a0_2] 23 (0, 0)) (by (with_reducible repeat (first | refine blk_drewN ?_ _ | refine blk_drew ?_ | refine blk_alloc ?_ _)); exact BK130.out) hb); have n1_ := Aside0.mk (blk_below (g := gb131) (o := .cells #[.string a1_0, .string a1_1, .bool a1_2] 23 (0, 0)) (by (with_reducible repeat (first | refine blk_drewN ?_ _ | refine blk_drew ?_ | refine blk_alloc ?_ _)); exact BK131.out) hb); have n2_ := Aside0.mk (below_step (by repeat (first | (with_reducible first | exact HB.out | apply below_alloc | apply pw_below_drewN | apply below_drew1 | refine below_set ?_ GE130.out | refine below_set ?_ GE131.out) | exact HB.out)) hb); clear BK130; clear BK131; clear HB; have BK130 := n0_; have BK131 := n1_; have HB := n2_; clear n0_ n1_ n2_; (try clear hb); (try clear hb2); (try clear hk); (try clear hi); have hcz71_0 : w70.cell? ⟨gb131, 0, none⟩ = some (.string a1_0) := (blk_cell BK131.out 0).trans rfl; have hcz71_1 : w70.cell? ⟨gb131, 1, none⟩ = some (.string a1_1) := (blk_cell BK131.out 1).trans rfl; have hcz71_2 : w70.cell? ⟨gb131, 2, none⟩ = some (.bool a1_2) := (blk_cell BK131.out 2).trans rfl; have hfz71_0 := blk_frozen BK131.out 0; have hfz71_1 := blk_frozen BK131.out 1; have hfz71_2 := blk_frozen BK131.out 2) | (go_at_call 36; (with_reducible refine (spec_TokenOrder.calls k a1_0 a1_1 a1_2 t136 t137 _ A54.out).mono ?_); rintro e w72 ⟨rfl, hb⟩; have n0_ := Aside0.mk (blk_below (g := gb130) (o := .cells #[.string a0_0, .string a0_1, .bool a0_2] 23 (0, 0)) (by (with_reducible repeat (first | refine blk_drewN ?_ _ | refine blk_drew ?_ | refine blk_alloc ?_ _)); exact BK130.out) hb); have n1_ := Aside0.mk (blk_below (g := gb131) (o := .cells #[.string a1_0, .string a1_1, .bool a1_2] 23 (0, 0)) (by (with_reducible repeat (first | refine blk_drewN ?_ _ | refine blk_drew ?_ | refine blk_alloc ?_ _)); exact BK131.out) hb); have n2_ := Aside0.mk (below_step (by repeat (first | (with_reducible first | exact HB.out | apply below_alloc | apply pw_below_drewN | apply below_drew1 | refine below_set ?_ GE130.out | refine below_set ?_ GE131.out) | exact HB.out)) hb); clear BK130; clear BK131; clear HB; have BK130 := n0_; have BK131 := n1_; have HB := n2_; clear n0_ n1_ n2_; (try clear hb); (try clear hb2); (try clear hk); (try clear hi)) | (go_at_call 37; (with_reducible refine (spec_orderInts.calls t134 t136 t138 _ A55.out).mono ?_); rintro e w' ⟨rfl, ⟨nd, rfl⟩⟩; (try first | exact ⟨rfl, _, World.drewN_drewN _ _ _⟩ | exact ⟨rfl, _, Eq.trans (World.drewN_drewN _ _ _) (congrArg (World.drewN _) (Nat.add_assoc _ _ _))⟩)))
      repeat (go_quiet (first | ((with_reducible refine gate_dst (N := 2) rfl ?_); refine box_event ?hg (N := 2) ?hd (cs := #[.string a0_0, .string a0_1, .bool a0_2]) (t := 23) ?hr ?_; (case hd => rfl); (case hg => rfl); (case hr => first | (go_simp; done) | (go_simp; rfl)); intro gb130 hg w65 hbox hb; have n0_ := Aside0.mk (below_step (by repeat (first | (with_reducible first | exact HB.out | apply below_alloc | apply pw_below_drewN | apply below_drew1) | exact HB.out)) hb); have n1_ := Aside0.mk (hbox); have n2_ := Aside0.mk ((by rw [hg]; exact (below_size (by repeat (first | (with_reducible first | exact HB.out | apply below_alloc | apply pw_below_drewN | apply below_drew1) | exact HB.out))) : w.heap.size ≤ gb130)); have n3_ := Aside0.mk ((by rw [hg]; exact (below_size (by repeat (first | (with_reducible first | exact HB.out | apply below_alloc | apply pw_below_drewN | apply below_drew1) | exact HB.out))) : w.heap.size ≤ gb130)); clear HB; have HB := n0_; have BK130 := n1_; have GW130 := n2_; have GE130 := n3_; clear n0_ n1_ n2_ n3_; clear hb hbox hg) | ((with_reducible refine gate_dst (N := 3) rfl ?_); refine box_event ?hg (N := 3) ?hd (cs := #[.string a1_0, .string a1_1, .bool a1_2]) (t := 23) ?hr ?_; (case hd => rfl); (case hg => rfl); (case hr => first | (go_simp; done) | (go_simp; rfl)); intro gb131 hg w66 hbox hb; have n0_ := Aside0.mk (blk_below (g := gb130) (o := .cells #[.string a0_0, .string a0_1, .bool a0_2] 23 (0, 0)) (by (with_reducible repeat (first | refine blk_drewN ?_ _ | refine blk_drew ?_ | refine blk_alloc ?_ _)); exact BK130.out) hb); have n1_ := Aside0.mk (below_step (by repeat (first | (with_reducible first | exact HB.out | apply below_alloc | apply pw_below_drewN | apply below_drew1 | refine below_set ?_ GE130.out) | exact HB.out)) hb); have n2_ := Aside0.mk (hbox); have n3_ := Aside0.mk ((by rw [hg]; exact (below_size (by repeat (first | (with_reducible first | exact HB.out | apply below_alloc | apply pw_below_drewN | apply below_drew1 | refine below_set ?_ GE130.out) | exact HB.out))) : w.heap.size ≤ gb131)); have n4_ := Aside0.mk ((by rw [hg]; exact (below_size (by repeat (first | (with_reducible first | exact HB.out | apply below_alloc | apply pw_below_drewN | apply below_drew1 | refine below_set ?_ GE130.out) | exact HB.out))) : w.heap.size ≤ gb131)); have n5_ := Aside0.mk ((by rw [hg]; exact Nat.ne_of_lt (blk_lt (g := gb130) (o := .cells #[.string a0_0, .string a0_1, .bool a0_2] 23 (0, 0)) (by (with_reducible repeat (first | refine blk_drewN ?_ _ | refine blk_drew ?_ | refine blk_alloc ?_ _)); exact BK130.out)) : gb130 ≠ gb131)); have n6_ := Aside0.mk ((by rw [hg]; exact Nat.ne_of_gt (blk_lt (g := gb130) (o := .cells #[.string a0_0, .string a0_1, .bool a0_2] 23 (0, 0)) (by (with_reducible repeat (first | refine blk_drewN ?_ _ | refine blk_drew ?_ | refine blk_alloc ?_ _)); exact BK130.out)) : gb131 ≠ gb130)); clear BK130; clear HB; have BK130 := n0_; have HB := n1_; have BK131 := n2_; have GW131 := n3_; have GE131 := n4_; have NB130_131 := n5_; have NB131_130 := n6_; clear n0_ n1_ n2_ n3_ n4_ n5_ n6_; clear hb hbox hg; have hnb67 := NB130_131.out; have hnc67 := NB131_130.out; have hcz68_0 : w66.cell? ⟨gb130, 0, none⟩ = some (.string a0_0) := (blk_cell BK130.out 0).trans rfl; have hcz68_1 : w66.cell? ⟨gb130, 1, none⟩ = some (.string a0_1) := (blk_cell BK130.out 1).trans rfl; have hcz68_2 : w66.cell? ⟨gb130, 2, none⟩ = some (.bool a0_2) := (blk_cell BK130.out 2).trans rfl; have hfz68_0 := blk_frozen BK130.out 0; have hfz68_1 := blk_frozen BK130.out 1; have hfz68_2 := blk_frozen BK130.out 2) | (go_at_call 21; (with_reducible refine (spec_allDigits.calls k a0_1 t132 _ A3.out).mono ?_); rintro e w' ⟨rfl, ⟨nd, rfl⟩⟩; (try first | exact ⟨rfl, _, World.drewN_drewN _ _ _⟩ | exact ⟨rfl, _, Eq.trans (World.drewN_drewN _ _ _) (congrArg (World.drewN _) (Nat.add_assoc _ _ _))⟩); have hcz69_0 : w66.cell? ⟨gb131, 0, none⟩ = some (.string a1_0) := (blk_cell BK131.out 0).trans rfl; have hcz69_1 : w66.cell? ⟨gb131, 1, none⟩ = some (.string a1_1) := (blk_cell BK131.out 1).trans rfl; have hcz69_2 : w66.cell? ⟨gb131, 2, none⟩ = some (.bool a1_2) := (blk_cell BK131.out 2).trans rfl; have hfz69_0 := blk_frozen BK131.out 0; have hfz69_1 := blk_frozen BK131.out 1; have hfz69_2 := blk_frozen BK131.out 2) | (go_at_call 21; (with_reducible refine (spec_allDigits.calls k a1_1 t133 _ A4.out).mono ?_); rintro e w' ⟨rfl, ⟨nd, rfl⟩⟩; (try first | exact ⟨rfl, _, World.drewN_drewN _ _ _⟩ | exact ⟨rfl, _, Eq.trans (World.drewN_drewN _ _ _) (congrArg (World.drewN _) (Nat.add_assoc _ _ _))⟩)) | (go_at_call 36; (with_reducible refine (spec_TokenOrder.calls k a0_0 a0_1 a0_2 t134 false _ A53.out).mono ?_); rintro e w70 ⟨rfl, hb⟩; have n0_ := Aside0.mk (blk_below (g := gb130) (o := .cells #[.string a0_0, .string a0_1, .bool a0_2] 23 (0, 0)) (by (with_reducible repeat (first | refine blk_drewN ?_ _ | refine blk_drew ?_ | refine blk_alloc ?_ _)); exact BK130.out) hb); have n1_ := Aside0.mk (blk_below (g := gb131) (o := .cells #[.string a1_0, .string a1_1, .bool a1_2] 23 (0, 0)) (by (with_reducible repeat (first | refine blk_drewN ?_ _ | refine blk_drew ?_ | refine blk_alloc ?_ _)); exact BK131.out) hb); have n2_ := Aside0.mk (below_step (by repeat (first | (with_reducible first | exact HB.out | apply below_alloc | apply pw_below_drewN | apply below_drew1 | refine below_set ?_ GE130.out | refine below_set ?_ GE131.out) | exact HB.out)) hb); clear BK130; clear BK131; clear HB; have BK130 := n0_; have BK131 := n1_; have HB := n2_; clear n0_ n1_ n2_; (try clear hb); (try clear hb2); (try clear hk); (try clear hi); have hcz71_0 : w70.cell? ⟨gb131, 0, none⟩ = some (.string a1_0) := (blk_cell BK131.out 0).trans rfl; have hcz71_1 : w70.cell? ⟨gb131, 1, none⟩ = some (.string a1_1) := (blk_cell BK131.out 1).trans rfl; have hcz71_2 : w70.cell? ⟨gb131, 2, none⟩ = some (.bool a1_2) := (blk_cell BK131.out 2).trans rfl; have hfz71_0 := blk_frozen BK131.out 0; have hfz71_1 := blk_frozen BK131.out 1; have hfz71_2 := blk_frozen BK131.out 2) | (go_at_call 36; (with_reducible refine (spec_TokenOrder.calls k a1_0 a1_1 a1_2 t136 t137 _ A54.out).mono ?_); rintro e w72 ⟨rfl, hb⟩; have n0_ := Aside0.mk (blk_below (g := gb130) (o := .cells #[.string a0_0, .string a0_1, .bool a0_2] 23 (0, 0)) (by (with_reducible repeat (first | refine blk_drewN ?_ _ | refine blk_drew ?_ | refine blk_alloc ?_ _)); exact BK130.out) hb); have n1_ := Aside0.mk (blk_below (g := gb131) (o := .cells #[.string a1_0, .string a1_1, .bool a1_2] 23 (0, 0)) (by (with_reducible repeat (first | refine blk_drewN ?_ _ | refine blk_drew ?_ | refine blk_alloc ?_ _)); exact BK131.out) hb); have n2_ := Aside0.mk (below_step (by repeat (first | (with_reducible first | exact HB.out | apply below_alloc | apply pw_below_drewN | apply below_drew1 | refine below_set ?_ GE130.out | refine below_set ?_ GE131.out) | exact HB.out)) hb); clear BK130; clear BK131; clear HB; have BK130 := n0_; have BK131 := n1_; have HB := n2_; clear n0_ n1_ n2_; (try clear hb); (try clear hb2); (try clear hk); (try clear hi)) | (go_at_call 37; (with_reducible refine (spec_orderInts.calls t134 t136 t138 _ A55.out).mono ?_); rintro e w' ⟨rfl, ⟨nd, rfl⟩⟩; (try first | exact ⟨rfl, _, World.drewN_drewN _ _ _⟩ | exact ⟨rfl, _, Eq.trans (World.drewN_drewN _ _ _) (congrArg (World.drewN _) (Nat.add_assoc _ _ _))⟩))); try go_wp2_with (first | ((with_reducible refine gate_dst (N := 2) rfl ?_); refine box_event ?hg (N := 2) ?hd (cs := #[.string a0_0, .string a0_1, .bool a0_2]) (t := 23) ?hr ?_; (case hd => rfl); (case hg => rfl); (case hr => first | (go_simp; done) | (go_simp; rfl)); intro gb130 hg w65 hbox hb; have n0_ := Aside0.mk (below_step (by repeat (first | (with_reducible first | exact HB.out | apply below_alloc | apply pw_below_drewN | apply below_drew1) | exact HB.out)) hb); have n1_ := Aside0.mk (hbox); have n2_ := Aside0.mk ((by rw [hg]; exact (below_size (by repeat (first | (with_reducible first | exact HB.out | apply below_alloc | apply pw_below_drewN | apply below_drew1) | exact HB.out))) : w.heap.size ≤ gb130)); have n3_ := Aside0.mk ((by rw [hg]; exact (below_size (by repeat (first | (with_reducible first | exact HB.out | apply below_alloc | apply pw_below_drewN | apply below_drew1) | exact HB.out))) : w.heap.size ≤ gb130)); clear HB; have HB := n0_; have BK130 := n1_; have GW130 := n2_; have GE130 := n3_; clear n0_ n1_ n2_ n3_; clear hb hbox hg) | ((with_reducible refine gate_dst (N := 3) rfl ?_); refine box_event ?hg (N := 3) ?hd (cs := #[.string a1_0, .string a1_1, .bool a1_2]) (t := 23) ?hr ?_; (case hd => rfl); (case hg => rfl); (case hr => first | (go_simp; done) | (go_simp; rfl)); intro gb131 hg w66 hbox hb; have n0_ := Aside0.mk (blk_below (g := gb130) (o := .cells #[.string a0_0, .string a0_1, .bool a0_2] 23 (0, 0)) (by (with_reducible repeat (first | refine blk_drewN ?_ _ | refine blk_drew ?_ | refine blk_alloc ?_ _)); exact BK130.out) hb); have n1_ := Aside0.mk (below_step (by repeat (first | (with_reducible first | exact HB.out | apply below_alloc | apply pw_below_drewN | apply below_drew1 | refine below_set ?_ GE130.out) | exact HB.out)) hb); have n2_ := Aside0.mk (hbox); have n3_ := Aside0.mk ((by rw [hg]; exact (below_size (by repeat (first | (with_reducible first | exact HB.out | apply below_alloc | apply pw_below_drewN | apply below_drew1 | refine below_set ?_ GE130.out) | exact HB.out))) : w.heap.size ≤ gb131)); have n4_ := Aside0.mk ((by rw [hg]; exact (below_size (by repeat (first | (with_reducible first | exact HB.out | apply below_alloc | apply pw_below_drewN | apply below_drew1 | refine below_set ?_ GE130.out) | exact HB.out))) : w.heap.size ≤ gb131)); have n5_ := Aside0.mk ((by rw [hg]; exact Nat.ne_of_lt (blk_lt (g := gb130) (o := .cells #[.string a0_0, .string a0_1, .bool a0_2] 23 (0, 0)) (by (with_reducible repeat (first | refine blk_drewN ?_ _ | refine blk_drew ?_ | refine blk_alloc ?_ _)); exact BK130.out)) : gb130 ≠ gb131)); have n6_ := Aside0.mk ((by rw [hg]; exact Nat.ne_of_gt (blk_lt (g := gb130) (o := .cells #[.string a0_0, .string a0_1, .bool a0_2] 23 (0, 0)) (by (with_reducible repeat (first | refine blk_drewN ?_ _ | refine blk_drew ?_ | refine blk_alloc ?_ _)); exact BK130.out)) : gb131 ≠ gb130)); clear BK130; clear HB; have BK130 := n0_; have HB := n1_; have BK131 := n2_; have GW131 := n3_; have GE131 := n4_; have NB130_131 := n5_; have NB131_130 := n6_; clear n0_ n1_ n2_ n3_ n4_ n5_ n6_; clear hb hbox hg; have hnb67 := NB130_131.out; have hnc67 := NB131_130.out; have hcz68_0 : w66.cell? ⟨gb130, 0, none⟩ = some (.string a0_0) := (blk_cell BK130.out 0).trans rfl; have hcz68_1 : w66.cell? ⟨gb130, 1, none⟩ = some (.string a0_1) := (blk_cell BK130.out 1).trans rfl; have hcz68_2 : w66.cell? ⟨gb130, 2, none⟩ = some (.bool a0_2) := (blk_cell BK130.out 2).trans rfl; have hfz68_0 := blk_frozen BK130.out 0; have hfz68_1 := blk_frozen BK130.out 1; have hfz68_2 := blk_frozen BK130.out 2) | (go_at_call 21; (with_reducible refine (spec_allDigits.calls k a0_1 t132 _ A3.out).mono ?_); rintro e w' ⟨rfl, ⟨nd, rfl⟩⟩; (try first | exact ⟨rfl, _, World.drewN_drewN _ _ _⟩ | exact ⟨rfl, _, Eq.trans (World.drewN_drewN _ _ _) (congrArg (World.drewN _) (Nat.add_assoc _ _ _))⟩); have hcz69_0 : w66.cell? ⟨gb131, 0, none⟩ = some (.string a1_0) := (blk_cell BK131.out 0).trans rfl; have hcz69_1 : w66.cell? ⟨gb131, 1, none⟩ = some (.string a1_1) := (blk_cell BK131.out 1).trans rfl; have hcz69_2 : w66.cell? ⟨gb131, 2, none⟩ = some (.bool a1_2) := (blk_cell BK131.out 2).trans rfl; have hfz69_0 := blk_frozen BK131.out 0; have hfz69_1 := blk_frozen BK131.out 1; have hfz69_2 := blk_frozen BK131.out 2) | (go_at_call 21; (with_reducible refine (spec_allDigits.calls k a1_1 t133 _ A4.out).mono ?_); rintro e w' ⟨rfl, ⟨nd, rfl⟩⟩; (try first | exact ⟨rfl, _, World.drewN_drewN _ _ _⟩ | exact ⟨rfl, _, Eq.trans (World.drewN_drewN _ _ _) (congrArg (World.drewN _) (Nat.add_assoc _ _ _))⟩)) | (go_at_call 36; (with_reducible refine (spec_TokenOrder.calls k a0_0 a0_1 a0_2 t134 false _ A53.out).mono ?_); rintro e w70 ⟨rfl, hb⟩; have n0_ := Aside0.mk (blk_below (g := gb130) (o := .cells #[.string a0_0, .string a0_1, .bool a0_2] 23 (0, 0)) (by (with_reducible repeat (first | refine blk_drewN ?_ _ | refine blk_drew ?_ | refine blk_alloc ?_ _)); exact BK130.out) hb); have n1_ := Aside0.mk (blk_below (g := gb131) (o := .cells #[.string a1_0, .string a1_1, .bool a1_2] 23 (0, 0)) (by (with_reducible repeat (first | refine blk_drewN ?_ _ | refine blk_drew ?_ | refine blk_alloc ?_ _)); exact BK131.out) hb); have n2_ := Aside0.mk (below_step (by repeat (first | (with_reducible first | exact HB.out | apply below_alloc | apply pw_below_drewN | apply below_drew1 | refine below_set ?_ GE130.out | refine below_set ?_ GE131.out) | exact HB.out)) hb); clear BK130; clear BK131; clear HB; have BK130 := n0_; have BK131 := n1_; have HB := n2_; clear n0_ n1_ n2_; (try clear hb); (try clear hb2); (try clear hk); (try clear hi); have hcz71_0 : w70.cell? ⟨gb131, 0, none⟩ = some (.string a1_0) := (blk_cell BK131.out 0).trans rfl; have hcz71_1 : w70.cell? ⟨gb131, 1, none⟩ = some (.string a1_1) := (blk_cell BK131.out 1).trans rfl; have hcz71_2 : w70.cell? ⟨gb131, 2, none⟩ = some (.bool a1_2) := (blk_cell BK131.out 2).trans rfl; have hfz71_0 := blk_frozen BK131.out 0; have hfz71_1 := blk_frozen BK131.out 1; have hfz71_2 := blk_frozen BK131.out 2) | (go_at_call 36; (with_reducible refine (spec_TokenOrder.calls k a1_0 a1_1 a1_2 t136 t137 _ A54.out).mono ?_); rintro e w72 ⟨rfl, hb⟩; have n0_ := Aside0.mk (blk_below (g := gb130) (o := .cells #[.string a0_0, .string a0_1, .bool a0_2] 23 (0, 0)) (by (with_reducible repeat (first | refine blk_drewN ?_ _ | refine blk_drew ?_ | refine blk_alloc ?_ _)); exact BK130.out) hb); have n1_ := Aside0.mk (blk_below (g := gb131) (o := .cells #[.string a1_0, .string a1_1, .bool a1_2] 23 (0, 0)) (by (with_reducible repeat (first | refine blk_drewN ?_ _ | refine blk_drew ?_ | refine blk_alloc ?_ _)); exact BK131.out) hb); have n2_ := Aside0.mk (below_step (by repeat (first | (with_reducible first | exact HB.out | apply below_alloc | apply pw_below_drewN | apply below_drew1 | refine below_set ?_ GE130.out | refine below_set ?_ GE131.out) | exact HB.out)) hb); clear BK130; clear BK131; clear HB; have BK130 := n0_; have BK131 := n1_; have HB := n2_; clear n0_ n1_ n2_; (try clear hb); (try clear hb2); (try clear hk); (try clear hi)) | (go_at_call 37; (with_reducible refine (spec_orderInts.calls t134 t136 t138 _ A55.out).mono ?_); rintro e w' ⟨rfl, ⟨nd, rfl⟩⟩; (try first | exact ⟨rfl, _, World.drewN_drewN _ _ _⟩ | exact ⟨rfl, _, Eq.trans (World.drewN_drewN _ _ _) (congrArg (World.drewN _) (Nat.add_assoc _ _ _))⟩))))
      go_ret2
      exact ⟨by first | rfl | (simp [errW_none, errW_some] <;> rfl) | (simp [*, errW_none, errW_some] <;> rfl), by repeat (first | (with_reducible first | exact HB.out | apply below_alloc | apply pw_below_drewN | apply below_drew1 | refine below_set ?_ GE130.out | refine below_set ?_ GE131.out) | exact HB.out)⟩

/-! ### spec_TokenLess: function 10 -/
def spec_TokenLess.f (k : Nat) (a0_0 : ByteArray) (a0_1 : ByteArray) (a0_2 : Bool) (a1_0 : ByteArray) (a1_1 : ByteArray) (a1_2 : Bool) : Option (Bool × Bool) := (spec_mavenOne.f k a0_0 a0_1 a0_2 a1_0 a1_1 a1_2).bind fun bt147 => (if bt147.2 = true then (some (decide (bt147.1 < 0), bt147.2)) else (some (false, bt147.2)))
theorem spec_TokenLess.mono : ∀ a0 a1 a2 a3 a4 a5 k, LeO (spec_TokenLess.f k a0 a1 a2 a3 a4 a5) (spec_TokenLess.f (k + 1) a0 a1 a2 a3 a4 a5) := by
  intro a0 a1 a2 a3 a4 a5 k
  unfold spec_TokenLess.f
  repeat' first
      | (with_reducible exact spec_mavenOne.mono _ _ _ _ _ _ _)
      | (with_reducible exact LeO.refl _)
      | (with_reducible exact LeO.none _)
      | (with_reducible refine LeO.ite ?_ ?_)
      | (with_reducible refine LeO.bind ?_ (fun _ => ?_))
      | exact spec_mavenOne.mono _ _ _ _ _ _ _
      | exact LeO.none _
      | refine LeO.ite ?_ ?_
      | refine LeO.bind ?_ (fun _ => ?_)
set_option maxHeartbeats 8000000 in
set_option maxRecDepth 100000 in
theorem spec_TokenLess.calls (k : Nat) (a0_0 : ByteArray) (a0_1 : ByteArray) (a0_2 : Bool) (a1_0 : ByteArray) (a1_1 : ByteArray) (a1_2 : Bool) (r1 : Bool) (r2 : Bool) (w : World) (h : spec_TokenLess.f k a0_0 a0_1 a0_2 a1_0 a1_1 a1_2 = some (r1, r2)) :
    Calls Tryd.prog 10 #[.agg #[.string a0_0, .string a0_1, .bool a0_2], .agg #[.string a1_0, .string a1_1, .bool a1_2]] w fun e w' => e = .returned (.tuple #[.bool r1, .bool r2]) ∧ Below w.heap.size w w' := by
  have hu23 := Tryd.underlying23
  have HB := Aside0.mk (Below.refl w.heap.size w)
  have H : ((spec_mavenOne.f k a0_0 a0_1 a0_2 a1_0 a1_1 a1_2).bind fun bt147 => (if bt147.2 = true then (some (decide (bt147.1 < 0), bt147.2)) else (some (false, bt147.2)))) = some (r1, r2) := h
  clear h
  replace H := Option.bind_eq_some_iff.mp H
  obtain ⟨⟨t147, t148⟩, A30, H⟩ := H
  replace H : (if t148 = true then (some (decide (t147 < 0), t148)) else (some (false, t148))) = some (r1, r2) := H
  have A3 := Aside0.mk A30
  clear A30
  by_cases c4 : t148 = true
  · subst c4
    have H1 : (some (decide (t147 < 0), true)) = some (r1, r2) := by rw [if_pos rfl] at H; exact H
    clear H
    have H := H1
    clear H1
    simp only [Option.some.injEq, Prod.mk.injEq] at H
    obtain ⟨rfl, rfl⟩ := H
    go_enter Tryd.func10, Tryd.ntmps10
    go_wp2_with (first | ((with_reducible refine gate_dst (N := 2) rfl ?_); refine box_event ?hg (N := 2) ?hd (cs := #[.string a0_0, .string a0_1, .bool a0_2]) (t := 23) ?hr ?_; (case hd => rfl); (case hg => rfl); (case hr => first | (go_simp; done) | (go_simp; rfl)); intro gb145 hg w5 hbox hb; have n0_ := Aside0.mk (below_step (by repeat (first | (with_reducible first | exact HB.out | apply below_alloc | apply pw_below_drewN | apply below_drew1) | exact HB.out)) hb); have n1_ := Aside0.mk (hbox); have n2_ := Aside0.mk ((by rw [hg]; exact (below_size (by repeat (first | (with_reducible first | exact HB.out | apply below_alloc | apply pw_below_drewN | apply below_drew1) | exact HB.out))) : w.heap.size ≤ gb145)); have n3_ := Aside0.mk ((by rw [hg]; exact (below_size (by repeat (first | (with_reducible first | exact HB.out | apply below_alloc | apply pw_below_drewN | apply below_drew1) | exact HB.out))) : w.heap.size ≤ gb145)); clear HB; have HB := n0_; have BK145 := n1_; have GW145 := n2_; have GE145 := n3_; clear n0_ n1_ n2_ n3_; clear hb hbox hg) | ((with_reducible refine gate_dst (N := 3) rfl ?_); refine box_event ?hg (N := 3) ?hd (cs := #[.string a1_0, .string a1_1, .bool a1_2]) (t := 23) ?hr ?_; (case hd => rfl); (case hg => rfl); (case hr => first | (go_simp; done) | (go_simp; rfl)); intro gb146 hg w6 hbox hb; have n0_ := Aside0.mk (blk_below (g := gb145) (o := .cells #[.string a0_0, .string a0_1, .bool a0_2] 23 (0, 0)) (by (with_reducible repeat (first | refine blk_drewN ?_ _ | refine blk_drew ?_ | refine blk_alloc ?_ _)); exact BK145.out) hb); have n1_ := Aside0.mk (below_step (by repeat (first | (with_reducible first | exact HB.out | apply below_alloc | apply pw_below_drewN | apply below_drew1 | refine below_set ?_ GE145.out) | exact HB.out)) hb); have n2_ := Aside0.mk (hbox); have n3_ := Aside0.mk ((by rw [hg]; exact (below_size (by repeat (first | (with_reducible first | exact HB.out | apply below_alloc | apply pw_below_drewN | apply below_drew1 | refine below_set ?_ GE145.out) | exact HB.out))) : w.heap.size ≤ gb146)); have n4_ := Aside0.mk ((by rw [hg]; exact (below_size (by repeat (first | (with_reducible first | exact HB.out | apply below_alloc | apply pw_below_drewN | apply below_drew1 | refine below_set ?_ GE145.out) | exact HB.out))) : w.heap.size ≤ gb146)); have n5_ := Aside0.mk ((by rw [hg]; exact Nat.ne_of_lt (blk_lt (g := gb145) (o := .cells #[.string a0_0, .string a0_1, .bool a0_2] 23 (0, 0)) (by (with_reducible repeat (first | refine blk_drewN ?_ _ | refine blk_drew ?_ | refine blk_alloc ?_ _)); exact BK145.out)) : gb145 ≠ gb146)); have n6_ := Aside0.mk ((by rw [hg]; exact Nat.ne_of_gt (blk_lt (g := gb145) (o := .cells #[.string a0_0, .string a0_1, .bool a0_2] 23 (0, 0)) (by (with_reducible repeat (first | refine blk_drewN ?_ _ | refine blk_drew ?_ | refine blk_alloc ?_ _)); exact BK145.out)) : gb146 ≠ gb145)); clear BK145; clear HB; have BK145 := n0_; have HB := n1_; have BK146 := n2_; have GW146 := n3_; have GE146 := n4_; have NB145_146 := n5_; have NB146_145 := n6_; clear n0_ n1_ n2_ n3_ n4_ n5_ n6_; clear hb hbox hg; have hnb7 := NB145_146.out; have hnc7 := NB146_145.out; have hcz8_0 : w6.cell? ⟨gb145, 0, none⟩ = some (.string a0_0) := (blk_cell BK145.out 0).trans rfl; have hcz8_1 : w6.cell? ⟨gb145, 1, none⟩ = some (.string a0_1) := (blk_cell BK145.out 1).trans rfl; have hcz8_2 : w6.cell? ⟨gb145, 2, none⟩ = some (.bool a0_2) := (blk_cell BK145.out 2).trans rfl; have hfz8_0 := blk_frozen BK145.out 0; have hfz8_1 := blk_frozen BK145.out 1; have hfz8_2 := blk_frozen BK145.out 2; have hcz9_0 : w6.cell? ⟨gb146, 0, none⟩ = some (.string a1_0) := (blk_cell BK146.out 0).trans rfl; have hcz9_1 : w6.cell? ⟨gb146, 1, none⟩ = some (.string a1_1) := (blk_cell BK146.out 1).trans rfl; have hcz9_2 : w6.cell? ⟨gb146, 2, none⟩ = some (.bool a1_2) := (blk_cell BK146.out 2).trans rfl; have hfz9_0 := blk_frozen BK146.out 0; have hfz9_1 := blk_frozen BK146.out 1; have hfz9_2 := blk_frozen BK146.out 2) | ((with_reducible refine gate_callee (f := 24) rfl ?_); refine goesL_ (some 10) rfl rfl Tryd.func24 (by kernel_rfl) rfl #[.agg #[.string a0_0, .string a0_1, .bool a0_2], .agg #[.string a1_0, .string a1_1, .bool a1_2]] rfl (by (try simp only [List.map_toArray, List.map_cons, List.map_nil]); first | done | rfl | (simp only [List.length_drop, List.length_take]; rfl)) ?_; (with_reducible refine (spec_mavenOne.calls k a0_0 a0_1 a0_2 a1_0 a1_1 a1_2 t147 true _ A3.out).mono ?_); rintro e w10 ⟨rfl, hb⟩; refine ⟨_, rfl, ?_⟩; have n0_ := Aside0.mk (blk_below (g := gb145) (o := .cells #[.string a0_0, .string a0_1, .bool a0_2] 23 (0, 0)) (by (with_reducible repeat (first | refine blk_drewN ?_ _ | refine blk_drew ?_ | refine blk_alloc ?_ _)); exact BK145.out) hb); have n1_ := Aside0.mk (blk_below (g := gb146) (o := .cells #[.string a1_0, .string a1_1, .bool a1_2] 23 (0, 0)) (by (with_reducible repeat (first | refine blk_drewN ?_ _ | refine blk_drew ?_ | refine blk_alloc ?_ _)); exact BK146.out) hb); have n2_ := Aside0.mk (below_step (by repeat (first | (with_reducible first | exact HB.out | apply below_alloc | apply pw_below_drewN | apply below_drew1 | refine below_set ?_ GE145.out | refine below_set ?_ GE146.out) | exact HB.out)) hb); clear BK145; clear BK146; clear HB; have BK145 := n0_; have BK146 := n1_; have HB := n2_; clear n0_ n1_ n2_; (try clear hb); (try clear hb2); (try clear hk); (try clear hi)))
    go_ret2
    exact ⟨by first | rfl | (simp [errW_none, errW_some] <;> rfl) | (simp [*, errW_none, errW_some] <;> rfl), by repeat (first | (with_reducible first | exact HB.out | apply below_alloc | apply pw_below_drewN | apply below_drew1 | refine below_set ?_ GE145.out | refine below_set ?_ GE146.out) | exact HB.out)⟩
  · replace c4 := Bool.eq_false_iff.mpr c4
    subst c4
    have H1 : (some (false, false)) = some (r1, r2) := by rw [if_neg (show ¬ (false = true) by decide)] at H; exact H
    clear H
    have H := H1
    clear H1
    simp only [Option.some.injEq, Prod.mk.injEq] at H
    obtain ⟨rfl, rfl⟩ := H
    go_enter Tryd.func10, Tryd.ntmps10
    go_wp2_with (first | ((with_reducible refine gate_dst (N := 2) rfl ?_); refine box_event ?hg (N := 2) ?hd (cs := #[.string a0_0, .string a0_1, .bool a0_2]) (t := 23) ?hr ?_; (case hd => rfl); (case hg => rfl); (case hr => first | (go_simp; done) | (go_simp; rfl)); intro gb145 hg w11 hbox hb; have n0_ := Aside0.mk (below_step (by repeat (first | (with_reducible first | exact HB.out | apply below_alloc | apply pw_below_drewN | apply below_drew1) | exact HB.out)) hb); have n1_ := Aside0.mk (hbox); have n2_ := Aside0.mk ((by rw [hg]; exact (below_size (by repeat (first | (with_reducible first | exact HB.out | apply below_alloc | apply pw_below_drewN | apply below_drew1) | exact HB.out))) : w.heap.size ≤ gb145)); have n3_ := Aside0.mk ((by rw [hg]; exact (below_size (by repeat (first | (with_reducible first | exact HB.out | apply below_alloc | apply pw_below_drewN | apply below_drew1) | exact HB.out))) : w.heap.size ≤ gb145)); clear HB; have HB := n0_; have BK145 := n1_; have GW145 := n2_; have GE145 := n3_; clear n0_ n1_ n2_ n3_; clear hb hbox hg) | ((with_reducible refine gate_dst (N := 3) rfl ?_); refine box_event ?hg (N := 3) ?hd (cs := #[.string a1_0, .string a1_1, .bool a1_2]) (t := 23) ?hr ?_; (case hd => rfl); (case hg => rfl); (case hr => first | (go_simp; done) | (go_simp; rfl)); intro gb146 hg w12 hbox hb; have n0_ := Aside0.mk (blk_below (g := gb145) (o := .cells #[.string a0_0, .string a0_1, .bool a0_2] 23 (0, 0)) (by (with_reducible repeat (first | refine blk_drewN ?_ _ | refine blk_drew ?_ | refine blk_alloc ?_ _)); exact BK145.out) hb); have n1_ := Aside0.mk (below_step (by repeat (first | (with_reducible first | exact HB.out | apply below_alloc | apply pw_below_drewN | apply below_drew1 | refine below_set ?_ GE145.out) | exact HB.out)) hb); have n2_ := Aside0.mk (hbox); have n3_ := Aside0.mk ((by rw [hg]; exact (below_size (by repeat (first | (with_reducible first | exact HB.out | apply below_alloc | apply pw_below_drewN | apply below_drew1 | refine below_set ?_ GE145.out) | exact HB.out))) : w.heap.size ≤ gb146)); have n4_ := Aside0.mk ((by rw [hg]; exact (below_size (by repeat (first | (with_reducible first | exact HB.out | apply below_alloc | apply pw_below_drewN | apply below_drew1 | refine below_set ?_ GE145.out) | exact HB.out))) : w.heap.size ≤ gb146)); have n5_ := Aside0.mk ((by rw [hg]; exact Nat.ne_of_lt (blk_lt (g := gb145) (o := .cells #[.string a0_0, .string a0_1, .bool a0_2] 23 (0, 0)) (by (with_reducible repeat (first | refine blk_drewN ?_ _ | refine blk_drew ?_ | refine blk_alloc ?_ _)); exact BK145.out)) : gb145 ≠ gb146)); have n6_ := Aside0.mk ((by rw [hg]; exact Nat.ne_of_gt (blk_lt (g := gb145) (o := .cells #[.string a0_0, .string a0_1, .bool a0_2] 23 (0, 0)) (by (with_reducible repeat (first | refine blk_drewN ?_ _ | refine blk_drew ?_ | refine blk_alloc ?_ _)); exact BK145.out)) : gb146 ≠ gb145)); clear BK145; clear HB; have BK145 := n0_; have HB := n1_; have BK146 := n2_; have GW146 := n3_; have GE146 := n4_; have NB145_146 := n5_; have NB146_145 := n6_; clear n0_ n1_ n2_ n3_ n4_ n5_ n6_; clear hb hbox hg; have hnb13 := NB145_146.out; have hnc13 := NB146_145.out; have hcz14_0 : w12.cell? ⟨gb145, 0, none⟩ = some (.string a0_0) := (blk_cell BK145.out 0).trans rfl; have hcz14_1 : w12.cell? ⟨gb145, 1, none⟩ = some (.string a0_1) := (blk_cell BK145.out 1).trans rfl; have hcz14_2 : w12.cell? ⟨gb145, 2, none⟩ = some (.bool a0_2) := (blk_cell BK145.out 2).trans rfl; have hfz14_0 := blk_frozen BK145.out 0; have hfz14_1 := blk_frozen BK145.out 1; have hfz14_2 := blk_frozen BK145.out 2; have hcz15_0 : w12.cell? ⟨gb146, 0, none⟩ = some (.string a1_0) := (blk_cell BK146.out 0).trans rfl; have hcz15_1 : w12.cell? ⟨gb146, 1, none⟩ = some (.string a1_1) := (blk_cell BK146.out 1).trans rfl; have hcz15_2 : w12.cell? ⟨gb146, 2, none⟩ = some (.bool a1_2) := (blk_cell BK146.out 2).trans rfl; have hfz15_0 := blk_frozen BK146.out 0; have hfz15_1 := blk_frozen BK146.out 1; have hfz15_2 := blk_frozen BK146.out 2) | ((with_reducible refine gate_callee (f := 24) rfl ?_); refine goesL_ (some 10) rfl rfl Tryd.func24 (by kernel_rfl) rfl #[.agg #[.string a0_0, .string a0_1, .bool a0_2], .agg #[.string a1_0, .string a1_1, .bool a1_2]] rfl (by (try simp only [List.map_toArray, List.map_cons, List.map_nil]); first | done | rfl | (simp only [List.length_drop, List.length_take]; rfl)) ?_; (with_reducible refine (spec_mavenOne.calls k a0_0 a0_1 a0_2 a1_0 a1_1 a1_2 t147 false _ A3.out).mono ?_); rintro e w16 ⟨rfl, hb⟩; refine ⟨_, rfl, ?_⟩; have n0_ := Aside0.mk (blk_below (g := gb145) (o := .cells #[.string a0_0, .string a0_1, .bool a0_2] 23 (0, 0)) (by (with_reducible repeat (first | refine blk_drewN ?_ _ | refine blk_drew ?_ | refine blk_alloc ?_ _)); exact BK145.out) hb); have n1_ := Aside0.mk (blk_below (g := gb146) (o := .cells #[.string a1_0, .string a1_1, .bool a1_2] 23 (0, 0)) (by (with_reducible repeat (first | refine blk_drewN ?_ _ | refine blk_drew ?_ | refine blk_alloc ?_ _)); exact BK146.out) hb); have n2_ := Aside0.mk (below_step (by repeat (first | (with_reducible first | exact HB.out | apply below_alloc | apply pw_below_drewN | apply below_drew1 | refine below_set ?_ GE145.out | refine below_set ?_ GE146.out) | exact HB.out)) hb); clear BK145; clear BK146; clear HB; have BK145 := n0_; have BK146 := n1_; have HB := n2_; clear n0_ n1_ n2_; (try clear hb); (try clear hb2); (try clear hk); (try clear hi)))
    go_ret2
    exact ⟨by first | rfl | (simp [errW_none, errW_some] <;> rfl) | (simp [*, errW_none, errW_some] <;> rfl), by repeat (first | (with_reducible first | exact HB.out | apply below_alloc | apply pw_below_drewN | apply below_drew1 | refine below_set ?_ GE145.out | refine below_set ?_ GE146.out) | exact HB.out)⟩

end Go.Proofs.YtondnpfncgcdkaaDoor.Z
