-- Written by a program of this session (myprint.py).
import Derived.Test.YtondnpfncgcdkaaDoorZ0
import Derived.Test.YtondnpfncgcdkaaDoorZ1
import Derived.Test.YtondnpfncgcdkaaDoorZ2
import Derived.Test.YtondnpfncgcdkaaDoorGe
namespace Go.Proofs.YtondnpfncgcdkaaDoor.Z
open Go.Proofs.YtondnpfncgcdkaaDoor.Gw
open Go.RowKit Go.Proofs.YtondnpfncgcdkaaDoorW.PrintWords Go.Proofs.YtondnpfncgcdkaaDoorW.PrintLast Go.Proofs.YtondnpfncgcdkaaDoorW.PrintMore
attribute [local go_sem high] Go.Proofs.YtondnpfncgcdkaaDoor.Ge.gtr_str
attribute [local go_sem] max2_int min2_int max_two min_two max_three min_three max_four min_four   -- for this text's walks alone
set_option linter.unusedVariables false
set_option linter.unusedSimpArgs false

/-! ### spec_mavenOne: function 24 -/
mutual
def spec_mavenOne.j0 : Nat → Bool → Bool → Bool → ByteArray → ByteArray → Bool → ByteArray → ByteArray → Bool → Option (Int × Bool)
  | 0, _, _, _, _, _, _, _, _, _ => none
  | k + 1, x6, x7, x40, x140000, x140001, x140002, x141000, x141001, x141002 => if x40 = true then ((spec_orderNumbers.f k x140001 x141001).bind fun t148 => (some (t148, true))) else (if x6 = true then (spec_mavenOne.j1 k x6 x7 false x140000 x140001 x140002 x141000 x141001 x141002) else (spec_mavenOne.j1 k x6 x7 (!x7) x140000 x140001 x140002 x141000 x141001 x141002))
def spec_mavenOne.j1 : Nat → Bool → Bool → Bool → ByteArray → ByteArray → Bool → ByteArray → ByteArray → Bool → Option (Int × Bool)
  | 0, _, _, _, _, _, _, _, _, _ => none
  | k + 1, x6, x7, x50, x140000, x140001, x140002, x141000, x141001, x141002 => if x50 = true then ((spec_mavenQualifiers.f k x140001 x141001).bind fun t149 => (some (t149, true))) else (if x6 = true then (if x140002 = true then ((spec_Keyword.f k x141001).bind fun t150 => ((spec_Keyword.f k (⟨#[115, 112]⟩ : ByteArray)).bind fun t151 => (spec_mavenOne.j2 k x6 x7 (decide (t150 > t151)) x140000 x140001 x140002 x141000 x141001 x141002))) else (spec_mavenOne.j2 k x6 x7 false x140000 x140001 x140002 x141000 x141001 x141002)) else (spec_mavenOne.j2 k x6 x7 false x140000 x140001 x140002 x141000 x141001 x141002))
def spec_mavenOne.j2 : Nat → Bool → Bool → Bool → ByteArray → ByteArray → Bool → ByteArray → ByteArray → Bool → Option (Int × Bool)
  | 0, _, _, _, _, _, _, _, _, _ => none
  | k + 1, x6, x7, x62, x140000, x140001, x140002, x141000, x141001, x141002 => if x62 = true then (some ((-1), true)) else (if x7 = true then (if x141002 = true then ((spec_Keyword.f k x140001).bind fun t152 => ((spec_Keyword.f k (⟨#[115, 112]⟩ : ByteArray)).bind fun t153 => (spec_mavenOne.j3 k x6 (decide (t152 > t153))))) else (spec_mavenOne.j3 k x6 false)) else (spec_mavenOne.j3 k x6 false))
def spec_mavenOne.j3 : Nat → Bool → Bool → Option (Int × Bool)
  | 0, _, _ => none
  | k + 1, x6, x75 => if x75 = true then (some (1, true)) else (if x6 = true then (some (1, true)) else (some ((-1), true)))
end
def spec_mavenOne.f (k : Nat) (a0_0 : ByteArray) (a0_1 : ByteArray) (a0_2 : Bool) (a1_0 : ByteArray) (a1_1 : ByteArray) (a1_2 : Bool) : Option (Int × Bool) := (spec_allDigits.f k a0_1).bind fun t141 => ((spec_allDigits.f k a1_1).bind fun t142 => (if a0_0.toList = a1_0.toList then (if t141 = true then (spec_mavenOne.j0 k t141 t142 t142 a0_0 a0_1 a0_2 a1_0 a1_1 a1_2) else (spec_mavenOne.j0 k t141 t142 false a0_0 a0_1 a0_2 a1_0 a1_1 a1_2)) else ((spec_TokenOrder.f k a0_0 a0_1 a0_2).bind fun bt143 => ((spec_TokenOrder.f k a1_0 a1_1 a1_2).bind fun bt145 => ((spec_orderInts.f bt143.1 bt145.1).bind fun t147 => (if bt143.2 = true then (some (t147, bt145.2)) else (some (t147, false))))))))
theorem spec_mavenOne.mono_l : ∀ k, (∀ y0 y1 y2 y3 y4 y5 y6 y7 y8, LeO (spec_mavenOne.j0 k y0 y1 y2 y3 y4 y5 y6 y7 y8) (spec_mavenOne.j0 (k + 1) y0 y1 y2 y3 y4 y5 y6 y7 y8)) ∧ (∀ y0 y1 y2 y3 y4 y5 y6 y7 y8, LeO (spec_mavenOne.j1 k y0 y1 y2 y3 y4 y5 y6 y7 y8) (spec_mavenOne.j1 (k + 1) y0 y1 y2 y3 y4 y5 y6 y7 y8)) ∧ (∀ y0 y1 y2 y3 y4 y5 y6 y7 y8, LeO (spec_mavenOne.j2 k y0 y1 y2 y3 y4 y5 y6 y7 y8) (spec_mavenOne.j2 (k + 1) y0 y1 y2 y3 y4 y5 y6 y7 y8)) ∧ (∀ y0 y1, LeO (spec_mavenOne.j3 k y0 y1) (spec_mavenOne.j3 (k + 1) y0 y1))
  | 0 => ⟨fun _ _ _ _ _ _ _ _ _ r h => by simp [spec_mavenOne.j0] at h, fun _ _ _ _ _ _ _ _ _ r h => by simp [spec_mavenOne.j1] at h, fun _ _ _ _ _ _ _ _ _ r h => by simp [spec_mavenOne.j2] at h, fun _ _ r h => by simp [spec_mavenOne.j3] at h⟩
  | k + 1 => by
    obtain ⟨ih0, ih1, ih2, ih3⟩ := spec_mavenOne.mono_l k
    refine ⟨?_, ?_, ?_, ?_⟩
    · intro y0 y1 y2 y3 y4 y5 y6 y7 y8
      unfold spec_mavenOne.j0
      repeat' first
      | (with_reducible exact ih0 _ _ _ _ _ _ _ _ _)
      | (with_reducible exact ih1 _ _ _ _ _ _ _ _ _)
      | (with_reducible exact ih2 _ _ _ _ _ _ _ _ _)
      | (with_reducible exact ih3 _ _)
      | (with_reducible exact spec_Keyword.mono _ _)
      | (with_reducible exact spec_TokenOrder.mono _ _ _ _)
      | (with_reducible exact spec_allDigits.mono _ _)
      | (with_reducible exact spec_mavenQualifiers.mono _ _ _)
      | (with_reducible exact spec_orderNumbers.mono _ _ _)
      | (with_reducible exact LeO.refl _)
      | (with_reducible exact LeO.none _)
      | (with_reducible refine LeO.ite ?_ ?_)
      | (with_reducible refine LeO.bind ?_ (fun _ => ?_))
      | exact ih0 _ _ _ _ _ _ _ _ _
      | exact ih1 _ _ _ _ _ _ _ _ _
      | exact ih2 _ _ _ _ _ _ _ _ _
      | exact ih3 _ _
      | exact spec_Keyword.mono _ _
      | exact spec_TokenOrder.mono _ _ _ _
      | exact spec_allDigits.mono _ _
      | exact spec_mavenQualifiers.mono _ _ _
      | exact spec_orderNumbers.mono _ _ _
      | exact LeO.none _
      | refine LeO.ite ?_ ?_
      | refine LeO.bind ?_ (fun _ => ?_)
    · intro y0 y1 y2 y3 y4 y5 y6 y7 y8
      unfold spec_mavenOne.j1
      repeat' first
      | (with_reducible exact ih0 _ _ _ _ _ _ _ _ _)
      | (with_reducible exact ih1 _ _ _ _ _ _ _ _ _)
      | (with_reducible exact ih2 _ _ _ _ _ _ _ _ _)
      | (with_reducible exact ih3 _ _)
      | (with_reducible exact spec_Keyword.mono _ _)
      | (with_reducible exact spec_TokenOrder.mono _ _ _ _)
      | (with_reducible exact spec_allDigits.mono _ _)
      | (with_reducible exact spec_mavenQualifiers.mono _ _ _)
      | (with_reducible exact spec_orderNumbers.mono _ _ _)
      | (with_reducible exact LeO.refl _)
      | (with_reducible exact LeO.none _)
      | (with_reducible refine LeO.ite ?_ ?_)
      | (with_reducible refine LeO.bind ?_ (fun _ => ?_))
      | exact ih0 _ _ _ _ _ _ _ _ _
      | exact ih1 _ _ _ _ _ _ _ _ _
      | exact ih2 _ _ _ _ _ _ _ _ _
      | exact ih3 _ _
      | exact spec_Keyword.mono _ _
      | exact spec_TokenOrder.mono _ _ _ _
      | exact spec_allDigits.mono _ _
      | exact spec_mavenQualifiers.mono _ _ _
      | exact spec_orderNumbers.mono _ _ _
      | exact LeO.none _
      | refine LeO.ite ?_ ?_
      | refine LeO.bind ?_ (fun _ => ?_)
    · intro y0 y1 y2 y3 y4 y5 y6 y7 y8
      unfold spec_mavenOne.j2
      repeat' first
      | (with_reducible exact ih0 _ _ _ _ _ _ _ _ _)
      | (with_reducible exact ih1 _ _ _ _ _ _ _ _ _)
      | (with_reducible exact ih2 _ _ _ _ _ _ _ _ _)
      | (with_reducible exact ih3 _ _)
      | (with_reducible exact spec_Keyword.mono _ _)
      | (with_reducible exact spec_TokenOrder.mono _ _ _ _)
      | (with_reducible exact spec_allDigits.mono _ _)
      | (with_reducible exact spec_mavenQualifiers.mono _ _ _)
      | (with_reducible exact spec_orderNumbers.mono _ _ _)
      | (with_reducible exact LeO.refl _)
      | (with_reducible exact LeO.none _)
      | (with_reducible refine LeO.ite ?_ ?_)
      | (with_reducible refine LeO.bind ?_ (fun _ => ?_))
      | exact ih0 _ _ _ _ _ _ _ _ _
      | exact ih1 _ _ _ _ _ _ _ _ _
      | exact ih2 _ _ _ _ _ _ _ _ _
      | exact ih3 _ _
      | exact spec_Keyword.mono _ _
      | exact spec_TokenOrder.mono _ _ _ _
      | exact spec_allDigits.mono _ _
      | exact spec_mavenQualifiers.mono _ _ _
      | exact spec_orderNumbers.mono _ _ _
      | exact LeO.none _
      | refine LeO.ite ?_ ?_
      | refine LeO.bind ?_ (fun _ => ?_)
    · intro y0 y1
      unfold spec_mavenOne.j3
      repeat' first
      | (with_reducible exact ih0 _ _ _ _ _ _ _ _ _)
      | (with_reducible exact ih1 _ _ _ _ _ _ _ _ _)
      | (with_reducible exact ih2 _ _ _ _ _ _ _ _ _)
      | (with_reducible exact ih3 _ _)
      | (with_reducible exact spec_Keyword.mono _ _)
      | (with_reducible exact spec_TokenOrder.mono _ _ _ _)
      | (with_reducible exact spec_allDigits.mono _ _)
      | (with_reducible exact spec_mavenQualifiers.mono _ _ _)
      | (with_reducible exact spec_orderNumbers.mono _ _ _)
      | (with_reducible exact LeO.refl _)
      | (with_reducible exact LeO.none _)
      | (with_reducible refine LeO.ite ?_ ?_)
      | (with_reducible refine LeO.bind ?_ (fun _ => ?_))
      | exact ih0 _ _ _ _ _ _ _ _ _
      | exact ih1 _ _ _ _ _ _ _ _ _
      | exact ih2 _ _ _ _ _ _ _ _ _
      | exact ih3 _ _
      | exact spec_Keyword.mono _ _
      | exact spec_TokenOrder.mono _ _ _ _
      | exact spec_allDigits.mono _ _
      | exact spec_mavenQualifiers.mono _ _ _
      | exact spec_orderNumbers.mono _ _ _
      | exact LeO.none _
      | refine LeO.ite ?_ ?_
      | refine LeO.bind ?_ (fun _ => ?_)
theorem spec_mavenOne.mono : ∀ a0 a1 a2 a3 a4 a5 k, LeO (spec_mavenOne.f k a0 a1 a2 a3 a4 a5) (spec_mavenOne.f (k + 1) a0 a1 a2 a3 a4 a5) := by
  intro a0 a1 a2 a3 a4 a5 k
  obtain ⟨ih0, ih1, ih2, ih3⟩ := spec_mavenOne.mono_l k
  unfold spec_mavenOne.f
  repeat' first
      | (with_reducible exact ih0 _ _ _ _ _ _ _ _ _)
      | (with_reducible exact ih1 _ _ _ _ _ _ _ _ _)
      | (with_reducible exact ih2 _ _ _ _ _ _ _ _ _)
      | (with_reducible exact ih3 _ _)
      | (with_reducible exact spec_Keyword.mono _ _)
      | (with_reducible exact spec_TokenOrder.mono _ _ _ _)
      | (with_reducible exact spec_allDigits.mono _ _)
      | (with_reducible exact spec_mavenQualifiers.mono _ _ _)
      | (with_reducible exact spec_orderNumbers.mono _ _ _)
      | (with_reducible exact LeO.refl _)
      | (with_reducible exact LeO.none _)
      | (with_reducible refine LeO.ite ?_ ?_)
      | (with_reducible refine LeO.bind ?_ (fun _ => ?_))
      | exact ih0 _ _ _ _ _ _ _ _ _
      | exact ih1 _ _ _ _ _ _ _ _ _
      | exact ih2 _ _ _ _ _ _ _ _ _
      | exact ih3 _ _
      | exact spec_Keyword.mono _ _
      | exact spec_TokenOrder.mono _ _ _ _
      | exact spec_allDigits.mono _ _
      | exact spec_mavenQualifiers.mono _ _ _
      | exact spec_orderNumbers.mono _ _ _
      | exact LeO.none _
      | refine LeO.ite ?_ ?_
      | refine LeO.bind ?_ (fun _ => ?_)
set_option maxHeartbeats 8000000 in
set_option maxRecDepth 100000 in
theorem spec_mavenOne.calls (k : Nat) (a0_0 : ByteArray) (a0_1 : ByteArray) (a0_2 : Bool) (a1_0 : ByteArray) (a1_1 : ByteArray) (a1_2 : Bool) (r1 : Int) (r2 : Bool) (w : World) (h : spec_mavenOne.f k a0_0 a0_1 a0_2 a1_0 a1_1 a1_2 = some (r1, r2)) :
    Calls Tryd.prog 24 #[.agg #[.string a0_0, .string a0_1, .bool a0_2], .agg #[.string a1_0, .string a1_1, .bool a1_2]] w fun e w' => e = .returned (.tuple #[.int .i64 r1, .bool r2]) ∧ Below w.heap.size w w' := by
  have hu23 := Tryd.underlying23
  have HB := Aside0.mk (Below.refl w.heap.size w)
  have H : ((spec_allDigits.f k a0_1).bind fun t141 => ((spec_allDigits.f k a1_1).bind fun t142 => (if a0_0.toList = a1_0.toList then (if t141 = true then (spec_mavenOne.j0 k t141 t142 t142 a0_0 a0_1 a0_2 a1_0 a1_1 a1_2) else (spec_mavenOne.j0 k t141 t142 false a0_0 a0_1 a0_2 a1_0 a1_1 a1_2)) else ((spec_TokenOrder.f k a0_0 a0_1 a0_2).bind fun bt143 => ((spec_TokenOrder.f k a1_0 a1_1 a1_2).bind fun bt145 => ((spec_orderInts.f bt143.1 bt145.1).bind fun t147 => (if bt143.2 = true then (some (t147, bt145.2)) else (some (t147, false))))))))) = some (r1, r2) := h
  clear h
  replace H := Option.bind_eq_some_iff.mp H
  obtain ⟨t141, A30, H⟩ := H
  replace H : ((spec_allDigits.f k a1_1).bind fun t142 => (if a0_0.toList = a1_0.toList then (if t141 = true then (spec_mavenOne.j0 k t141 t142 t142 a0_0 a0_1 a0_2 a1_0 a1_1 a1_2) else (spec_mavenOne.j0 k t141 t142 false a0_0 a0_1 a0_2 a1_0 a1_1 a1_2)) else ((spec_TokenOrder.f k a0_0 a0_1 a0_2).bind fun bt143 => ((spec_TokenOrder.f k a1_0 a1_1 a1_2).bind fun bt145 => ((spec_orderInts.f bt143.1 bt145.1).bind fun t147 => (if bt143.2 = true then (some (t147, bt145.2)) else (some (t147, false)))))))) = some (r1, r2) := H
  have A3 := Aside0.mk A30
  clear A30
  replace H := Option.bind_eq_some_iff.mp H
  obtain ⟨t142, A40, H⟩ := H
  replace H : (if a0_0.toList = a1_0.toList then (if t141 = true then (spec_mavenOne.j0 k t141 t142 t142 a0_0 a0_1 a0_2 a1_0 a1_1 a1_2) else (spec_mavenOne.j0 k t141 t142 false a0_0 a0_1 a0_2 a1_0 a1_1 a1_2)) else ((spec_TokenOrder.f k a0_0 a0_1 a0_2).bind fun bt143 => ((spec_TokenOrder.f k a1_0 a1_1 a1_2).bind fun bt145 => ((spec_orderInts.f bt143.1 bt145.1).bind fun t147 => (if bt143.2 = true then (some (t147, bt145.2)) else (some (t147, false))))))) = some (r1, r2) := H
  have A4 := Aside0.mk A40
  clear A40
  by_cases c5 : a0_0.toList = a1_0.toList
  · rw [if_pos c5] at H
    have c5b0 : (a0_0.toList == a1_0.toList) = true := beq_iff_eq.mpr c5
    have c5b1 : (a0_0.toList != a1_0.toList) = false := bne_eq_false_iff_eq.mpr c5
    clear c5
    have HC6 := Aside0.mk H
    clear H
    go_enter Tryd.func24, Tryd.ntmps24
    go_upto_region 6 with (first | ((with_reducible refine gate_dst (N := 2) rfl ?_); refine box_event ?hg (N := 2) ?hd (cs := #[.string a0_0, .string a0_1, .bool a0_2]) (t := 23) ?hr ?_; (case hd => rfl); (case hg => rfl); (case hr => first | (go_simp; done) | (go_simp; rfl)); intro gb139 hg w7 hbox hb; have n0_ := Aside0.mk (below_step (by repeat (first | (with_reducible first | exact HB.out | apply below_alloc | apply pw_below_drewN | apply below_drew1) | exact HB.out)) hb); have n1_ := Aside0.mk (hbox); have n2_ := Aside0.mk ((by rw [hg]; exact (below_size (by repeat (first | (with_reducible first | exact HB.out | apply below_alloc | apply pw_below_drewN | apply below_drew1) | exact HB.out))) : w.heap.size ≤ gb139)); have n3_ := Aside0.mk ((by rw [hg]; exact (below_size (by repeat (first | (with_reducible first | exact HB.out | apply below_alloc | apply pw_below_drewN | apply below_drew1) | exact HB.out))) : w.heap.size ≤ gb139)); clear HB; have HB := n0_; have BK139 := n1_; have GW139 := n2_; have GE139 := n3_; clear n0_ n1_ n2_ n3_; clear hb hbox hg) | ((with_reducible refine gate_dst (N := 3) rfl ?_); refine box_event ?hg (N := 3) ?hd (cs := #[.string a1_0, .string a1_1, .bool a1_2]) (t := 23) ?hr ?_; (case hd => rfl); (case hg => rfl); (case hr => first | (go_simp; done) | (go_simp; rfl)); intro gb140 hg w8 hbox hb; have n0_ := Aside0.mk (blk_below (g := gb139) (o := .cells #[.string a0_0, .string a0_1, .bool a0_2] 23 (0, 0)) (by (with_reducible repeat (first | refine blk_drewN ?_ _ | refine blk_drew ?_ | refine blk_alloc ?_ _)); exact BK139.out) hb); have n1_ := Aside0.mk (below_step (by repeat (first | (with_reducible first | exact HB.out | apply below_alloc | apply pw_below_drewN | apply below_drew1 | refine below_set ?_ GE139.out) | exact HB.out)) hb); have n2_ := Aside0.mk (hbox); have n3_ := Aside0.mk ((by rw [hg]; exact (below_size (by repeat (first | (with_reducible first | exact HB.out | apply below_alloc | apply pw_below_drewN | apply below_drew1 | refine below_set ?_ GE139.out) | exact HB.out))) : w.heap.size ≤ gb140)); have n4_ := Aside0.mk ((by rw [hg]; exact (below_size (by repeat (first | (with_reducible first | exact HB.out | apply below_alloc | apply pw_below_drewN | apply below_drew1 | refine below_set ?_ GE139.out) | exact HB.out))) : w.heap.size ≤ gb140)); have n5_ := Aside0.mk ((by rw [hg]; exact Nat.ne_of_lt (blk_lt (g := gb139) (o := .cells #[.string a0_0, .string a0_1, .bool a0_2] 23 (0, 0)) (by (with_reducible repeat (first | refine blk_drewN ?_ _ | refine blk_drew ?_ | refine blk_alloc ?_ _)); exact BK139.out)) : gb139 ≠ gb140)); have n6_ := Aside0.mk ((by rw [hg]; exact Nat.ne_of_gt (blk_lt (g := gb139) (o := .cells #[.string a0_0, .string a0_1, .bool a0_2] 23 (0, 0)) (by (with_reducible repeat (first | refine blk_drewN ?_ _ | refine blk_drew ?_ | refine blk_alloc ?_ _)); exact BK139.out)) : gb140 ≠ gb139)); clear BK139; clear HB; have BK139 := n0_; have HB := n1_; have BK140 := n2_; have GW140 := n3_; have GE140 := n4_; have NB139_140 := n5_; have NB140_139 := n6_; clear n0_ n1_ n2_ n3_ n4_ n5_ n6_; clear hb hbox hg; have hnb9 := NB139_140.out; have hnc9 := NB140_139.out; have hcz10_0 : w8.cell? ⟨gb139, 0, none⟩ = some (.string a0_0) := (blk_cell BK139.out 0).trans rfl; have hcz10_1 : w8.cell? ⟨gb139, 1, none⟩ = some (.string a0_1) := (blk_cell BK139.out 1).trans rfl; have hcz10_2 : w8.cell? ⟨gb139, 2, none⟩ = some (.bool a0_2) := (blk_cell BK139.out 2).trans rfl; have hfz10_0 := blk_frozen BK139.out 0; have hfz10_1 := blk_frozen BK139.out 1; have hfz10_2 := blk_frozen BK139.out 2) | (go_at_call 21; (with_reducible refine (spec_allDigits.calls k a0_1 t141 _ A3.out).mono ?_); rintro e w' ⟨rfl, ⟨nd, rfl⟩⟩; (try first | exact ⟨rfl, _, World.drewN_drewN _ _ _⟩ | exact ⟨rfl, _, Eq.trans (World.drewN_drewN _ _ _) (congrArg (World.drewN _) (Nat.add_assoc _ _ _))⟩); have hcz11_0 : w8.cell? ⟨gb140, 0, none⟩ = some (.string a1_0) := (blk_cell BK140.out 0).trans rfl; have hcz11_1 : w8.cell? ⟨gb140, 1, none⟩ = some (.string a1_1) := (blk_cell BK140.out 1).trans rfl; have hcz11_2 : w8.cell? ⟨gb140, 2, none⟩ = some (.bool a1_2) := (blk_cell BK140.out 2).trans rfl; have hfz11_0 := blk_frozen BK140.out 0; have hfz11_1 := blk_frozen BK140.out 1; have hfz11_2 := blk_frozen BK140.out 2) | (go_at_call 21; (with_reducible refine (spec_allDigits.calls k a1_1 t142 _ A4.out).mono ?_); rintro e w' ⟨rfl, ⟨nd, rfl⟩⟩; (try first | exact ⟨rfl, _, World.drewN_drewN _ _ _⟩ | exact ⟨rfl, _, Eq.trans (World.drewN_drewN _ _ _) (congrArg (World.drewN _) (Nat.add_assoc _ _ _))⟩)))
    repeat (go_quiet (first | ((with_reducible refine gate_dst (N := 2) rfl ?_); refine box_event ?hg (N := 2) ?hd (cs := #[.string a0_0, .string a0_1, .bool a0_2]) (t := 23) ?hr ?_; (case hd => rfl); (case hg => rfl); (case hr => first | (go_simp; done) | (go_simp; rfl)); intro gb139 hg w7 hbox hb; have n0_ := Aside0.mk (below_step (by repeat (first | (with_reducible first | exact HB.out | apply below_alloc | apply pw_below_drewN | apply below_drew1) | exact HB.out)) hb); have n1_ := Aside0.mk (hbox); have n2_ := Aside0.mk ((by rw [hg]; exact (below_size (by repeat (first | (with_reducible first | exact HB.out | apply below_alloc | apply pw_below_drewN | apply below_drew1) | exact HB.out))) : w.heap.size ≤ gb139)); have n3_ := Aside0.mk ((by rw [hg]; exact (below_size (by repeat (first | (with_reducible first | exact HB.out | apply below_alloc | apply pw_below_drewN | apply below_drew1) | exact HB.out))) : w.heap.size ≤ gb139)); clear HB; have HB := n0_; have BK139 := n1_; have GW139 := n2_; have GE139 := n3_; clear n0_ n1_ n2_ n3_; clear hb hbox hg) | ((with_reducible refine gate_dst (N := 3) rfl ?_); refine box_event ?hg (N := 3) ?hd (cs := #[.string a1_0, .string a1_1, .bool a1_2]) (t := 23) ?hr ?_; (case hd => rfl); (case hg => rfl); (case hr => first | (go_simp; done) | (go_simp; rfl)); intro gb140 hg w8 hbox hb; have n0_ := Aside0.mk (blk_below (g := gb139) (o := .cells #[.string a0_0, .string a0_1, .bool a0_2] 23 (0, 0)) (by (with_reducible repeat (first | refine blk_drewN ?_ _ | refine blk_drew ?_ | refine blk_alloc ?_ _)); exact BK139.out) hb); have n1_ := Aside0.mk (below_step (by repeat (first | (with_reducible first | exact HB.out | apply below_alloc | apply pw_below_drewN | apply below_drew1 | refine below_set ?_ GE139.out) | exact HB.out)) hb); have n2_ := Aside0.mk (hbox); have n3_ := Aside0.mk ((by rw [hg]; exact (below_size (by repeat (first | (with_reducible first | exact HB.out | apply below_alloc | apply pw_below_drewN | apply below_drew1 | refine below_set ?_ GE139.out) | exact HB.out))) : w.heap.size ≤ gb140)); have n4_ := Aside0.mk ((by rw [hg]; exact (below_size (by repeat (first | (with_reducible first | exact HB.out | apply below_alloc | apply pw_below_drewN | apply below_drew1 | refine below_set ?_ GE139.out) | exact HB.out))) : w.heap.size ≤ gb140)); have n5_ := Aside0.mk ((by rw [hg]; exact Nat.ne_of_lt (blk_lt (g := gb139) (o := .cells #[.string a0_0, .string a0_1, .bool a0_2] 23 (0, 0)) (by (with_reducible repeat (first | refine blk_drewN ?_ _ | refine blk_drew ?_ | refine blk_alloc ?_ _)); exact BK139.out)) : gb139 ≠ gb140)); have n6_ := Aside0.mk ((by rw [hg]; exact Nat.ne_of_gt (blk_lt (g := gb139) (o := .cells #[.string a0_0, .string a0_1, .bool a0_2] 23 (0, 0)) (by (with_reducible repeat (first | refine blk_drewN ?_ _ | refine blk_drew ?_ | refine blk_alloc ?_ _)); exact BK139.out)) : gb140 ≠ gb139)); clear BK139; clear HB; have BK139 := n0_; have HB := n1_; have BK140 := n2_; have GW140 := n3_; have GE140 := n4_; have NB139_140 := n5_; have NB140_139 := n6_; clear n0_ n1_ n2_ n3_ n4_ n5_ n6_; clear hb hbox hg; have hnb9 := NB139_140.out; have hnc9 := NB140_139.out; have hcz10_0 : w8.cell? ⟨gb139, 0, none⟩ = some (.string a0_0) := (blk_cell BK139.out 0).trans rfl; have hcz10_1 : w8.cell? ⟨gb139, 1, none⟩ = some (.string a0_1) := (blk_cell BK139.out 1).trans rfl; have hcz10_2 : w8.cell? ⟨gb139, 2, none⟩ = some (.bool a0_2) := (blk_cell BK139.out 2).trans rfl; have hfz10_0 := blk_frozen BK139.out 0; have hfz10_1 := blk_frozen BK139.out 1; have hfz10_2 := blk_frozen BK139.out 2) | (go_at_call 21; (with_reducible refine (spec_allDigits.calls k a0_1 t141 _ A3.out).mono ?_); rintro e w' ⟨rfl, ⟨nd, rfl⟩⟩; (try first | exact ⟨rfl, _, World.drewN_drewN _ _ _⟩ | exact ⟨rfl, _, Eq.trans (World.drewN_drewN _ _ _) (congrArg (World.drewN _) (Nat.add_assoc _ _ _))⟩); have hcz11_0 : w8.cell? ⟨gb140, 0, none⟩ = some (.string a1_0) := (blk_cell BK140.out 0).trans rfl; have hcz11_1 : w8.cell? ⟨gb140, 1, none⟩ = some (.string a1_1) := (blk_cell BK140.out 1).trans rfl; have hcz11_2 : w8.cell? ⟨gb140, 2, none⟩ = some (.bool a1_2) := (blk_cell BK140.out 2).trans rfl; have hfz11_0 := blk_frozen BK140.out 0; have hfz11_1 := blk_frozen BK140.out 1; have hfz11_2 := blk_frozen BK140.out 2) | (go_at_call 21; (with_reducible refine (spec_allDigits.calls k a1_1 t142 _ A4.out).mono ?_); rintro e w' ⟨rfl, ⟨nd, rfl⟩⟩; (try first | exact ⟨rfl, _, World.drewN_drewN _ _ _⟩ | exact ⟨rfl, _, Eq.trans (World.drewN_drewN _ _ _) (congrArg (World.drewN _) (Nat.add_assoc _ _ _))⟩))); go_upto_region 6 with (first | ((with_reducible refine gate_dst (N := 2) rfl ?_); refine box_event ?hg (N := 2) ?hd (cs := #[.string a0_0, .string a0_1, .bool a0_2]) (t := 23) ?hr ?_; (case hd => rfl); (case hg => rfl); (case hr => first | (go_simp; done) | (go_simp; rfl)); intro gb139 hg w7 hbox hb; have n0_ := Aside0.mk (below_step (by repeat (first | (with_reducible first | exact HB.out | apply below_alloc | apply pw_below_drewN | apply below_drew1) | exact HB.out)) hb); have n1_ := Aside0.mk (hbox); have n2_ := Aside0.mk ((by rw [hg]; exact (below_size (by repeat (first | (with_reducible first | exact HB.out | apply below_alloc | apply pw_below_drewN | apply below_drew1) | exact HB.out))) : w.heap.size ≤ gb139)); have n3_ := Aside0.mk ((by rw [hg]; exact (below_size (by repeat (first | (with_reducible first | exact HB.out | apply below_alloc | apply pw_below_drewN | apply below_drew1) | exact HB.out))) : w.heap.size ≤ gb139)); clear HB; have HB := n0_; have BK139 := n1_; have GW139 := n2_; have GE139 := n3_; clear n0_ n1_ n2_ n3_; clear hb hbox hg) | ((with_reducible refine gate_dst (N := 3) rfl ?_); refine box_event ?hg (N := 3) ?hd (cs := #[.string a1_0, .string a1_1, .bool a1_2]) (t := 23) ?hr ?_; (case hd => rfl); (case hg => rfl); (case hr => first | (go_simp; done) | (go_simp; rfl)); intro gb140 hg w8 hbox hb; have n0_ := Aside0.mk (blk_below (g := gb139) (o := .cells #[.string a0_0, .string a0_1, .bool a0_2] 23 (0, 0)) (by (with_reducible repeat (first | refine blk_drewN ?_ _ | refine blk_drew ?_ | refine blk_alloc ?_ _)); exact BK139.out) hb); have n1_ := Aside0.mk (below_step (by repeat (first | (with_reducible first | exact HB.out | apply below_alloc | apply pw_below_drewN | apply below_drew1 | refine below_set ?_ GE139.out) | exact HB.out)) hb); have n2_ := Aside0.mk (hbox); have n3_ := Aside0.mk ((by rw [hg]; exact (below_size (by repeat (first | (with_reducible first | exact HB.out | apply below_alloc | apply pw_below_drewN | apply below_drew1 | refine below_set ?_ GE139.out) | exact HB.out))) : w.heap.size ≤ gb140)); have n4_ := Aside0.mk ((by rw [hg]; exact (below_size (by repeat (first | (with_reducible first | exact HB.out | apply below_alloc | apply pw_below_drewN | apply below_drew1 | refine below_set ?_ GE139.out) | exact HB.out))) : w.heap.size ≤ gb140)); have n5_ := Aside0.mk ((by rw [hg]; exact Nat.ne_of_lt (blk_lt (g := gb139) (o := .cells #[.string a0_0, .string a0_1, .bool a0_2] 23 (0, 0)) (by (with_reducible repeat (first | refine blk_drewN ?_ _ | refine blk_drew ?_ | refine blk_alloc ?_ _)); exact BK139.out)) : gb139 ≠ gb140)); have n6_ := Aside0.mk ((by rw [hg]; exact Nat.ne_of_gt (blk_lt (g := gb139) (o := .cells #[.string a0_0, .string a0_1, .bool a0_2] 23 (0, 0)) (by (with_reducible repeat (first | refine blk_drewN ?_ _ | refine blk_drew ?_ | refine blk_alloc ?_ _)); exact BK139.out)) : gb140 ≠ gb139)); clear BK139; clear HB; have BK139 := n0_; have HB := n1_; have BK140 := n2_; have GW140 := n3_; have GE140 := n4_; have NB139_140 := n5_; have NB140_139 := n6_; clear n0_ n1_ n2_ n3_ n4_ n5_ n6_; clear hb hbox hg; have hnb9 := NB139_140.out; have hnc9 := NB140_139.out; have hcz10_0 : w8.cell? ⟨gb139, 0, none⟩ = some (.string a0_0) := (blk_cell BK139.out 0).trans rfl; have hcz10_1 : w8.cell? ⟨gb139, 1, none⟩ = some (.string a0_1) := (blk_cell BK139.out 1).trans rfl; have hcz10_2 : w8.cell? ⟨gb139, 2, none⟩ = some (.bool a0_2) := (blk_cell BK139.out 2).trans rfl; have hfz10_0 := blk_frozen BK139.out 0; have hfz10_1 := blk_frozen BK139.out 1; have hfz10_2 := blk_frozen BK139.out 2) | (go_at_call 21; (with_reducible refine (spec_allDigits.calls k a0_1 t141 _ A3.out).mono ?_); rintro e w' ⟨rfl, ⟨nd, rfl⟩⟩; (try first | exact ⟨rfl, _, World.drewN_drewN _ _ _⟩ | exact ⟨rfl, _, Eq.trans (World.drewN_drewN _ _ _) (congrArg (World.drewN _) (Nat.add_assoc _ _ _))⟩); have hcz11_0 : w8.cell? ⟨gb140, 0, none⟩ = some (.string a1_0) := (blk_cell BK140.out 0).trans rfl; have hcz11_1 : w8.cell? ⟨gb140, 1, none⟩ = some (.string a1_1) := (blk_cell BK140.out 1).trans rfl; have hcz11_2 : w8.cell? ⟨gb140, 2, none⟩ = some (.bool a1_2) := (blk_cell BK140.out 2).trans rfl; have hfz11_0 := blk_frozen BK140.out 0; have hfz11_1 := blk_frozen BK140.out 1; have hfz11_2 := blk_frozen BK140.out 2) | (go_at_call 21; (with_reducible refine (spec_allDigits.calls k a1_1 t142 _ A4.out).mono ?_); rintro e w' ⟨rfl, ⟨nd, rfl⟩⟩; (try first | exact ⟨rfl, _, World.drewN_drewN _ _ _⟩ | exact ⟨rfl, _, Eq.trans (World.drewN_drewN _ _ _) (congrArg (World.drewN _) (Nat.add_assoc _ _ _))⟩))))
    (try simp only [Act.put, List.setIfInBounds_toArray, List.set_cons_zero, List.set_cons_succ])
    go_cut [40] (fun v40 wc => ∃ (kq : Nat) (x40_5 : Bool), v40 = .bool x40_5 ∧ Aside0 (spec_mavenOne.j0 kq t141 t142 x40_5 a0_0 a0_1 a0_2 a1_0 a1_1 a1_2 = some (r1, r2)) ∧ Aside0 (kq ≤ k) ∧ Aside0 (wc.heap[gb139]? = some (.cells #[.string a0_0, .string a0_1, .bool a0_2] 23 (0, 0))) ∧ Aside0 (wc.heap[gb140]? = some (.cells #[.string a1_0, .string a1_1, .bool a1_2] 23 (0, 0))) ∧ Aside0 (Below w.heap.size w wc))
    case first =>
      have H := HC6.out
      clear HC6
      by_cases c12 : t141 = true
      · subst c12
        have H1 : (spec_mavenOne.j0 k true t142 t142 a0_0 a0_1 a0_2 a1_0 a1_1 a1_2) = some (r1, r2) := by rw [if_pos rfl] at H; exact H
        clear H
        have H := H1
        clear H1
        have H' := Aside0.mk H
        clear H
        go_wp2
        repeat (go_quiet (fail); try go_wp2)
        go_meet
        case rel => exact ⟨_, (t142), (by first | rfl | (simp; done) | (simp [*]; done)), H', ⟨by first | omega | exact Nat.le_refl _⟩, ⟨by (with_reducible repeat (first | refine blk_drewN ?_ _ | refine blk_drew ?_ | refine blk_alloc ?_ _)); exact BK139.out⟩, ⟨by (with_reducible repeat (first | refine blk_drewN ?_ _ | refine blk_drew ?_ | refine blk_alloc ?_ _)); exact BK140.out⟩, ⟨by repeat (first | (with_reducible first | exact HB.out | apply below_alloc | apply pw_below_drewN | apply below_drew1 | refine below_set ?_ GE139.out | refine below_set ?_ GE140.out) | exact HB.out)⟩⟩
      · replace c12 := Bool.eq_false_iff.mpr c12
        subst c12
        have H1 : (spec_mavenOne.j0 k false t142 false a0_0 a0_1 a0_2 a1_0 a1_1 a1_2) = some (r1, r2) := by rw [if_neg (show ¬ (false = true) by decide)] at H; exact H
        clear H
        have H := H1
        clear H1
        have H' := Aside0.mk H
        clear H
        go_wp2
        repeat (go_quiet (fail); try go_wp2)
        go_meet
        case rel => exact ⟨_, (false), (by first | rfl | (simp; done) | (simp [*]; done)), H', ⟨by first | omega | exact Nat.le_refl _⟩, ⟨by (with_reducible repeat (first | refine blk_drewN ?_ _ | refine blk_drew ?_ | refine blk_alloc ?_ _)); exact BK139.out⟩, ⟨by (with_reducible repeat (first | refine blk_drewN ?_ _ | refine blk_drew ?_ | refine blk_alloc ?_ _)); exact BK140.out⟩, ⟨by repeat (first | (with_reducible first | exact HB.out | apply below_alloc | apply pw_below_drewN | apply below_drew1 | refine below_set ?_ GE139.out | refine below_set ?_ GE140.out) | exact HB.out)⟩⟩
    case rest =>
      clear HC6
      try clear c1
      try clear c2
      try clear p2
      try clear c5
      try clear c5b0
      try clear c5b1
      try clear c9
      try clear c12
      try clear hcz10_0
      try clear hcz10_1
      try clear hcz10_2
      try clear hcz11_0
      try clear hcz11_1
      try clear hcz11_2
      try clear hfz10_0
      try clear hfz10_1
      try clear hfz10_2
      try clear hfz11_0
      try clear hfz11_1
      try clear hfz11_2
      obtain ⟨kq, x40_5, rfl, HA, HJ5, BK139, BK140, HB⟩ := hcut
      cases kq with
      | zero => exact absurd HA.out (by simp [spec_mavenOne.j0])
      | succ kj5 =>
        have H := HA.out
        clear HA
        simp only [spec_mavenOne.j0] at H
        by_cases c13 : x40_5 = true
        · subst c13
          have H1 : ((spec_orderNumbers.f kj5 a0_1 a1_1).bind fun t148 => (some (t148, true))) = some (r1, r2) := by rw [if_pos rfl] at H; exact H
          clear H
          have H := H1
          clear H1
          replace H := Option.bind_eq_some_iff.mp H
          obtain ⟨t148, A140, H⟩ := H
          replace H : (some (t148, true)) = some (r1, r2) := H
          have A14 := Aside0.mk A140
          clear A140
          simp only [Option.some.injEq, Prod.mk.injEq] at H
          obtain ⟨rfl, rfl⟩ := H
          have hnb15 := NB139_140.out
          have hnc15 := NB140_139.out
          have hcz16_0 : wc.cell? ⟨gb139, 0, none⟩ = some (.string a0_0) := (blk_cell BK139.out 0).trans rfl
          have hcz16_1 : wc.cell? ⟨gb139, 1, none⟩ = some (.string a0_1) := (blk_cell BK139.out 1).trans rfl
          have hcz16_2 : wc.cell? ⟨gb139, 2, none⟩ = some (.bool a0_2) := (blk_cell BK139.out 2).trans rfl
          have hfz16_0 := blk_frozen BK139.out 0
          have hfz16_1 := blk_frozen BK139.out 1
          have hfz16_2 := blk_frozen BK139.out 2
          have hcz17_0 : wc.cell? ⟨gb140, 0, none⟩ = some (.string a1_0) := (blk_cell BK140.out 0).trans rfl
          have hcz17_1 : wc.cell? ⟨gb140, 1, none⟩ = some (.string a1_1) := (blk_cell BK140.out 1).trans rfl
          have hcz17_2 : wc.cell? ⟨gb140, 2, none⟩ = some (.bool a1_2) := (blk_cell BK140.out 2).trans rfl
          have hfz17_0 := blk_frozen BK140.out 0
          have hfz17_1 := blk_frozen BK140.out 1
          have hfz17_2 := blk_frozen BK140.out 2
          go_wp2_with (first | (go_at_call 38; (with_reducible refine (spec_orderNumbers.calls kj5 a0_1 a1_1 t148 _ A14.out).mono ?_); rintro e w' ⟨rfl, ⟨nd, rfl⟩⟩; (try first | exact ⟨rfl, _, World.drewN_drewN _ _ _⟩ | exact ⟨rfl, _, Eq.trans (World.drewN_drewN _ _ _) (congrArg (World.drewN _) (Nat.add_assoc _ _ _))⟩)))
          repeat (go_quiet (first | (go_at_call 38; (with_reducible refine (spec_orderNumbers.calls kj5 a0_1 a1_1 t148 _ A14.out).mono ?_); rintro e w' ⟨rfl, ⟨nd, rfl⟩⟩; (try first | exact ⟨rfl, _, World.drewN_drewN _ _ _⟩ | exact ⟨rfl, _, Eq.trans (World.drewN_drewN _ _ _) (congrArg (World.drewN _) (Nat.add_assoc _ _ _))⟩))); try go_wp2_with (first | (go_at_call 38; (with_reducible refine (spec_orderNumbers.calls kj5 a0_1 a1_1 t148 _ A14.out).mono ?_); rintro e w' ⟨rfl, ⟨nd, rfl⟩⟩; (try first | exact ⟨rfl, _, World.drewN_drewN _ _ _⟩ | exact ⟨rfl, _, Eq.trans (World.drewN_drewN _ _ _) (congrArg (World.drewN _) (Nat.add_assoc _ _ _))⟩))))
          go_ret2
          exact ⟨by first | rfl | (simp [errW_none, errW_some] <;> rfl) | (simp [*, errW_none, errW_some] <;> rfl), by repeat (first | (with_reducible first | exact HB.out | apply below_alloc | apply pw_below_drewN | apply below_drew1 | refine below_set ?_ GE139.out | refine below_set ?_ GE140.out) | exact HB.out)⟩
        · replace c13 := Bool.eq_false_iff.mpr c13
          subst c13
          have H1 : (if t141 = true then (spec_mavenOne.j1 kj5 t141 t142 false a0_0 a0_1 a0_2 a1_0 a1_1 a1_2) else (spec_mavenOne.j1 kj5 t141 t142 (!t142) a0_0 a0_1 a0_2 a1_0 a1_1 a1_2)) = some (r1, r2) := by rw [if_neg (show ¬ (false = true) by decide)] at H; exact H
          clear H
          have H := H1
          clear H1
          have HC18 := Aside0.mk H
          clear H
          go_upto_region 8 with (fail)
          repeat (go_quiet (fail); go_upto_region 8 with (fail))
          go_cut [50] (fun v50 wc => ∃ (kq : Nat) (x50_17 : Bool), v50 = .bool x50_17 ∧ Aside0 (spec_mavenOne.j1 kq t141 t142 x50_17 a0_0 a0_1 a0_2 a1_0 a1_1 a1_2 = some (r1, r2)) ∧ Aside0 (kq ≤ kj5) ∧ Aside0 (wc.heap[gb139]? = some (.cells #[.string a0_0, .string a0_1, .bool a0_2] 23 (0, 0))) ∧ Aside0 (wc.heap[gb140]? = some (.cells #[.string a1_0, .string a1_1, .bool a1_2] 23 (0, 0))) ∧ Aside0 (Below w.heap.size w wc))
          case first =>
            have H := HC18.out
            clear HC18
            by_cases c19 : t141 = true
            · subst c19
              have H1 : (spec_mavenOne.j1 kj5 true t142 false a0_0 a0_1 a0_2 a1_0 a1_1 a1_2) = some (r1, r2) := by rw [if_pos rfl] at H; exact H
              clear H
              have H := H1
              clear H1
              have H' := Aside0.mk H
              clear H
              go_wp2
              repeat (go_quiet (fail); try go_wp2)
              go_meet
              case rel => exact ⟨_, (false), (by first | rfl | (simp; done) | (simp [*]; done)), H', ⟨by have := HJ5.out; first | omega | exact Nat.le_refl _⟩, ⟨by (with_reducible repeat (first | refine blk_drewN ?_ _ | refine blk_drew ?_ | refine blk_alloc ?_ _)); exact BK139.out⟩, ⟨by (with_reducible repeat (first | refine blk_drewN ?_ _ | refine blk_drew ?_ | refine blk_alloc ?_ _)); exact BK140.out⟩, ⟨by repeat (first | (with_reducible first | exact HB.out | apply below_alloc | apply pw_below_drewN | apply below_drew1 | refine below_set ?_ GE139.out | refine below_set ?_ GE140.out) | exact HB.out)⟩⟩
            · replace c19 := Bool.eq_false_iff.mpr c19
              subst c19
              have H1 : (spec_mavenOne.j1 kj5 false t142 (!t142) a0_0 a0_1 a0_2 a1_0 a1_1 a1_2) = some (r1, r2) := by rw [if_neg (show ¬ (false = true) by decide)] at H; exact H
              clear H
              have H := H1
              clear H1
              have H' := Aside0.mk H
              clear H
              go_wp2
              repeat (go_quiet (fail); try go_wp2)
              go_meet
              case rel => exact ⟨_, (!t142), (by first | rfl | (simp; done) | (simp [*]; done)), H', ⟨by have := HJ5.out; first | omega | exact Nat.le_refl _⟩, ⟨by (with_reducible repeat (first | refine blk_drewN ?_ _ | refine blk_drew ?_ | refine blk_alloc ?_ _)); exact BK139.out⟩, ⟨by (with_reducible repeat (first | refine blk_drewN ?_ _ | refine blk_drew ?_ | refine blk_alloc ?_ _)); exact BK140.out⟩, ⟨by repeat (first | (with_reducible first | exact HB.out | apply below_alloc | apply pw_below_drewN | apply below_drew1 | refine below_set ?_ GE139.out | refine below_set ?_ GE140.out) | exact HB.out)⟩⟩
          case rest =>
            clear HC18
            try clear c1
            try clear c2
            try clear p2
            try clear c5
            try clear c5b0
            try clear c5b1
            try clear c9
            try clear c12
            try clear c13
            try clear c15
            try clear c19
            try clear hcz10_0
            try clear hcz10_1
            try clear hcz10_2
            try clear hcz11_0
            try clear hcz11_1
            try clear hcz11_2
            try clear hcz16_0
            try clear hcz16_1
            try clear hcz16_2
            try clear hcz17_0
            try clear hcz17_1
            try clear hcz17_2
            try clear hfz10_0
            try clear hfz10_1
            try clear hfz10_2
            try clear hfz11_0
            try clear hfz11_1
            try clear hfz11_2
            try clear hfz16_0
            try clear hfz16_1
            try clear hfz16_2
            try clear hfz17_0
            try clear hfz17_1
            try clear hfz17_2
            try clear p2
            obtain ⟨kq, x50_17, rfl, HA, HJ17, BK139, BK140, HB⟩ := hcut
            cases kq with
            | zero => exact absurd HA.out (by simp [spec_mavenOne.j1])
            | succ kj17 =>
              have H := HA.out
              clear HA
              simp only [spec_mavenOne.j1] at H
              by_cases c20 : x50_17 = true
              · subst c20
                have H1 : ((spec_mavenQualifiers.f kj17 a0_1 a1_1).bind fun t149 => (some (t149, true))) = some (r1, r2) := by rw [if_pos rfl] at H; exact H
                clear H
                have H := H1
                clear H1
                replace H := Option.bind_eq_some_iff.mp H
                obtain ⟨t149, A210, H⟩ := H
                replace H : (some (t149, true)) = some (r1, r2) := H
                have A21 := Aside0.mk A210
                clear A210
                simp only [Option.some.injEq, Prod.mk.injEq] at H
                obtain ⟨rfl, rfl⟩ := H
                have hnb22 := NB139_140.out
                have hnc22 := NB140_139.out
                have hcz23_0 : wc.cell? ⟨gb139, 0, none⟩ = some (.string a0_0) := (blk_cell BK139.out 0).trans rfl
                have hcz23_1 : wc.cell? ⟨gb139, 1, none⟩ = some (.string a0_1) := (blk_cell BK139.out 1).trans rfl
                have hcz23_2 : wc.cell? ⟨gb139, 2, none⟩ = some (.bool a0_2) := (blk_cell BK139.out 2).trans rfl
                have hfz23_0 := blk_frozen BK139.out 0
                have hfz23_1 := blk_frozen BK139.out 1
                have hfz23_2 := blk_frozen BK139.out 2
                have hcz24_0 : wc.cell? ⟨gb140, 0, none⟩ = some (.string a1_0) := (blk_cell BK140.out 0).trans rfl
                have hcz24_1 : wc.cell? ⟨gb140, 1, none⟩ = some (.string a1_1) := (blk_cell BK140.out 1).trans rfl
                have hcz24_2 : wc.cell? ⟨gb140, 2, none⟩ = some (.bool a1_2) := (blk_cell BK140.out 2).trans rfl
                have hfz24_0 := blk_frozen BK140.out 0
                have hfz24_1 := blk_frozen BK140.out 1
                have hfz24_2 := blk_frozen BK140.out 2
                go_wp2_with (first | (go_at_call 39; (with_reducible refine (spec_mavenQualifiers.calls kj17 a0_1 a1_1 t149 _ A21.out).mono ?_); rintro e w25 ⟨rfl, hb⟩; have n0_ := Aside0.mk (blk_below (g := gb139) (o := .cells #[.string a0_0, .string a0_1, .bool a0_2] 23 (0, 0)) (by (with_reducible repeat (first | refine blk_drewN ?_ _ | refine blk_drew ?_ | refine blk_alloc ?_ _)); exact BK139.out) hb); have n1_ := Aside0.mk (blk_below (g := gb140) (o := .cells #[.string a1_0, .string a1_1, .bool a1_2] 23 (0, 0)) (by (with_reducible repeat (first | refine blk_drewN ?_ _ | refine blk_drew ?_ | refine blk_alloc ?_ _)); exact BK140.out) hb); have n2_ := Aside0.mk (below_step (by repeat (first | (with_reducible first | exact HB.out | apply below_alloc | apply pw_below_drewN | apply below_drew1 | refine below_set ?_ GE139.out | refine below_set ?_ GE140.out) | exact HB.out)) hb); clear BK139; clear BK140; clear HB; have BK139 := n0_; have BK140 := n1_; have HB := n2_; clear n0_ n1_ n2_; (try clear hb); (try clear hb2); (try clear hk); (try clear hi)))
                repeat (go_quiet (first | (go_at_call 39; (with_reducible refine (spec_mavenQualifiers.calls kj17 a0_1 a1_1 t149 _ A21.out).mono ?_); rintro e w25 ⟨rfl, hb⟩; have n0_ := Aside0.mk (blk_below (g := gb139) (o := .cells #[.string a0_0, .string a0_1, .bool a0_2] 23 (0, 0)) (by (with_reducible repeat (first | refine blk_drewN ?_ _ | refine blk_drew ?_ | refine blk_alloc ?_ _)); exact BK139.out) hb); have n1_ := Aside0.mk (blk_below (g := gb140) (o := .cells #[.string a1_0, .string a1_1, .bool a1_2] 23 (0, 0)) (by (with_reducible repeat (first | refine blk_drewN ?_ _ | refine blk_drew ?_ | refine blk_alloc ?_ _)); exact BK140.out) hb); have n2_ := Aside0.mk (below_step (by repeat (first | (with_reducible first | exact HB.out | apply below_alloc | apply pw_below_drewN | apply below_drew1 | refine below_set ?_ GE139.out | refine below_set ?_ GE140.out) | exact HB.out)) hb); clear BK139; clear BK140; clear HB; have BK139 := n0_; have BK140 := n1_; have HB := n2_; clear n0_ n1_ n2_; (try clear hb); (try clear hb2); (try clear hk); (try clear hi))); try go_wp2_with (first | (go_at_call 39; (with_reducible refine (spec_mavenQualifiers.calls kj17 a0_1 a1_1 t149 _ A21.out).mono ?_); rintro e w25 ⟨rfl, hb⟩; have n0_ := Aside0.mk (blk_below (g := gb139) (o := .cells #[.string a0_0, .string a0_1, .bool a0_2] 23 (0, 0)) (by (with_reducible repeat (first | refine blk_drewN ?_ _ | refine blk_drew ?_ | refine blk_alloc ?_ _)); exact BK139.out) hb); have n1_ := Aside0.mk (blk_below (g := gb140) (o := .cells #[.string a1_0, .string a1_1, .bool a1_2] 23 (0, 0)) (by (with_reducible repeat (first | refine blk_drewN ?_ _ | refine blk_drew ?_ | refine blk_alloc ?_ _)); exact BK140.out) hb); have n2_ := Aside0.mk (below_step (by repeat (first | (with_reducible first | exact HB.out | apply below_alloc | apply pw_below_drewN | apply below_drew1 | refine below_set ?_ GE139.out | refine below_set ?_ GE140.out) | exact HB.out)) hb); clear BK139; clear BK140; clear HB; have BK139 := n0_; have BK140 := n1_; have HB := n2_; clear n0_ n1_ n2_; (try clear hb); (try clear hb2); (try clear hk); (try clear hi))))
                go_ret2
                exact ⟨by first | rfl | (simp [errW_none, errW_some] <;> rfl) | (simp [*, errW_none, errW_some] <;> rfl), by repeat (first | (with_reducible first | exact HB.out | apply below_alloc | apply pw_below_drewN | apply below_drew1 | refine below_set ?_ GE139.out | refine below_set ?_ GE140.out) | exact HB.out)⟩
              · replace c20 := Bool.eq_false_iff.mpr c20
                subst c20
                have H1 : (if t141 = true then (if a0_2 = true then ((spec_Keyword.f kj17 a1_1).bind fun t150 => ((spec_Keyword.f kj17 (⟨#[115, 112]⟩ : ByteArray)).bind fun t151 => (spec_mavenOne.j2 kj17 t141 t142 (decide (t150 > t151)) a0_0 a0_1 a0_2 a1_0 a1_1 a1_2))) else (spec_mavenOne.j2 kj17 t141 t142 false a0_0 a0_1 a0_2 a1_0 a1_1 a1_2)) else (spec_mavenOne.j2 kj17 t141 t142 false a0_0 a0_1 a0_2 a1_0 a1_1 a1_2)) = some (r1, r2) := by rw [if_neg (show ¬ (false = true) by decide)] at H; exact H
                clear H
                have H := H1
                clear H1
                have HC26 := Aside0.mk H
                clear H
                go_upto_region 10 with (fail)
                repeat (go_quiet (fail); go_upto_region 10 with (fail))
                go_cut [62] (fun v62 wc => ∃ (kq : Nat) (x62_25 : Bool), v62 = .bool x62_25 ∧ Aside0 (spec_mavenOne.j2 kq t141 t142 x62_25 a0_0 a0_1 a0_2 a1_0 a1_1 a1_2 = some (r1, r2)) ∧ Aside0 (kq ≤ kj17) ∧ Aside0 (wc.heap[gb139]? = some (.cells #[.string a0_0, .string a0_1, .bool a0_2] 23 (0, 0))) ∧ Aside0 (wc.heap[gb140]? = some (.cells #[.string a1_0, .string a1_1, .bool a1_2] 23 (0, 0))) ∧ Aside0 (Below w.heap.size w wc))
                case first =>
                  have H := HC26.out
                  clear HC26
                  by_cases c27 : t141 = true
                  · subst c27
                    have H1 : (if a0_2 = true then ((spec_Keyword.f kj17 a1_1).bind fun t150 => ((spec_Keyword.f kj17 (⟨#[115, 112]⟩ : ByteArray)).bind fun t151 => (spec_mavenOne.j2 kj17 true t142 (decide (t150 > t151)) a0_0 a0_1 a0_2 a1_0 a1_1 a1_2))) else (spec_mavenOne.j2 kj17 true t142 false a0_0 a0_1 a0_2 a1_0 a1_1 a1_2)) = some (r1, r2) := by rw [if_pos rfl] at H; exact H
                    clear H
                    have H := H1
                    clear H1
                    by_cases c28 : a0_2 = true
                    · subst c28
                      have H1 : ((spec_Keyword.f kj17 a1_1).bind fun t150 => ((spec_Keyword.f kj17 (⟨#[115, 112]⟩ : ByteArray)).bind fun t151 => (spec_mavenOne.j2 kj17 true t142 (decide (t150 > t151)) a0_0 a0_1 true a1_0 a1_1 a1_2))) = some (r1, r2) := by rw [if_pos rfl] at H; exact H
                      clear H
                      have H := H1
                      clear H1
                      replace H := Option.bind_eq_some_iff.mp H
                      obtain ⟨t150, A290, H⟩ := H
                      replace H : ((spec_Keyword.f kj17 (⟨#[115, 112]⟩ : ByteArray)).bind fun t151 => (spec_mavenOne.j2 kj17 true t142 (decide (t150 > t151)) a0_0 a0_1 true a1_0 a1_1 a1_2)) = some (r1, r2) := H
                      have A29 := Aside0.mk A290
                      clear A290
                      replace H := Option.bind_eq_some_iff.mp H
                      obtain ⟨t151, A300, H⟩ := H
                      replace H : (spec_mavenOne.j2 kj17 true t142 (decide (t150 > t151)) a0_0 a0_1 true a1_0 a1_1 a1_2) = some (r1, r2) := H
                      have A30 := Aside0.mk A300
                      clear A300
                      have H' := Aside0.mk H
                      clear H
                      have hnb31 := NB139_140.out
                      have hnc31 := NB140_139.out
                      have hcz32_0 : wc.cell? ⟨gb139, 0, none⟩ = some (.string a0_0) := (blk_cell BK139.out 0).trans rfl
                      have hcz32_1 : wc.cell? ⟨gb139, 1, none⟩ = some (.string a0_1) := (blk_cell BK139.out 1).trans rfl
                      have hcz32_2 : wc.cell? ⟨gb139, 2, none⟩ = some (.bool true) := (blk_cell BK139.out 2).trans rfl
                      have hfz32_0 := blk_frozen BK139.out 0
                      have hfz32_1 := blk_frozen BK139.out 1
                      have hfz32_2 := blk_frozen BK139.out 2
                      have hcz33_0 : wc.cell? ⟨gb140, 0, none⟩ = some (.string a1_0) := (blk_cell BK140.out 0).trans rfl
                      have hcz33_1 : wc.cell? ⟨gb140, 1, none⟩ = some (.string a1_1) := (blk_cell BK140.out 1).trans rfl
                      have hcz33_2 : wc.cell? ⟨gb140, 2, none⟩ = some (.bool a1_2) := (blk_cell BK140.out 2).trans rfl
                      have hfz33_0 := blk_frozen BK140.out 0
                      have hfz33_1 := blk_frozen BK140.out 1
                      have hfz33_2 := blk_frozen BK140.out 2
                      go_wp2_with (first | (go_at_call 40; (with_reducible refine (spec_Keyword.calls kj17 a1_1 t150 _ A29.out).mono ?_); rintro e w34 ⟨rfl, hb⟩; have n0_ := Aside0.mk (blk_below (g := gb139) (o := .cells #[.string a0_0, .string a0_1, .bool true] 23 (0, 0)) (by (with_reducible repeat (first | refine blk_drewN ?_ _ | refine blk_drew ?_ | refine blk_alloc ?_ _)); exact BK139.out) hb); have n1_ := Aside0.mk (blk_below (g := gb140) (o := .cells #[.string a1_0, .string a1_1, .bool a1_2] 23 (0, 0)) (by (with_reducible repeat (first | refine blk_drewN ?_ _ | refine blk_drew ?_ | refine blk_alloc ?_ _)); exact BK140.out) hb); have n2_ := Aside0.mk (below_step (by repeat (first | (with_reducible first | exact HB.out | apply below_alloc | apply pw_below_drewN | apply below_drew1 | refine below_set ?_ GE139.out | refine below_set ?_ GE140.out) | exact HB.out)) hb); clear BK139; clear BK140; clear HB; have BK139 := n0_; have BK140 := n1_; have HB := n2_; clear n0_ n1_ n2_; (try clear hb); (try clear hb2); (try clear hk); (try clear hi)) | (go_at_call 40; (with_reducible refine (spec_Keyword.calls kj17 (⟨#[115, 112]⟩ : ByteArray) t151 _ A30.out).mono ?_); rintro e w35 ⟨rfl, hb⟩; have n0_ := Aside0.mk (blk_below (g := gb139) (o := .cells #[.string a0_0, .string a0_1, .bool true] 23 (0, 0)) (by (with_reducible repeat (first | refine blk_drewN ?_ _ | refine blk_drew ?_ | refine blk_alloc ?_ _)); exact BK139.out) hb); have n1_ := Aside0.mk (blk_below (g := gb140) (o := .cells #[.string a1_0, .string a1_1, .bool a1_2] 23 (0, 0)) (by (with_reducible repeat (first | refine blk_drewN ?_ _ | refine blk_drew ?_ | refine blk_alloc ?_ _)); exact BK140.out) hb); have n2_ := Aside0.mk (below_step (by repeat (first | (with_reducible first | exact HB.out | apply below_alloc | apply pw_below_drewN | apply below_drew1 | refine below_set ?_ GE139.out | refine below_set ?_ GE140.out) | exact HB.out)) hb); clear BK139; clear BK140; clear HB; have BK139 := n0_; have BK140 := n1_; have HB := n2_; clear n0_ n1_ n2_; (try clear hb); (try clear hb2); (try clear hk); (try clear hi)))
                      repeat (go_quiet (first | (go_at_call 40; (with_reducible refine (spec_Keyword.calls kj17 a1_1 t150 _ A29.out).mono ?_); rintro e w34 ⟨rfl, hb⟩; have n0_ := Aside0.mk (blk_below (g := gb139) (o := .cells #[.string a0_0, .string a0_1, .bool true] 23 (0, 0)) (by (with_reducible repeat (first | refine blk_drewN ?_ _ | refine blk_drew ?_ | refine blk_alloc ?_ _)); exact BK139.out) hb); have n1_ := Aside0.mk (blk_below (g := gb140) (o := .cells #[.string a1_0, .string a1_1, .bool a1_2] 23 (0, 0)) (by (with_reducible repeat (first | refine blk_drewN ?_ _ | refine blk_drew ?_ | refine blk_alloc ?_ _)); exact BK140.out) hb); have n2_ := Aside0.mk (below_step (by repeat (first | (with_reducible first | exact HB.out | apply below_alloc | apply pw_below_drewN | apply below_drew1 | refine below_set ?_ GE139.out | refine below_set ?_ GE140.out) | exact HB.out)) hb); clear BK139; clear BK140; clear HB; have BK139 := n0_; have BK140 := n1_; have HB := n2_; clear n0_ n1_ n2_; (try clear hb); (try clear hb2); (try clear hk); (try clear hi)) | (go_at_call 40; (with_reducible refine (spec_Keyword.calls kj17 (⟨#[115, 112]⟩ : ByteArray) t151 _ A30.out).mono ?_); rintro e w35 ⟨rfl, hb⟩; have n0_ := Aside0.mk (blk_below (g := gb139) (o := .cells #[.string a0_0, .string a0_1, .bool true] 23 (0, 0)) (by (with_reducible repeat (first | refine blk_drewN ?_ _ | refine blk_drew ?_ | refine blk_alloc ?_ _)); exact BK139.out) hb); have n1_ := Aside0.mk (blk_below (g := gb140) (o := .cells #[.string a1_0, .string a1_1, .bool a1_2] 23 (0, 0)) (by (with_reducible repeat (first | refine blk_drewN ?_ _ | refine blk_drew ?_ | refine blk_alloc ?_ _)); exact BK140.out) hb); have n2_ := Aside0.mk (below_step (by repeat (first | (with_reducible first | exact HB.out | apply below_alloc | apply pw_below_drewN | apply below_drew1 | refine below_set ?_ GE139.out | refine below_set ?_ GE140.out) | exact HB.out)) hb); clear BK139; clear BK140; clear HB; have BK139 := n0_; have BK140 := n1_; have HB := n2_; clear n0_ n1_ n2_; (try clear hb); (try clear hb2); (try clear hk); (try clear hi))); try go_wp2_with (first | (go_at_call 40; (with_reducible refine (spec_Keyword.calls kj17 a1_1 t150 _ A29.out).mono ?_); rintro e w34 ⟨rfl, hb⟩; have n0_ := Aside0.mk (blk_below (g := gb139) (o := .cells #[.string a0_0, .string a0_1, .bool true] 23 (0, 0)) (by (with_reducible repeat (first | refine blk_drewN ?_ _ | refine blk_drew ?_ | refine blk_alloc ?_ _)); exact BK139.out) hb); have n1_ := Aside0.mk (blk_below (g := gb140) (o := .cells #[.string a1_0, .string a1_1, .bool a1_2] 23 (0, 0)) (by (with_reducible repeat (first | refine blk_drewN ?_ _ | refine blk_drew ?_ | refine blk_alloc ?_ _)); exact BK140.out) hb); have n2_ := Aside0.mk (below_step (by repeat (first | (with_reducible first | exact HB.out | apply below_alloc | apply pw_below_drewN | apply below_drew1 | refine below_set ?_ GE139.out | refine below_set ?_ GE140.out) | exact HB.out)) hb); clear BK139; clear BK140; clear HB; have BK139 := n0_; have BK140 := n1_; have HB := n2_; clear n0_ n1_ n2_; (try clear hb); (try clear hb2); (try clear hk); (try clear hi)) | (go_at_call 40; (with_reducible refine (spec_Keyword.calls kj17 (⟨#[115, 112]⟩ : ByteArray) t151 _ A30.out).mono ?_); rintro e w35 ⟨rfl, hb⟩; have n0_ := Aside0.mk (blk_below (g := gb139) (o := .cells #[.string a0_0, .string a0_1, .bool true] 23 (0, 0)) (by (with_reducible repeat (first | refine blk_drewN ?_ _ | refine blk_drew ?_ | refine blk_alloc ?_ _)); exact BK139.out) hb); have n1_ := Aside0.mk (blk_below (g := gb140) (o := .cells #[.string a1_0, .string a1_1, .bool a1_2] 23 (0, 0)) (by (with_reducible repeat (first | refine blk_drewN ?_ _ | refine blk_drew ?_ | refine blk_alloc ?_ _)); exact BK140.out) hb); have n2_ := Aside0.mk (below_step (by repeat (first | (with_reducible first | exact HB.out | apply below_alloc | apply pw_below_drewN | apply below_drew1 | refine below_set ?_ GE139.out | refine below_set ?_ GE140.out) | exact HB.out)) hb); clear BK139; clear BK140; clear HB; have BK139 := n0_; have BK140 := n1_; have HB := n2_; clear n0_ n1_ n2_; (try clear hb); (try clear hb2); (try clear hk); (try clear hi))))
                      go_meet
                      case rel => exact ⟨_, (decide (t150 > t151)), (by first | rfl | (simp; done) | (simp [*]; done)), H', ⟨by have := HJ5.out; have := HJ17.out; first | omega | exact Nat.le_refl _⟩, ⟨by (with_reducible repeat (first | refine blk_drewN ?_ _ | refine blk_drew ?_ | refine blk_alloc ?_ _)); exact BK139.out⟩, ⟨by (with_reducible repeat (first | refine blk_drewN ?_ _ | refine blk_drew ?_ | refine blk_alloc ?_ _)); exact BK140.out⟩, ⟨by repeat (first | (with_reducible first | exact HB.out | apply below_alloc | apply pw_below_drewN | apply below_drew1 | refine below_set ?_ GE139.out | refine below_set ?_ GE140.out) | exact HB.out)⟩⟩
                    · replace c28 := Bool.eq_false_iff.mpr c28
                      subst c28
                      have H1 : (spec_mavenOne.j2 kj17 true t142 false a0_0 a0_1 false a1_0 a1_1 a1_2) = some (r1, r2) := by rw [if_neg (show ¬ (false = true) by decide)] at H; exact H
                      clear H
                      have H := H1
                      clear H1
                      have H' := Aside0.mk H
                      clear H
                      have hnb36 := NB139_140.out
                      have hnc36 := NB140_139.out
                      have hcz37_0 : wc.cell? ⟨gb139, 0, none⟩ = some (.string a0_0) := (blk_cell BK139.out 0).trans rfl
                      have hcz37_1 : wc.cell? ⟨gb139, 1, none⟩ = some (.string a0_1) := (blk_cell BK139.out 1).trans rfl
                      have hcz37_2 : wc.cell? ⟨gb139, 2, none⟩ = some (.bool false) := (blk_cell BK139.out 2).trans rfl
                      have hfz37_0 := blk_frozen BK139.out 0
                      have hfz37_1 := blk_frozen BK139.out 1
                      have hfz37_2 := blk_frozen BK139.out 2
                      go_wp2
                      repeat (go_quiet (fail); try go_wp2)
                      go_meet
                      case rel => exact ⟨_, (false), (by first | rfl | (simp; done) | (simp [*]; done)), H', ⟨by have := HJ5.out; have := HJ17.out; first | omega | exact Nat.le_refl _⟩, ⟨by (with_reducible repeat (first | refine blk_drewN ?_ _ | refine blk_drew ?_ | refine blk_alloc ?_ _)); exact BK139.out⟩, ⟨by (with_reducible repeat (first | refine blk_drewN ?_ _ | refine blk_drew ?_ | refine blk_alloc ?_ _)); exact BK140.out⟩, ⟨by repeat (first | (with_reducible first | exact HB.out | apply below_alloc | apply pw_below_drewN | apply below_drew1 | refine below_set ?_ GE139.out | refine below_set ?_ GE140.out) | exact HB.out)⟩⟩
                  · replace c27 := Bool.eq_false_iff.mpr c27
                    subst c27
                    have H1 : (spec_mavenOne.j2 kj17 false t142 false a0_0 a0_1 a0_2 a1_0 a1_1 a1_2) = some (r1, r2) := by rw [if_neg (show ¬ (false = true) by decide)] at H; exact H
                    clear H
                    have H := H1
                    clear H1
                    have H' := Aside0.mk H
                    clear H
                    go_wp2
                    repeat (go_quiet (fail); try go_wp2)
                    go_meet
                    case rel => exact ⟨_, (false), (by first | rfl | (simp; done) | (simp [*]; done)), H', ⟨by have := HJ5.out; have := HJ17.out; first | omega | exact Nat.le_refl _⟩, ⟨by (with_reducible repeat (first | refine blk_drewN ?_ _ | refine blk_drew ?_ | refine blk_alloc ?_ _)); exact BK139.out⟩, ⟨by (with_reducible repeat (first | refine blk_drewN ?_ _ | refine blk_drew ?_ | refine blk_alloc ?_ _)); exact BK140.out⟩, ⟨by repeat (first | (with_reducible first | exact HB.out | apply below_alloc | apply pw_below_drewN | apply below_drew1 | refine below_set ?_ GE139.out | refine below_set ?_ GE140.out) | exact HB.out)⟩⟩
                case rest =>
                  clear HC26
                  try clear c1
                  try clear c2
                  try clear p2
                  try clear c3
                  try clear c5
                  try clear c5b0
                  try clear c5b1
                  try clear c9
                  try clear c12
                  try clear c13
                  try clear c15
                  try clear c19
                  try clear c20
                  try clear c22
                  try clear c24
                  try clear c27
                  try clear c28
                  try clear c31
                  try clear c36
                  try clear hcz10_0
                  try clear hcz10_1
                  try clear hcz10_2
                  try clear hcz11_0
                  try clear hcz11_1
                  try clear hcz11_2
                  try clear hcz16_0
                  try clear hcz16_1
                  try clear hcz16_2
                  try clear hcz17_0
                  try clear hcz17_1
                  try clear hcz17_2
                  try clear hcz23_0
                  try clear hcz23_1
                  try clear hcz23_2
                  try clear hcz24_0
                  try clear hcz24_1
                  try clear hcz24_2
                  try clear hcz32_0
                  try clear hcz32_1
                  try clear hcz32_2
                  try clear hcz33_0
                  try clear hcz33_1
                  try clear hcz33_2
                  try clear hcz37_0
                  try clear hcz37_1
                  try clear hcz37_2
                  try clear hfz10_0
                  try clear hfz10_1
                  try clear hfz10_2
                  try clear hfz11_0
                  try clear hfz11_1
                  try clear hfz11_2
                  try clear hfz16_0
                  try clear hfz16_1
                  try clear hfz16_2
                  try clear hfz17_0
                  try clear hfz17_1
                  try clear hfz17_2
                  try clear hfz23_0
                  try clear hfz23_1
                  try clear hfz23_2
                  try clear hfz24_0
                  try clear hfz24_1
                  try clear hfz24_2
                  try clear hfz32_0
                  try clear hfz32_1
                  try clear hfz32_2
                  try clear hfz33_0
                  try clear hfz33_1
                  try clear hfz33_2
                  try clear hfz37_0
                  try clear hfz37_1
                  try clear hfz37_2
                  try clear p2
                  obtain ⟨kq, x62_25, rfl, HA, HJ25, BK139, BK140, HB⟩ := hcut
                  cases kq with
                  | zero => exact absurd HA.out (by simp [spec_mavenOne.j2])
                  | succ kj25 =>
                    have H := HA.out
                    clear HA
                    simp only [spec_mavenOne.j2] at H
                    by_cases c38 : x62_25 = true
                    · subst c38
                      have H1 : (some ((-1), true)) = some (r1, r2) := by rw [if_pos rfl] at H; exact H
                      clear H
                      have H := H1
                      clear H1
                      simp only [Option.some.injEq, Prod.mk.injEq] at H
                      obtain ⟨rfl, rfl⟩ := H
                      go_wp2
                      repeat (go_quiet (fail); try go_wp2)
                      go_ret2
                      exact ⟨by first | rfl | (simp [errW_none, errW_some] <;> rfl) | (simp [*, errW_none, errW_some] <;> rfl), by repeat (first | (with_reducible first | exact HB.out | apply below_alloc | apply pw_below_drewN | apply below_drew1 | refine below_set ?_ GE139.out | refine below_set ?_ GE140.out) | exact HB.out)⟩
                    · replace c38 := Bool.eq_false_iff.mpr c38
                      subst c38
                      have H1 : (if t142 = true then (if a1_2 = true then ((spec_Keyword.f kj25 a0_1).bind fun t152 => ((spec_Keyword.f kj25 (⟨#[115, 112]⟩ : ByteArray)).bind fun t153 => (spec_mavenOne.j3 kj25 t141 (decide (t152 > t153))))) else (spec_mavenOne.j3 kj25 t141 false)) else (spec_mavenOne.j3 kj25 t141 false)) = some (r1, r2) := by rw [if_neg (show ¬ (false = true) by decide)] at H; exact H
                      clear H
                      have H := H1
                      clear H1
                      have HC39 := Aside0.mk H
                      clear H
                      go_upto_region 12 with (fail)
                      repeat (go_quiet (fail); go_upto_region 12 with (fail))
                      go_cut [75] (fun v75 wc => ∃ (kq : Nat) (x75_38 : Bool), v75 = .bool x75_38 ∧ Aside0 (spec_mavenOne.j3 kq t141 x75_38 = some (r1, r2)) ∧ Aside0 (kq ≤ kj25) ∧ Aside0 (wc.heap[gb139]? = some (.cells #[.string a0_0, .string a0_1, .bool a0_2] 23 (0, 0))) ∧ Aside0 (wc.heap[gb140]? = some (.cells #[.string a1_0, .string a1_1, .bool a1_2] 23 (0, 0))) ∧ Aside0 (Below w.heap.size w wc))
                      case first =>
                        have H := HC39.out
                        clear HC39
                        by_cases c40 : t142 = true
                        · subst c40
                          have H1 : (if a1_2 = true then ((spec_Keyword.f kj25 a0_1).bind fun t152 => ((spec_Keyword.f kj25 (⟨#[115, 112]⟩ : ByteArray)).bind fun t153 => (spec_mavenOne.j3 kj25 t141 (decide (t152 > t153))))) else (spec_mavenOne.j3 kj25 t141 false)) = some (r1, r2) := by rw [if_pos rfl] at H; exact H
                          clear H
                          have H := H1
                          clear H1
                          by_cases c41 : a1_2 = true
                          · subst c41
                            have H1 : ((spec_Keyword.f kj25 a0_1).bind fun t152 => ((spec_Keyword.f kj25 (⟨#[115, 112]⟩ : ByteArray)).bind fun t153 => (spec_mavenOne.j3 kj25 t141 (decide (t152 > t153))))) = some (r1, r2) := by rw [if_pos rfl] at H; exact H
                            clear H
                            have H := H1
                            clear H1
                            replace H := Option.bind_eq_some_iff.mp H
                            obtain ⟨t152, A420, H⟩ := H
                            replace H : ((spec_Keyword.f kj25 (⟨#[115, 112]⟩ : ByteArray)).bind fun t153 => (spec_mavenOne.j3 kj25 t141 (decide (t152 > t153)))) = some (r1, r2) := H
                            have A42 := Aside0.mk A420
                            clear A420
                            replace H := Option.bind_eq_some_iff.mp H
                            obtain ⟨t153, A430, H⟩ := H
                            replace H : (spec_mavenOne.j3 kj25 t141 (decide (t152 > t153))) = some (r1, r2) := H
                            have A43 := Aside0.mk A430
                            clear A430
                            have H' := Aside0.mk H
                            clear H
                            have hnb44 := NB140_139.out
                            have hnc44 := NB139_140.out
                            have hcz45_0 : wc.cell? ⟨gb140, 0, none⟩ = some (.string a1_0) := (blk_cell BK140.out 0).trans rfl
                            have hcz45_1 : wc.cell? ⟨gb140, 1, none⟩ = some (.string a1_1) := (blk_cell BK140.out 1).trans rfl
                            have hcz45_2 : wc.cell? ⟨gb140, 2, none⟩ = some (.bool true) := (blk_cell BK140.out 2).trans rfl
                            have hfz45_0 := blk_frozen BK140.out 0
                            have hfz45_1 := blk_frozen BK140.out 1
                            have hfz45_2 := blk_frozen BK140.out 2
                            have hcz46_0 : wc.cell? ⟨gb139, 0, none⟩ = some (.string a0_0) := (blk_cell BK139.out 0).trans rfl
                            have hcz46_1 : wc.cell? ⟨gb139, 1, none⟩ = some (.string a0_1) := (blk_cell BK139.out 1).trans rfl
                            have hcz46_2 : wc.cell? ⟨gb139, 2, none⟩ = some (.bool a0_2) := (blk_cell BK139.out 2).trans rfl
                            have hfz46_0 := blk_frozen BK139.out 0
                            have hfz46_1 := blk_frozen BK139.out 1
                            have hfz46_2 := blk_frozen BK139.out 2
                            go_wp2_with (first | (go_at_call 40; (with_reducible refine (spec_Keyword.calls kj25 a0_1 t152 _ A42.out).mono ?_); rintro e w47 ⟨rfl, hb⟩; have n0_ := Aside0.mk (blk_below (g := gb139) (o := .cells #[.string a0_0, .string a0_1, .bool a0_2] 23 (0, 0)) (by (with_reducible repeat (first | refine blk_drewN ?_ _ | refine blk_drew ?_ | refine blk_alloc ?_ _)); exact BK139.out) hb); have n1_ := Aside0.mk (blk_below (g := gb140) (o := .cells #[.string a1_0, .string a1_1, .bool true] 23 (0, 0)) (by (with_reducible repeat (first | refine blk_drewN ?_ _ | refine blk_drew ?_ | refine blk_alloc ?_ _)); exact BK140.out) hb); have n2_ := Aside0.mk (below_step (by repeat (first | (with_reducible first | exact HB.out | apply below_alloc | apply pw_below_drewN | apply below_drew1 | refine below_set ?_ GE139.out | refine below_set ?_ GE140.out) | exact HB.out)) hb); clear BK139; clear BK140; clear HB; have BK139 := n0_; have BK140 := n1_; have HB := n2_; clear n0_ n1_ n2_; (try clear hb); (try clear hb2); (try clear hk); (try clear hi)) | (go_at_call 40; (with_reducible refine (spec_Keyword.calls kj25 (⟨#[115, 112]⟩ : ByteArray) t153 _ A43.out).mono ?_); rintro e w48 ⟨rfl, hb⟩; have n0_ := Aside0.mk (blk_below (g := gb139) (o := .cells #[.string a0_0, .string a0_1, .bool a0_2] 23 (0, 0)) (by (with_reducible repeat (first | refine blk_drewN ?_ _ | refine blk_drew ?_ | refine blk_alloc ?_ _)); exact BK139.out) hb); have n1_ := Aside0.mk (blk_below (g := gb140) (o := .cells #[.string a1_0, .string a1_1, .bool true] 23 (0, 0)) (by (with_reducible repeat (first | refine blk_drewN ?_ _ | refine blk_drew ?_ | refine blk_alloc ?_ _)); exact BK140.out) hb); have n2_ := Aside0.mk (below_step (by repeat (first | (with_reducible first | exact HB.out | apply below_alloc | apply pw_below_drewN | apply below_drew1 | refine below_set ?_ GE139.out | refine below_set ?_ GE140.out) | exact HB.out)) hb); clear BK139; clear BK140; clear HB; have BK139 := n0_; have BK140 := n1_; have HB := n2_; clear n0_ n1_ n2_; (try clear hb); (try clear hb2); (try clear hk); (try clear hi)))
                            repeat (go_quiet (first | (go_at_call 40; (with_reducible refine (spec_Keyword.calls kj25 a0_1 t152 _ A42.out).mono ?_); rintro e w47 ⟨rfl, hb⟩; have n0_ := Aside0.mk (blk_below (g := gb139) (o := .cells #[.string a0_0, .string a0_1, .bool a0_2] 23 (0, 0)) (by (with_reducible repeat (first | refine blk_drewN ?_ _ | refine blk_drew ?_ | refine blk_alloc ?_ _)); exact BK139.out) hb); have n1_ := Aside0.mk (blk_below (g := gb140) (o := .cells #[.string a1_0, .string a1_1, .bool true] 23 (0, 0)) (by (with_reducible repeat (first | refine blk_drewN ?_ _ | refine blk_drew ?_ | refine blk_alloc ?_ _)); exact BK140.out) hb); have n2_ := Aside0.mk (below_step (by repeat (first | (with_reducible first | exact HB.out | apply below_alloc | apply pw_below_drewN | apply below_drew1 | refine below_set ?_ GE139.out | refine below_set ?_ GE140.out) | exact HB.out)) hb); clear BK139; clear BK140; clear HB; have BK139 := n0_; have BK140 := n1_; have HB := n2_; clear n0_ n1_ n2_; (try clear hb); (try clear hb2); (try clear hk); (try clear hi)) | (go_at_call 40; (with_reducible refine (spec_Keyword.calls kj25 (⟨#[115, 112]⟩ : ByteArray) t153 _ A43.out).mono ?_); rintro e w48 ⟨rfl, hb⟩; have n0_ := Aside0.mk (blk_below (g := gb139) (o := .cells #[.string a0_0, .string a0_1, .bool a0_2] 23 (0, 0)) (by (with_reducible repeat (first | refine blk_drewN ?_ _ | refine blk_drew ?_ | refine blk_alloc ?_ _)); exact BK139.out) hb); have n1_ := Aside0.mk (blk_below (g := gb140) (o := .cells #[.string a1_0, .string a1_1, .bool true] 23 (0, 0)) (by (with_reducible repeat (first | refine blk_drewN ?_ _ | refine blk_drew ?_ | refine blk_alloc ?_ _)); exact BK140.out) hb); have n2_ := Aside0.mk (below_step (by repeat (first | (with_reducible first | exact HB.out | apply below_alloc | apply pw_below_drewN | apply below_drew1 | refine below_set ?_ GE139.out | refine below_set ?_ GE140.out) | exact HB.out)) hb); clear BK139; clear BK140; clear HB; have BK139 := n0_; have BK140 := n1_; have HB := n2_; clear n0_ n1_ n2_; (try clear hb); (try clear hb2); (try clear hk); (try clear hi))); try go_wp2_with (first | (go_at_call 40; (with_reducible refine (spec_Keyword.calls kj25 a0_1 t152 _ A42.out).mono ?_); rintro e w47 ⟨rfl, hb⟩; have n0_ := Aside0.mk (blk_below (g := gb139) (o := .cells #[.string a0_0, .string a0_1, .bool a0_2] 23 (0, 0)) (by (with_reducible repeat (first | refine blk_drewN ?_ _ | refine blk_drew ?_ | refine blk_alloc ?_ _)); exact BK139.out) hb); have n1_ := Aside0.mk (blk_below (g := gb140) (o := .cells #[.string a1_0, .string a1_1, .bool true] 23 (0, 0)) (by (with_reducible repeat (first | refine blk_drewN ?_ _ | refine blk_drew ?_ | refine blk_alloc ?_ _)); exact BK140.out) hb); have n2_ := Aside0.mk (below_step (by repeat (first | (with_reducible first | exact HB.out | apply below_alloc | apply pw_below_drewN | apply below_drew1 | refine below_set ?_ GE139.out | refine below_set ?_ GE140.out) | exact HB.out)) hb); clear BK139; clear BK140; clear HB; have BK139 := n0_; have BK140 := n1_; have HB := n2_; clear n0_ n1_ n2_; (try clear hb); (try clear hb2); (try clear hk); (try clear hi)) | (go_at_call 40; (with_reducible refine (spec_Keyword.calls kj25 (⟨#[115, 112]⟩ : ByteArray) t153 _ A43.out).mono ?_); rintro e w48 ⟨rfl, hb⟩; have n0_ := Aside0.mk (blk_below (g := gb139) (o := .cells #[.string a0_0, .string a0_1, .bool a0_2] 23 (0, 0)) (by (with_reducible repeat (first | refine blk_drewN ?_ _ | refine blk_drew ?_ | refine blk_alloc ?_ _)); exact BK139.out) hb); have n1_ := Aside0.mk (blk_below (g := gb140) (o := .cells #[.string a1_0, .string a1_1, .bool true] 23 (0, 0)) (by (with_reducible repeat (first | refine blk_drewN ?_ _ | refine blk_drew ?_ | refine blk_alloc ?_ _)); exact BK140.out) hb); have n2_ := Aside0.mk (below_step (by repeat (first | (with_reducible first | exact HB.out | apply below_alloc | apply pw_below_drewN | apply below_drew1 | refine below_set ?_ GE139.out | refine below_set ?_ GE140.out) | exact HB.out)) hb); clear BK139; clear BK140; clear HB; have BK139 := n0_; have BK140 := n1_; have HB := n2_; clear n0_ n1_ n2_; (try clear hb); (try clear hb2); (try clear hk); (try clear hi))))
                            go_meet
                            case rel => exact ⟨_, (decide (t152 > t153)), (by first | rfl | (simp; done) | (simp [*]; done)), H', ⟨by have := HJ5.out; have := HJ17.out; have := HJ25.out; first | omega | exact Nat.le_refl _⟩, ⟨by (with_reducible repeat (first | refine blk_drewN ?_ _ | refine blk_drew ?_ | refine blk_alloc ?_ _)); exact BK139.out⟩, ⟨by (with_reducible repeat (first | refine blk_drewN ?_ _ | refine blk_drew ?_ | refine blk_alloc ?_ _)); exact BK140.out⟩, ⟨by repeat (first | (with_reducible first | exact HB.out | apply below_alloc | apply pw_below_drewN | apply below_drew1 | refine below_set ?_ GE139.out | refine below_set ?_ GE140.out) | exact HB.out)⟩⟩
                          · replace c41 := Bool.eq_false_iff.mpr c41
                            subst c41
                            have H1 : (spec_mavenOne.j3 kj25 t141 false) = some (r1, r2) := by rw [if_neg (show ¬ (false = true) by decide)] at H; exact H
                            clear H
                            have H := H1
                            clear H1
                            have H' := Aside0.mk H
                            clear H
                            have hnb49 := NB140_139.out
                            have hnc49 := NB139_140.out
                            have hcz50_0 : wc.cell? ⟨gb140, 0, none⟩ = some (.string a1_0) := (blk_cell BK140.out 0).trans rfl
                            have hcz50_1 : wc.cell? ⟨gb140, 1, none⟩ = some (.string a1_1) := (blk_cell BK140.out 1).trans rfl
                            have hcz50_2 : wc.cell? ⟨gb140, 2, none⟩ = some (.bool false) := (blk_cell BK140.out 2).trans rfl
                            have hfz50_0 := blk_frozen BK140.out 0
                            have hfz50_1 := blk_frozen BK140.out 1
                            have hfz50_2 := blk_frozen BK140.out 2
                            go_wp2
                            repeat (go_quiet (fail); try go_wp2)
                            go_meet
                            case rel => exact ⟨_, (false), (by first | rfl | (simp; done) | (simp [*]; done)), H', ⟨by have := HJ5.out; have := HJ17.out; have := HJ25.out; first | omega | exact Nat.le_refl _⟩, ⟨by (with_reducible repeat (first | refine blk_drewN ?_ _ | refine blk_drew ?_ | refine blk_alloc ?_ _)); exact BK139.out⟩, ⟨by (with_reducible repeat (first | refine blk_drewN ?_ _ | refine blk_drew ?_ | refine blk_alloc ?_ _)); exact BK140.out⟩, ⟨by repeat (first | (with_reducible first | exact HB.out | apply below_alloc | apply pw_below_drewN | apply below_drew1 | refine below_set ?_ GE139.out | refine below_set ?_ GE140.out) | exact HB.out)⟩⟩
                        · replace c40 := Bool.eq_false_iff.mpr c40
                          subst c40
                          have H1 : (spec_mavenOne.j3 kj25 t141 false) = some (r1, r2) := by rw [if_neg (show ¬ (false = true) by decide)] at H; exact H
                          clear H
                          have H := H1
                          clear H1
                          have H' := Aside0.mk H
                          clear H
                          go_wp2
                          repeat (go_quiet (fail); try go_wp2)
                          go_meet
                          case rel => exact ⟨_, (false), (by first | rfl | (simp; done) | (simp [*]; done)), H', ⟨by have := HJ5.out; have := HJ17.out; have := HJ25.out; first | omega | exact Nat.le_refl _⟩, ⟨by (with_reducible repeat (first | refine blk_drewN ?_ _ | refine blk_drew ?_ | refine blk_alloc ?_ _)); exact BK139.out⟩, ⟨by (with_reducible repeat (first | refine blk_drewN ?_ _ | refine blk_drew ?_ | refine blk_alloc ?_ _)); exact BK140.out⟩, ⟨by repeat (first | (with_reducible first | exact HB.out | apply below_alloc | apply pw_below_drewN | apply below_drew1 | refine below_set ?_ GE139.out | refine below_set ?_ GE140.out) | exact HB.out)⟩⟩
                      case rest =>
                        clear HC39
                        try clear c1
                        try clear c2
                        try clear p2
                        try clear c3
                        try clear c4
                        try clear c5
                        try clear c5b0
                        try clear c5b1
                        try clear c9
                        try clear c12
                        try clear c13
                        try clear c15
                        try clear c19
                        try clear c20
                        try clear c22
                        try clear c24
                        try clear c27
                        try clear c28
                        try clear c31
                        try clear c36
                        try clear c38
                        try clear c40
                        try clear c41
                        try clear c44
                        try clear c49
                        try clear hcz10_0
                        try clear hcz10_1
                        try clear hcz10_2
                        try clear hcz11_0
                        try clear hcz11_1
                        try clear hcz11_2
                        try clear hcz16_0
                        try clear hcz16_1
                        try clear hcz16_2
                        try clear hcz17_0
                        try clear hcz17_1
                        try clear hcz17_2
                        try clear hcz23_0
                        try clear hcz23_1
                        try clear hcz23_2
                        try clear hcz24_0
                        try clear hcz24_1
                        try clear hcz24_2
                        try clear hcz32_0
                        try clear hcz32_1
                        try clear hcz32_2
                        try clear hcz33_0
                        try clear hcz33_1
                        try clear hcz33_2
                        try clear hcz37_0
                        try clear hcz37_1
                        try clear hcz37_2
                        try clear hcz45_0
                        try clear hcz45_1
                        try clear hcz45_2
                        try clear hcz46_0
                        try clear hcz46_1
                        try clear hcz46_2
                        try clear hcz50_0
                        try clear hcz50_1
                        try clear hcz50_2
                        try clear hfz10_0
                        try clear hfz10_1
                        try clear hfz10_2
                        try clear hfz11_0
                        try clear hfz11_1
                        try clear hfz11_2
                        try clear hfz16_0
                        try clear hfz16_1
                        try clear hfz16_2
                        try clear hfz17_0
                        try clear hfz17_1
                        try clear hfz17_2
                        try clear hfz23_0
                        try clear hfz23_1
                        try clear hfz23_2
                        try clear hfz24_0
                        try clear hfz24_1
                        try clear hfz24_2
                        try clear hfz32_0
                        try clear hfz32_1
                        try clear hfz32_2
                        try clear hfz33_0
                        try clear hfz33_1
                        try clear hfz33_2
                        try clear hfz37_0
                        try clear hfz37_1
                        try clear hfz37_2
                        try clear hfz45_0
                        try clear hfz45_1
                        try clear hfz45_2
                        try clear hfz46_0
                        try clear hfz46_1
                        try clear hfz46_2
                        try clear hfz50_0
                        try clear hfz50_1
                        try clear hfz50_2
                        try clear p2
                        obtain ⟨kq, x75_38, rfl, HA, HJ38, BK139, BK140, HB⟩ := hcut
                        cases kq with
                        | zero => exact absurd HA.out (by simp [spec_mavenOne.j3])
                        | succ kj38 =>
                          have H := HA.out
                          clear HA
                          simp only [spec_mavenOne.j3] at H
                          by_cases c51 : x75_38 = true
                          · subst c51
                            have H1 : (some (1, true)) = some (r1, r2) := by rw [if_pos rfl] at H; exact H
                            clear H
                            have H := H1
                            clear H1
                            simp only [Option.some.injEq, Prod.mk.injEq] at H
                            obtain ⟨rfl, rfl⟩ := H
                            go_wp2
                            repeat (go_quiet (fail); try go_wp2)
                            go_ret2
                            exact ⟨by first | rfl | (simp [errW_none, errW_some] <;> rfl) | (simp [*, errW_none, errW_some] <;> rfl), by repeat (first | (with_reducible first | exact HB.out | apply below_alloc | apply pw_below_drewN | apply below_drew1 | refine below_set ?_ GE139.out | refine below_set ?_ GE140.out) | exact HB.out)⟩
                          · replace c51 := Bool.eq_false_iff.mpr c51
                            subst c51
                            have H1 : (if t141 = true then (some (1, true)) else (some ((-1), true))) = some (r1, r2) := by rw [if_neg (show ¬ (false = true) by decide)] at H; exact H
                            clear H
                            have H := H1
                            clear H1
                            by_cases c52 : t141 = true
                            · subst c52
                              have H1 : (some (1, true)) = some (r1, r2) := by rw [if_pos rfl] at H; exact H
                              clear H
                              have H := H1
                              clear H1
                              simp only [Option.some.injEq, Prod.mk.injEq] at H
                              obtain ⟨rfl, rfl⟩ := H
                              go_wp2
                              repeat (go_quiet (fail); try go_wp2)
                              go_ret2
                              exact ⟨by first | rfl | (simp [errW_none, errW_some] <;> rfl) | (simp [*, errW_none, errW_some] <;> rfl), by repeat (first | (with_reducible first | exact HB.out | apply below_alloc | apply pw_below_drewN | apply below_drew1 | refine below_set ?_ GE139.out | refine below_set ?_ GE140.out) | exact HB.out)⟩
                            · replace c52 := Bool.eq_false_iff.mpr c52
                              subst c52
                              have H1 : (some ((-1), true)) = some (r1, r2) := by rw [if_neg (show ¬ (false = true) by decide)] at H; exact H
                              clear H
                              have H := H1
                              clear H1
                              simp only [Option.some.injEq, Prod.mk.injEq] at H
                              obtain ⟨rfl, rfl⟩ := H
                              go_wp2
                              repeat (go_quiet (fail); try go_wp2)
                              go_ret2
                              exact ⟨by first | rfl | (simp [errW_none, errW_some] <;> rfl) | (simp [*, errW_none, errW_some] <;> rfl), by repeat (first | (with_reducible first | exact HB.out | apply below_alloc | apply pw_below_drewN | apply below_drew1 | refine below_set ?_ GE139.out | refine below_set ?_ GE140.out) | exact HB.out)⟩
  · rw [if_neg c5] at H
    have c5b0 : (a0_0.toList == a1_0.toList) = false := beq_eq_false_iff_ne.mpr c5
    have c5b1 : (a0_0.toList != a1_0.toList) = true := bne_iff_ne.mpr c5
    replace H := Option.bind_eq_some_iff.mp H
    obtain ⟨⟨t143, t144⟩, A530, H⟩ := H
    replace H : ((spec_TokenOrder.f k a1_0 a1_1 a1_2).bind fun bt145 => ((spec_orderInts.f t143 bt145.1).bind fun t147 => (if t144 = true then (some (t147, bt145.2)) else (some (t147, false))))) = some (r1, r2) := H
    have A53 := Aside0.mk A530
    clear A530
    replace H := Option.bind_eq_some_iff.mp H
    obtain ⟨⟨t145, t146⟩, A540, H⟩ := H
    replace H : ((spec_orderInts.f t143 t145).bind fun t147 => (if t144 = true then (some (t147, t146)) else (some (t147, false)))) = some (r1, r2) := H
    have A54 := Aside0.mk A540
    clear A540
    replace H := Option.bind_eq_some_iff.mp H
    obtain ⟨t147, A550, H⟩ := H
    replace H : (if t144 = true then (some (t147, t146)) else (some (t147, false))) = some (r1, r2) := H
    have A55 := Aside0.mk A550
    clear A550
    by_cases c56 : t144 = true
    · subst c56
      have H1 : (some (t147, t146)) = some (r1, r2) := by rw [if_pos rfl] at H; exact H
      clear H
      have H := H1
      clear H1
      simp only [Option.some.injEq, Prod.mk.injEq] at H
      obtain ⟨rfl, rfl⟩ := H
      go_enter Tryd.func24, Tryd.ntmps24
      go_wp2_with (first | ((with_reducible refine gate_dst (N := 2) rfl ?_); refine box_event ?hg (N := 2) ?hd (cs := #[.string a0_0, .string a0_1, .bool a0_2]) (t := 23) ?hr ?_; (case hd => rfl); (case hg => rfl); (case hr => first | (go_simp; done) | (go_simp; rfl)); intro gb139 hg w57 hbox hb; have n0_ := Aside0.mk (below_step (by repeat (first | (with_reducible first | exact HB.out | apply below_alloc | apply pw_below_drewN | apply below_drew1) | exact HB.out)) hb); have n1_ := Aside0.mk (hbox); have n2_ := Aside0.mk ((by rw [hg]; exact (below_size (by repeat (first | (with_reducible first | exact HB.out | apply below_alloc | apply pw_below_drewN | apply below_drew1) | exact HB.out))) : w.heap.size ≤ gb139)); have n3_ := Aside0.mk ((by rw [hg]; exact (below_size (by repeat (first | (with_reducible first | exact HB.out | apply below_alloc | apply pw_below_drewN | apply below_drew1) | exact HB.out))) : w.heap.size ≤ gb139)); clear HB; have HB := n0_; have BK139 := n1_; have GW139 := n2_; have GE139 := n3_; clear n0_ n1_ n2_ n3_; clear hb hbox hg) | ((with_reducible refine gate_dst (N := 3) rfl ?_); refine box_event ?hg (N := 3) ?hd (cs := #[.string a1_0, .string a1_1, .bool a1_2]) (t := 23) ?hr ?_; (case hd => rfl); (case hg => rfl); (case hr => first | (go_simp; done) | (go_simp; rfl)); intro gb140 hg w58 hbox hb; have n0_ := Aside0.mk (blk_below (g := gb139) (o := .cells #[.string a0_0, .string a0_1, .bool a0_2] 23 (0, 0)) (by (with_reducible repeat (first | refine blk_drewN ?_ _ | refine blk_drew ?_ | refine blk_alloc ?_ _)); exact BK139.out) hb); have n1_ := Aside0.mk (below_step (by repeat (first | (with_reducible first | exact HB.out | apply below_alloc | apply pw_below_drewN | apply below_drew1 | refine below_set ?_ GE139.out) | exact HB.out)) hb); have n2_ := Aside0.mk (hbox); have n3_ := Aside0.mk ((by rw [hg]; exact (below_size (by repeat (first | (with_reducible first | exact HB.out | apply below_alloc | apply pw_below_drewN | apply below_drew1 | refine below_set ?_ GE139.out) | exact HB.out))) : w.heap.size ≤ gb140)); have n4_ := Aside0.mk ((by rw [hg]; exact (below_size (by repeat (first | (with_reducible first | exact HB.out | apply below_alloc | apply pw_below_drewN | apply below_drew1 | refine below_set ?_ GE139.out) | exact HB.out))) : w.heap.size ≤ gb140)); have n5_ := Aside0.mk ((by rw [hg]; exact Nat.ne_of_lt (blk_lt (g := gb139) (o := .cells #[.string a0_0, .string a0_1, .bool a0_2] 23 (0, 0)) (by (with_reducible repeat (first | refine blk_drewN ?_ _ | refine blk_drew ?_ | refine blk_alloc ?_ _)); exact BK139.out)) : gb139 ≠ gb140)); have n6_ := Aside0.mk ((by rw [hg]; exact Nat.ne_of_gt (blk_lt (g := gb139) (o := .cells #[.string a0_0, .string a0_1, .bool a0_2] 23 (0, 0)) (by (with_reducible repeat (first | refine blk_drewN ?_ _ | refine blk_drew ?_ | refine blk_alloc ?_ _)); exact BK139.out)) : gb140 ≠ gb139)); clear BK139; clear HB; have BK139 := n0_; have HB := n1_; have BK140 := n2_; have GW140 := n3_; have GE140 := n4_; have NB139_140 := n5_; have NB140_139 := n6_; clear n0_ n1_ n2_ n3_ n4_ n5_ n6_; clear hb hbox hg; have hnb59 := NB139_140.out; have hnc59 := NB140_139.out; have hcz60_0 : w58.cell? ⟨gb139, 0, none⟩ = some (.string a0_0) := (blk_cell BK139.out 0).trans rfl; have hcz60_1 : w58.cell? ⟨gb139, 1, none⟩ = some (.string a0_1) := (blk_cell BK139.out 1).trans rfl; have hcz60_2 : w58.cell? ⟨gb139, 2, none⟩ = some (.bool a0_2) := (blk_cell BK139.out 2).trans rfl; have hfz60_0 := blk_frozen BK139.out 0; have hfz60_1 := blk_frozen BK139.out 1; have hfz60_2 := blk_frozen BK139.out 2) | (go_at_call 21; (with_reducible refine (spec_allDigits.calls k a0_1 t141 _ A3.out).mono ?_); rintro e w' ⟨rfl, ⟨nd, rfl⟩⟩; (try first | exact ⟨rfl, _, World.drewN_drewN _ _ _⟩ | exact ⟨rfl, _, Eq.trans (World.drewN_drewN _ _ _) (congrArg (World.drewN _) (Nat.add_assoc _ _ _))⟩); have hcz61_0 : w58.cell? ⟨gb140, 0, none⟩ = some (.string a1_0) := (blk_cell BK140.out 0).trans rfl; have hcz61_1 : w58.cell? ⟨gb140, 1, none⟩ = some (.string a1_1) := (blk_cell BK140.out 1).trans rfl; have hcz61_2 : w58.cell? ⟨gb140, 2, none⟩ = some (.bool a1_2) := (blk_cell BK140.out 2).trans rfl; have hfz61_0 := blk_frozen BK140.out 0; have hfz61_1 := blk_frozen BK140.out 1; have hfz61_2 := blk_frozen BK140.out 2) | (go_at_call 21; (with_reducible refine (spec_allDigits.calls k a1_1 t142 _ A4.out).mono ?_); rintro e w' ⟨rfl, ⟨nd, rfl⟩⟩; (try first | exact ⟨rfl, _, World.drewN_drewN _ _ _⟩ | exact ⟨rfl, _, Eq.trans (World.drewN_drewN _ _ _) (congrArg (World.drewN _) (Nat.add_assoc _ _ _))⟩)) | (go_at_call 36; (with_reducible refine (spec_TokenOrder.calls k a0_0 a0_1 a0_2 t143 true _ A53.out).mono ?_); rintro e w62 ⟨rfl, hb⟩; have n0_ := Aside0.mk (blk_below (g := gb139) (o := .cells #[.string a0_0, .string a0_1, .bool a0_2] 23 (0, 0)) (by (with_reducible repeat (first | refine blk_drewN ?_ _ | refine blk_drew ?_ | refine blk_alloc ?_ _)); exact BK139.out) hb); have n1_ := Aside0.mk (blk_below (g := gb140) (o := .cells #[.string a1_0, .string a1_1, .bool a1_2] 23 (0, 0)) (by (with_reducible repeat (first | refine blk_drewN ?_ _ | refine blk_drew ?_ | refine blk_alloc ?_ _)); exact BK140.out) hb); have n2_ := Aside0.mk (below_step (by repeat (first | (with_reducible first | exact HB.out | apply below_alloc | apply pw_below_drewN | apply below_drew1 | refine below_set ?_ GE139.out | refine below_set ?_ GE140.out) | exact HB.out)) hb); clear BK139; clear BK140; clear HB; have BK139 := n0_; have BK140 := n1_; have HB := n2_; clear n0_ n1_ n2_; (try clear hb); (try clear hb2); (try clear hk); (try clear hi); have hcz63_0 : w62.cell? ⟨gb140, 0, none⟩ = some (.string a1_0) := (blk_cell BK140.out 0).trans rfl; have hcz63_1 : w62.cell? ⟨gb140, 1, none⟩ = some (.string a1_1) := (blk_cell BK140.out 1).trans rfl; have hcz63_2 : w62.cell? ⟨gb140, 2, none⟩ = some (.bool a1_2) := (blk_cell BK140.out 2).trans rfl; have hfz63_0 := blk_frozen BK140.out 0; have hfz63_1 := blk_frozen BK140.out 1; have hfz63_2 := blk_frozen BK140.out 2) | (go_at_call 36; (with_reducible refine (spec_TokenOrder.calls k a1_0 a1_1 a1_2 t145 t146 _ A54.out).mono ?_); rintro e w64 ⟨rfl, hb⟩; have n0_ := Aside0.mk (blk_below (g := gb139) (o := .cells #[.string a0_0, .string a0_1, .bool a0_2] 23 (0, 0)) (by (with_reducible repeat (first | refine blk_drewN ?_ _ | refine blk_drew ?_ | refine blk_alloc ?_ _)); exact BK139.out) hb); have n1_ := Aside0.mk (blk_below (g := gb140) (o := .cells #[.string a1_0, .string a1_1, .bool a1_2] 23 (0, 0)) (by (with_reducible repeat (first | refine blk_drewN ?_ _ | refine blk_drew ?_ | refine blk_alloc ?_ _)); exact BK140.out) hb); have n2_ := Aside0.mk (below_step (by repeat (first | (with_reducible first | exact HB.out | apply below_alloc | apply pw_below_drewN | apply below_drew1 | refine below_set ?_ GE139.out | refine below_set ?_ GE140.out) | exact HB.out)) hb); clear BK139; clear BK140; clear HB; have BK139 := n0_; have BK140 := n1_; have HB := n2_; clear n0_ n1_ n2_; (try clear hb); (try clear hb2); (try clear hk); (try clear hi)) | (go_at_call 37; (with_reducible refine (spec_orderInts.calls t143 t145 t147 _ A55.out).mono ?_); rintro e w' ⟨rfl, ⟨nd, rfl⟩⟩; (try first | exact ⟨rfl, _, World.drewN_drewN _ _ _⟩ | exact ⟨rfl, _, Eq.trans (World.drewN_drewN _ _ _) (congrArg (World.drewN _) (Nat.add_assoc _ _ _))⟩)))
      repeat (go_quiet (first | ((with_reducible refine gate_dst (N := 2) rfl ?_); refine box_event ?hg (N := 2) ?hd (cs := #[.string a0_0, .string a0_1, .bool a0_2]) (t := 23) ?hr ?_; (case hd => rfl); (case hg => rfl); (case hr => first | (go_simp; done) | (go_simp; rfl)); intro gb139 hg w57 hbox hb; have n0_ := Aside0.mk (below_step (by repeat (first | (with_reducible first | exact HB.out | apply below_alloc | apply pw_below_drewN | apply below_drew1) | exact HB.out)) hb); have n1_ := Aside0.mk (hbox); have n2_ := Aside0.mk ((by rw [hg]; exact (below_size (by repeat (first | (with_reducible first | exact HB.out | apply below_alloc | apply pw_below_drewN | apply below_drew1) | exact HB.out))) : w.heap.size ≤ gb139)); have n3_ := Aside0.mk ((by rw [hg]; exact (below_size (by repeat (first | (with_reducible first | exact HB.out | apply below_alloc | apply pw_below_drewN | apply below_drew1) | exact HB.out))) : w.heap.size ≤ gb139)); clear HB; have HB := n0_; have BK139 := n1_; have GW139 := n2_; have GE139 := n3_; clear n0_ n1_ n2_ n3_; clear hb hbox hg) | ((with_reducible refine gate_dst (N := 3) rfl ?_); refine box_event ?hg (N := 3) ?hd (cs := #[.string a1_0, .string a1_1, .bool a1_2]) (t := 23) ?hr ?_; (case hd => rfl); (case hg => rfl); (case hr => first | (go_simp; done) | (go_simp; rfl)); intro gb140 hg w58 hbox hb; have n0_ := Aside0.mk (blk_below (g := gb139) (o := .cells #[.string a0_0, .string a0_1, .bool a0_2] 23 (0, 0)) (by (with_reducible repeat (first | refine blk_drewN ?_ _ | refine blk_drew ?_ | refine blk_alloc ?_ _)); exact BK139.out) hb); have n1_ := Aside0.mk (below_step (by repeat (first | (with_reducible first | exact HB.out | apply below_alloc | apply pw_below_drewN | apply below_drew1 | refine below_set ?_ GE139.out) | exact HB.out)) hb); have n2_ := Aside0.mk (hbox); have n3_ := Aside0.mk ((by rw [hg]; exact (below_size (by repeat (first | (with_reducible first | exact HB.out | apply below_alloc | apply pw_below_drewN | apply below_drew1 | refine below_set ?_ GE139.out) | exact HB.out))) : w.heap.size ≤ gb140)); have n4_ := Aside0.mk ((by rw [hg]; exact (below_size (by repeat (first | (with_reducible first | exact HB.out | apply below_alloc | apply pw_below_drewN | apply below_drew1 | refine below_set ?_ GE139.out) | exact HB.out))) : w.heap.size ≤ gb140)); have n5_ := Aside0.mk ((by rw [hg]; exact Nat.ne_of_lt (blk_lt (g := gb139) (o := .cells #[.string a0_0, .string a0_1, .bool a0_2] 23 (0, 0)) (by (with_reducible repeat (first | refine blk_drewN ?_ _ | refine blk_drew ?_ | refine blk_alloc ?_ _)); exact BK139.out)) : gb139 ≠ gb140)); have n6_ := Aside0.mk ((by rw [hg]; exact Nat.ne_of_gt (blk_lt (g := gb139) (o := .cells #[.string a0_0, .string a0_1, .bool a0_2] 23 (0, 0)) (by (with_reducible repeat (first | refine blk_drewN ?_ _ | refine blk_drew ?_ | refine blk_alloc ?_ _)); exact BK139.out)) : gb140 ≠ gb139)); clear BK139; clear HB; have BK139 := n0_; have HB := n1_; have BK140 := n2_; have GW140 := n3_; have GE140 := n4_; have NB139_140 := n5_; have NB140_139 := n6_; clear n0_ n1_ n2_ n3_ n4_ n5_ n6_; clear hb hbox hg; have hnb59 := NB139_140.out; have hnc59 := NB140_139.out; have hcz60_0 : w58.cell? ⟨gb139, 0, none⟩ = some (.string a0_0) := (blk_cell BK139.out 0).trans rfl; have hcz60_1 : w58.cell? ⟨gb139, 1, none⟩ = some (.string a0_1) := (blk_cell BK139.out 1).trans rfl; have hcz60_2 : w58.cell? ⟨gb139, 2, none⟩ = some (.bool a0_2) := (blk_cell BK139.out 2).trans rfl; have hfz60_0 := blk_frozen BK139.out 0; have hfz60_1 := blk_frozen BK139.out 1; have hfz60_2 := blk_frozen BK139.out 2) | (go_at_call 21; (with_reducible refine (spec_allDigits.calls k a0_1 t141 _ A3.out).mono ?_); rintro e w' ⟨rfl, ⟨nd, rfl⟩⟩; (try first | exact ⟨rfl, _, World.drewN_drewN _ _ _⟩ | exact ⟨rfl, _, Eq.trans (World.drewN_drewN _ _ _) (congrArg (World.drewN _) (Nat.add_assoc _ _ _))⟩); have hcz61_0 : w58.cell? ⟨gb140, 0, none⟩ = some (.string a1_0) := (blk_cell BK140.out 0).trans rfl; have hcz61_1 : w58.cell? ⟨gb140, 1, none⟩ = some (.string a1_1) := (blk_cell BK140.out 1).trans rfl; have hcz61_2 : w58.cell? ⟨gb140, 2, none⟩ = some (.bool a1_2) := (blk_cell BK140.out 2).trans rfl; have hfz61_0 := blk_frozen BK140.out 0; have hfz61_1 := blk_frozen BK140.out 1; have hfz61_2 := blk_frozen BK140.out 2) | (go_at_call 21; (with_reducible refine (spec_allDigits.calls k a1_1 t142 _ A4.out).mono ?_); rintro e w' ⟨rfl, ⟨nd, rfl⟩⟩; (try first | exact ⟨rfl, _, World.drewN_drewN _ _ _⟩ | exact ⟨rfl, _, Eq.trans (World.drewN_drewN _ _ _) (congrArg (World.drewN _) (Nat.add_assoc _ _ _))⟩)) | (go_at_call 36; (with_reducible refine (spec_TokenOrder.calls k a0_0 a0_1 a0_2 t143 true _ A53.out).mono ?_); rintro e w62 ⟨rfl, hb⟩; have n0_ := Aside0.mk (blk_below (g := gb139) (o := .cells #[.string a0_0, .string a0_1, .bool a0_2] 23 (0, 0)) (by (with_reducible repeat (first | refine blk_drewN ?_ _ | refine blk_drew ?_ | refine blk_alloc ?_ _)); exact BK139.out) hb); have n1_ := Aside0.mk (blk_below (g := gb140) (o := .cells #[.string a1_0, .string a1_1, .bool a1_2] 23 (0, 0)) (by (with_reducible repeat (first | refine blk_drewN ?_ _ | refine blk_drew ?_ | refine blk_alloc ?_ _)); exact BK140.out) hb); have n2_ := Aside0.mk (below_step (by repeat (first | (with_reducible first | exact HB.out | apply below_alloc | apply pw_below_drewN | apply below_drew1 | refine below_set ?_ GE139.out | refine below_set ?_ GE140.out) | exact HB.out)) hb); clear BK139; clear BK140; clear HB; have BK139 := n0_; have BK140 := n1_; have HB := n2_; clear n0_ n1_ n2_; (try clear hb); (try clear hb2); (try clear hk); (try clear hi); have hcz63_0 : w62.cell? ⟨gb140, 0, none⟩ = some (.string a1_0) := (blk_cell BK140.out 0).trans rfl; have hcz63_1 : w62.cell? ⟨gb140, 1, none⟩ = some (.string a1_1) := (blk_cell BK140.out 1).trans rfl; have hcz63_2 : w62.cell? ⟨gb140, 2, none⟩ = some (.bool a1_2) := (blk_cell BK140.out 2).trans rfl; have hfz63_0 := blk_frozen BK140.out 0; have hfz63_1 := blk_frozen BK140.out 1; have hfz63_2 := blk_frozen BK140.out 2) | (go_at_call 36; (with_reducible refine (spec_TokenOrder.calls k a1_0 a1_1 a1_2 t145 t146 _ A54.out).mono ?_); rintro e w64 ⟨rfl, hb⟩; have n0_ := Aside0.mk (blk_below (g := gb139) (o := .cells #[.string a0_0, .string a0_1, .bool a0_2] 23 (0, 0)) (by (with_reducible repeat (first | refine blk_drewN ?_ _ | refine blk_drew ?_ | refine blk_alloc ?_ _)); exact BK139.out) hb); have n1_ := Aside0.mk (blk_below (g := gb140) (o := .cells #[.string a1_0, .string a1_1, .bool a1_2] 23 (0, 0)) (by (with_reducible repeat (first | refine blk_drewN ?_ _ | refine blk_drew ?_ | refine blk_alloc ?_ _)); exact BK140.out) hb); have n2_ := Aside0.mk (below_step (by repeat (first | (with_reducible first | exact HB.out | apply below_alloc | apply pw_below_drewN | apply below_drew1 | refine below_set ?_ GE139.out | refine below_set ?_ GE140.out) | exact HB.out)) hb); clear BK139; clear BK140; clear HB; have BK139 := n0_; have BK140 := n1_; have HB := n2_; clear n0_ n1_ n2_; (try clear hb); (try clear hb2); (try clear hk); (try clear hi)) | (go_at_call 37; (with_reducible refine (spec_orderInts.calls t143 t145 t147 _ A55.out).mono ?_); rintro e w' ⟨rfl, ⟨nd, rfl⟩⟩; (try first | exact ⟨rfl, _, World.drewN_drewN _ _ _⟩ | exact ⟨rfl, _, Eq.trans (World.drewN_drewN _ _ _) (congrArg (World.drewN _) (Nat.add_assoc _ _ _))⟩))); try go_wp2_with (first | ((with_reducible refine gate_dst (N := 2) rfl ?_); refine box_event ?hg (N := 2) ?hd (cs := #[.string a0_0, .string a0_1, .bool a0_2]) (t := 23) ?hr ?_; (case hd => rfl); (case hg => rfl); (case hr => first | (go_simp; done) | (go_simp; rfl)); intro gb139 hg w57 hbox hb; have n0_ := Aside0.mk (below_step (by repeat (first | (with_reducible first | exact HB.out | apply below_alloc | apply pw_below_drewN | apply below_drew1) | exact HB.out)) hb); have n1_ := Aside0.mk (hbox); have n2_ := Aside0.mk ((by rw [hg]; exact (below_size (by repeat (first | (with_reducible first | exact HB.out | apply below_alloc | apply pw_below_drewN | apply below_drew1) | exact HB.out))) : w.heap.size ≤ gb139)); have n3_ := Aside0.mk ((by rw [hg]; exact (below_size (by repeat (first | (with_reducible first | exact HB.out | apply below_alloc | apply pw_below_drewN | apply below_drew1) | exact HB.out))) : w.heap.size ≤ gb139)); clear HB; have HB := n0_; have BK139 := n1_; have GW139 := n2_; have GE139 := n3_; clear n0_ n1_ n2_ n3_; clear hb hbox hg) | ((with_reducible refine gate_dst (N := 3) rfl ?_); refine box_event ?hg (N := 3) ?hd (cs := #[.string a1_0, .string a1_1, .bool a1_2]) (t := 23) ?hr ?_; (case hd => rfl); (case hg => rfl); (case hr => first | (go_simp; done) | (go_simp; rfl)); intro gb140 hg w58 hbox hb; have n0_ := Aside0.mk (blk_below (g := gb139) (o := .cells #[.string a0_0, .string a0_1, .bool a0_2] 23 (0, 0)) (by (with_reducible repeat (first | refine blk_drewN ?_ _ | refine blk_drew ?_ | refine blk_alloc ?_ _)); exact BK139.out) hb); have n1_ := Aside0.mk (below_step (by repeat (first | (with_reducible first | exact HB.out | apply below_alloc | apply pw_below_drewN | apply below_drew1 | refine below_set ?_ GE139.out) | exact HB.out)) hb); have n2_ := Aside0.mk (hbox); have n3_ := Aside0.mk ((by rw [hg]; exact (below_size (by repeat (first | (with_reducible first | exact HB.out | apply below_alloc | apply pw_below_drewN | apply below_drew1 | refine below_set ?_ GE139.out) | exact HB.out))) : w.heap.size ≤ gb140)); have n4_ := Aside0.mk ((by rw [hg]; exact (below_size (by repeat (first | (with_reducible first | exact HB.out | apply below_alloc | apply pw_below_drewN | apply below_drew1 | refine below_set ?_ GE139.out) | exact HB.out))) : w.heap.size ≤ gb140)); have n5_ := Aside0.mk ((by rw [hg]; exact Nat.ne_of_lt (blk_lt (g := gb139) (o := .cells #[.string a0_0, .string a0_1, .bool a0_2] 23 (0, 0)) (by (with_reducible repeat (first | refine blk_drewN ?_ _ | refine blk_drew ?_ | refine blk_alloc ?_ _)); exact BK139.out)) : gb139 ≠ gb140)); have n6_ := Aside0.mk ((by rw [hg]; exact Nat.ne_of_gt (blk_lt (g := gb139) (o := .cells #[.string a0_0, .string a0_1, .bool a0_2] 23 (0, 0)) (by (with_reducible repeat (first | refine blk_drewN ?_ _ | refine blk_drew ?_ | refine blk_alloc ?_ _)); exact BK139.out)) : gb140 ≠ gb139)); clear BK139; clear HB; have BK139 := n0_; have HB := n1_; have BK140 := n2_; have GW140 := n3_; have GE140 := n4_; have NB139_140 := n5_; have NB140_139 := n6_; clear n0_ n1_ n2_ n3_ n4_ n5_ n6_; clear hb hbox hg; have hnb59 := NB139_140.out; have hnc59 := NB140_139.out; have hcz60_0 : w58.cell? ⟨gb139, 0, none⟩ = some (.string a0_0) := (blk_cell BK139.out 0).trans rfl; have hcz60_1 : w58.cell? ⟨gb139, 1, none⟩ = some (.string a0_1) := (blk_cell BK139.out 1).trans rfl; have hcz60_2 : w58.cell? ⟨gb139, 2, none⟩ = some (.bool a0_2) := (blk_cell BK139.out 2).trans rfl; have hfz60_0 := blk_frozen BK139.out 0; have hfz60_1 := blk_frozen BK139.out 1; have hfz60_2 := blk_frozen BK139.out 2) | (go_at_call 21; (with_reducible refine (spec_allDigits.calls k a0_1 t141 _ A3.out).mono ?_); rintro e w' ⟨rfl, ⟨nd, rfl⟩⟩; (try first | exact ⟨rfl, _, World.drewN_drewN _ _ _⟩ | exact ⟨rfl, _, Eq.trans (World.drewN_drewN _ _ _) (congrArg (World.drewN _) (Nat.add_assoc _ _ _))⟩); have hcz61_0 : w58.cell? ⟨gb140, 0, none⟩ = some (.string a1_0) := (blk_cell BK140.out 0).trans rfl; have hcz61_1 : w58.cell? ⟨gb140, 1, none⟩ = some (.string a1_1) := (blk_cell BK140.out 1).trans rfl; have hcz61_2 : w58.cell? ⟨gb140, 2, none⟩ = some (.bool a1_2) := (blk_cell BK140.out 2).trans rfl; have hfz61_0 := blk_frozen BK140.out 0; have hfz61_1 := blk_frozen BK140.out 1; have hfz61_2 := blk_frozen BK140.out 2) | (go_at_call 21; (with_reducible refine (spec_allDigits.calls k a1_1 t142 _ A4.out).mono ?_); rintro e w' ⟨rfl, ⟨nd, rfl⟩⟩; (try first | exact ⟨rfl, _, World.drewN_drewN _ _ _⟩ | exact ⟨rfl, _, Eq.trans (World.drewN_drewN _ _ _) (congrArg (World.drewN _) (Nat.add_assoc _ _ _))⟩)) | (go_at_call 36; (with_reducible refine (spec_TokenOrder.calls k a0_0 a0_1 a0_2 t143 true _ A53.out).mono ?_); rintro e w62 ⟨rfl, hb⟩; have n0_ := Aside0.mk (blk_below (g := gb139) (o := .cells #[.string a0_0, .string a0_1, .bool a0_2] 23 (0, 0)) (by (with_reducible repeat (first | refine blk_drewN ?_ _ | refine blk_drew ?_ | refine blk_alloc ?_ _)); exact BK139.out) hb); have n1_ := Aside0.mk (blk_below (g := gb140) (o := .cells #[.string a1_0, .string a1_1, .bool a1_2] 23 (0, 0)) (by (with_reducible repeat (first | refine blk_drewN ?_ _ | refine blk_drew ?_ | refine blk_alloc ?_ _)); exact BK140.out) hb); have n2_ := Aside0.mk (below_step (by repeat (first | (with_reducible first | exact HB.out | apply below_alloc | apply pw_below_drewN | apply below_drew1 | refine below_set ?_ GE139.out | refine below_set ?_ GE140.out) | exact HB.out)) hb); clear BK139; clear BK140; clear HB; have BK139 := n0_; have BK140 := n1_; have HB := n2_; clear n0_ n1_ n2_; (try clear hb); (try clear hb2); (try clear hk); (try clear hi); have hcz63_0 : w62.cell? ⟨gb140, 0, none⟩ = some (.string a1_0) := (blk_cell BK140.out 0).trans rfl; have hcz63_1 : w62.cell? ⟨gb140, 1, none⟩ = some (.string a1_1) := (blk_cell BK140.out 1).trans rfl; have hcz63_2 : w62.cell? ⟨gb140, 2, none⟩ = some (.bool a1_2) := (blk_cell BK140.out 2).trans rfl; have hfz63_0 := blk_frozen BK140.out 0; have hfz63_1 := blk_frozen BK140.out 1; have hfz63_2 := blk_frozen BK140.out 2) | (go_at_call 36; (with_reducible refine (spec_TokenOrder.calls k a1_0 a1_1 a1_2 t145 t146 _ A54.out).mono ?_); rintro e w64 ⟨rfl, hb⟩; have n0_ := Aside0.mk (blk_below (g := gb139) (o := .cells #[.string a0_0, .string a0_1, .bool a0_2] 23 (0, 0)) (by (with_reducible repeat (first | refine blk_drewN ?_ _ | refine blk_drew ?_ | refine blk_alloc ?_ _)); exact BK139.out) hb); have n1_ := Aside0.mk (blk_below (g := gb140) (o := .cells #[.string a1_0, .string a1_1, .bool a1_2] 23 (0, 0)) (by (with_reducible repeat (first | refine blk_drewN ?_ _ | refine blk_drew ?_ | refine blk_alloc ?_ _)); exact BK140.out) hb); have n2_ := Aside0.mk (below_step (by repeat (first | (with_reducible first | exact HB.out | apply below_alloc | apply pw_below_drewN | apply below_drew1 | refine below_set ?_ GE139.out | refine below_set ?_ GE140.out) | exact HB.out)) hb); clear BK139; clear BK140; clear HB; have BK139 := n0_; have BK140 := n1_; have HB := n2_; clear n0_ n1_ n2_; (try clear hb); (try clear hb2); (try clear hk); (try clear hi)) | (go_at_call 37; (with_reducible refine (spec_orderInts.calls t143 t145 t147 _ A55.out).mono ?_); rintro e w' ⟨rfl, ⟨nd, rfl⟩⟩; (try first | exact ⟨rfl, _, World.drewN_drewN _ _ _⟩ | exact ⟨rfl, _, Eq.trans (World.drewN_drewN _ _ _) (congrArg (World.drewN _) (Nat.add_assoc _ _ _))⟩))))
      go_ret2
      exact ⟨by first | rfl | (simp [errW_none, errW_some] <;> rfl) | (simp [*, errW_none, errW_some] <;> rfl), by repeat (first | (with_reducible first | exact HB.out | apply below_alloc | apply pw_below_drewN | apply below_drew1 | refine below_set ?_ GE139.out | refine below_set ?_ GE140.out) | exact HB.out)⟩
    · replace c56 := Bool.eq_false_iff.mpr c56
      subst c56
      have H1 : (some (t147, false)) = some (r1, r2) := by rw [if_neg (show ¬ (false = true) by decide)] at H; exact H
      clear H
      have H := H1
      clear H1
      simp only [Option.some.injEq, Prod.mk.injEq] at H
      obtain ⟨rfl, rfl⟩ := H
      go_enter Tryd.func24, Tryd.ntmps24
      go_wp2_with (first | ((with_reducible refine gate_dst (N := 2) rfl ?_); refine box_event ?hg (N := 2) ?hd (cs := #[.string a0_0, .string a0_1, .bool a0_2]) (t := 23) ?hr ?_; (case hd => rfl); (case hg => rfl); (case hr => first | (go_simp; done) | (go_simp; rfl)); intro gb139 hg w65 hbox hb; have n0_ := Aside0.mk (below_step (by repeat (first | (with_reducible first | exact HB.out | apply below_alloc | apply pw_below_drewN | apply below_drew1) | exact HB.out)) hb); have n1_ := Aside0.mk (hbox); have n2_ := Aside0.mk ((by rw [hg]; exact (below_size (by repeat (first | (with_reducible first | exact HB.out | apply below_alloc | apply pw_below_drewN | apply below_drew1) | exact HB.out))) : w.heap.size ≤ gb139)); have n3_ := Aside0.mk ((by rw [hg]; exact (below_size (by repeat (first | (with_reducible first | exact HB.out | apply below_alloc | apply pw_below_drewN | apply below_drew1) | exact HB.out))) : w.heap.size ≤ gb139)); clear HB; have HB := n0_; have BK139 := n1_; have GW139 := n2_; have GE139 := n3_; clear n0_ n1_ n2_ n3_; clear hb hbox hg) | ((with_reducible refine gate_dst (N := 3) rfl ?_); refine box_event ?hg (N := 3) ?hd (cs := #[.string a1_0, .string a1_1, .bool a1_2]) (t := 23) ?hr ?_; (case hd => rfl); (case hg => rfl); (case hr => first | (go_simp; done) | (go_simp; rfl)); intro gb140 hg w66 hbox hb; have n0_ := Aside0.mk (blk_below (g := gb139) (o := .cells #[.string a0_0, .string a0_1, .bool a0_2] 23 (0, 0)) (by (with_reducible repeat (first | refine blk_drewN ?_ _ | refine blk_drew ?_ | refine blk_alloc ?_ _)); exact BK139.out) hb); have n1_ := Aside0.mk (below_step (by repeat (first | (with_reducible first | exact HB.out | apply below_alloc | apply pw_below_drewN | apply below_drew1 | refine below_set ?_ GE139.out) | exact HB.out)) hb); have n2_ := Aside0.mk (hbox); have n3_ := Aside0.mk ((by rw [hg]; exact (below_size (by repeat (first | (with_reducible first | exact HB.out | apply below_alloc | apply pw_below_drewN | apply below_drew1 | refine below_set ?_ GE139.out) | exact HB.out))) : w.heap.size ≤ gb140)); have n4_ := Aside0.mk ((by rw [hg]; exact (below_size (by repeat (first | (with_reducible first | exact HB.out | apply below_alloc | apply pw_below_drewN | apply below_drew1 | refine below_set ?_ GE139.out) | exact HB.out))) : w.heap.size ≤ gb140)); have n5_ := Aside0.mk ((by rw [hg]; exact Nat.ne_of_lt (blk_lt (g := gb139) (o := .cells #[.string a0_0, .string a0_1, .bool a0_2] 23 (0, 0)) (by (with_reducible repeat (first | refine blk_drewN ?_ _ | refine blk_drew ?_ | refine blk_alloc ?_ _)); exact BK139.out)) : gb139 ≠ gb140)); have n6_ := Aside0.mk ((by rw [hg]; exact Nat.ne_of_gt (blk_lt (g := gb139) (o := .cells #[.string a0_0, .string a0_1, .bool a0_2] 23 (0, 0)) (by (with_reducible repeat (first | refine blk_drewN ?_ _ | refine blk_drew ?_ | refine blk_alloc ?_ _)); exact BK139.out)) : gb140 ≠ gb139)); clear BK139; clear HB; have BK139 := n0_; have HB := n1_; have BK140 := n2_; have GW140 := n3_; have GE140 := n4_; have NB139_140 := n5_; have NB140_139 := n6_; clear n0_ n1_ n2_ n3_ n4_ n5_ n6_; clear hb hbox hg; have hnb67 := NB139_140.out; have hnc67 := NB140_139.out; have hcz68_0 : w66.cell? ⟨gb139, 0, none⟩ = some (.string a0_0) := (blk_cell BK139.out 0).trans rfl; have hcz68_1 : w66.cell? ⟨gb139, 1, none⟩ = some (.string a0_1) := (blk_cell BK139.out 1).trans rfl; have hcz68_2 : w66.cell? ⟨gb139, 2, none⟩ = some (.bool a0_2) := (blk_cell BK139.out 2).trans rfl; have hfz68_0 := blk_frozen BK139.out 0; have hfz68_1 := blk_frozen BK139.out 1; have hfz68_2 := blk_frozen BK139.out 2) | (go_at_call 21; (with_reducible refine (spec_allDigits.calls k a0_1 t141 _ A3.out).mono ?_); rintro e w' ⟨rfl, ⟨nd, rfl⟩⟩; (try first | exact ⟨rfl, _, World.drewN_drewN _ _ _⟩ | exact ⟨rfl, _, Eq.trans (World.drewN_drewN _ _ _) (congrArg (World.drewN _) (Nat.add_assoc _ _ _))⟩); have hcz69_0 : w66.cell? ⟨gb140, 0, none⟩ = some (.string a1_0) := (blk_cell BK140.out 0).trans rfl; have hcz69_1 : w66.cell? ⟨gb140, 1, none⟩ = some (.string a1_1) := (blk_cell BK140.out 1).trans rfl; have hcz69_2 : w66.cell? ⟨gb140, 2, none⟩ = some (.bool a1_2) := (blk_cell BK140.out 2).trans rfl; have hfz69_0 := blk_frozen BK140.out 0; have hfz69_1 := blk_frozen BK140.out 1; have hfz69_2 := blk_frozen BK140.out 2) | (go_at_call 21; (with_reducible refine (spec_allDigits.calls k a1_1 t142 _ A4.out).mono ?_); rintro e w' ⟨rfl, ⟨nd, rfl⟩⟩; (try first | exact ⟨rfl, _, World.drewN_drewN _ _ _⟩ | exact ⟨rfl, _, Eq.trans (World.drewN_drewN _ _ _) (congrArg (World.drewN _) (Nat.add_assoc _ _ _))⟩)) | (go_at_call 36; (with_reducible refine (spec_TokenOrder.calls k a0_0 a0_1 a0_2 t143 false _ A53.out).mono ?_); rintro e w70 ⟨rfl, hb⟩; have n0_ := Aside0.mk (blk_below (g := gb139) (o := .cells #[.string a0_0, .string a0_1, .bool a0_2] 23 (0, 0)) (by (with_reducible repeat (first | refine blk_drewN ?_ _ | refine blk_drew ?_ | refine blk_alloc ?_ _)); exact BK139.out) hb); have n1_ := Aside0.mk (blk_below (g := gb140) (o := .cells #[.string a1_0, .string a1_1, .bool a1_2] 23 (0, 0)) (by (with_reducible repeat (first | refine blk_drewN ?_ _ | refine blk_drew ?_ | refine blk_alloc ?_ _)); exact BK140.out) hb); have n2_ := Aside0.mk (below_step (by repeat (first | (with_reducible first | exact HB.out | apply below_alloc | apply pw_below_drewN | apply below_drew1 | refine below_set ?_ GE139.out | refine below_set ?_ GE140.out) | exact HB.out)) hb); clear BK139; clear BK140; clear HB; have BK139 := n0_; have BK140 := n1_; have HB := n2_; clear n0_ n1_ n2_; (try clear hb); (try clear hb2); (try clear hk); (try clear hi); have hcz71_0 : w70.cell? ⟨gb140, 0, none⟩ = some (.string a1_0) := (blk_cell BK140.out 0).trans rfl; have hcz71_1 : w70.cell? ⟨gb140, 1, none⟩ = some (.string a1_1) := (blk_cell BK140.out 1).trans rfl; have hcz71_2 : w70.cell? ⟨gb140, 2, none⟩ = some (.bool a1_2) := (blk_cell BK140.out 2).trans rfl; have hfz71_0 := blk_frozen BK140.out 0; have hfz71_1 := blk_frozen BK140.out 1; have hfz71_2 := blk_frozen BK140.out 2) | (go_at_call 36; (with_reducible refine (spec_TokenOrder.calls k a1_0 a1_1 a1_2 t145 t146 _ A54.out).mono ?_); rintro e w72 ⟨rfl, hb⟩; have n0_ := Aside0.mk (blk_below (g := gb139) (o := .cells #[.string a0_0, .string a0_1, .bool a0_2] 23 (0, 0)) (by (with_reducible repeat (first | refine blk_drewN ?_ _ | refine blk_drew ?_ | refine blk_alloc ?_ _)); exact BK139.out) hb); have n1_ := Aside0.mk (blk_below (g := gb140) (o := .cells #[.string a1_0, .string a1_1, .bool a1_2] 23 (0, 0)) (by (with_reducible repeat (first | refine blk_drewN ?_ _ | refine blk_drew ?_ | refine blk_alloc ?_ _)); exact BK140.out) hb); have n2_ := Aside0.mk (below_step (by repeat (first | (with_reducible first | exact HB.out | apply below_alloc | apply pw_below_drewN | apply below_drew1 | refine below_set ?_ GE139.out | refine below_set ?_ GE140.out) | exact HB.out)) hb); clear BK139; clear BK140; clear HB; have BK139 := n0_; have BK140 := n1_; have HB := n2_; clear n0_ n1_ n2_; (try clear hb); (try clear hb2); (try clear hk); (try clear hi)) | (go_at_call 37; (with_reducible refine (spec_orderInts.calls t143 t145 t147 _ A55.out).mono ?_); rintro e w' ⟨rfl, ⟨nd, rfl⟩⟩; (try first | exact ⟨rfl, _, World.drewN_drewN _ _ _⟩ | exact ⟨rfl, _, Eq.trans (World.drewN_drewN _ _ _) (congrArg (World.drewN _) (Nat.add_assoc _ _ _))⟩)))
      repeat (go_quiet (first | ((with_reducible refine gate_dst (N := 2) rfl ?_); refine box_event ?hg (N := 2) ?hd (cs := #[.string a0_0, .string a0_1, .bool a0_2]) (t := 23) ?hr ?_; (case hd => rfl); (case hg => rfl); (case hr => first | (go_simp; done) | (go_simp; rfl)); intro gb139 hg w65 hbox hb; have n0_ := Aside0.mk (below_step (by repeat (first | (with_reducible first | exact HB.out | apply below_alloc | apply pw_below_drewN | apply below_drew1) | exact HB.out)) hb); have n1_ := Aside0.mk (hbox); have n2_ := Aside0.mk ((by rw [hg]; exact (below_size (by repeat (first | (with_reducible first | exact HB.out | apply below_alloc | apply pw_below_drewN | apply below_drew1) | exact HB.out))) : w.heap.size ≤ gb139)); have n3_ := Aside0.mk ((by rw [hg]; exact (below_size (by repeat (first | (with_reducible first | exact HB.out | apply below_alloc | apply pw_below_drewN | apply below_drew1) | exact HB.out))) : w.heap.size ≤ gb139)); clear HB; have HB := n0_; have BK139 := n1_; have GW139 := n2_; have GE139 := n3_; clear n0_ n1_ n2_ n3_; clear hb hbox hg) | ((with_reducible refine gate_dst (N := 3) rfl ?_); refine box_event ?hg (N := 3) ?hd (cs := #[.string a1_0, .string a1_1, .bool a1_2]) (t := 23) ?hr ?_; (case hd => rfl); (case hg => rfl); (case hr => first | (go_simp; done) | (go_simp; rfl)); intro gb140 hg w66 hbox hb; have n0_ := Aside0.mk (blk_below (g := gb139) (o := .cells #[.string a0_0, .string a0_1, .bool a0_2] 23 (0, 0)) (by (with_reducible repeat (first | refine blk_drewN ?_ _ | refine blk_drew ?_ | refine blk_alloc ?_ _)); exact BK139.out) hb); have n1_ := Aside0.mk (below_step (by repeat (first | (with_reducible first | exact HB.out | apply below_alloc | apply pw_below_drewN | apply below_drew1 | refine below_set ?_ GE139.out) | exact HB.out)) hb); have n2_ := Aside0.mk (hbox); have n3_ := Aside0.mk ((by rw [hg]; exact (below_size (by repeat (first | (with_reducible first | exact HB.out | apply below_alloc | apply pw_below_drewN | apply below_drew1 | refine below_set ?_ GE139.out) | exact HB.out))) : w.heap.size ≤ gb140)); have n4_ := Aside0.mk ((by rw [hg]; exact (below_size (by repeat (first | (with_reducible first | exact HB.out | apply below_alloc | apply pw_below_drewN | apply below_drew1 | refine below_set ?_ GE139.out) | exact HB.out))) : w.heap.size ≤ gb140)); have n5_ := Aside0.mk ((by rw [hg]; exact Nat.ne_of_lt (blk_lt (g := gb139) (o := .cells #[.string a0_0, .string a0_1, .bool a0_2] 23 (0, 0)) (by (with_reducible repeat (first | refine blk_drewN ?_ _ | refine blk_drew ?_ | refine blk_alloc ?_ _)); exact BK139.out)) : gb139 ≠ gb140)); have n6_ := Aside0.mk ((by rw [hg]; exact Nat.ne_of_gt (blk_lt (g := gb139) (o := .cells #[.string a0_0, .string a0_1, .bool a0_2] 23 (0, 0)) (by (with_reducible repeat (first | refine blk_drewN ?_ _ | refine blk_drew ?_ | refine blk_alloc ?_ _)); exact BK139.out)) : gb140 ≠ gb139)); clear BK139; clear HB; have BK139 := n0_; have HB := n1_; have BK140 := n2_; have GW140 := n3_; have GE140 := n4_; have NB139_140 := n5_; have NB140_139 := n6_; clear n0_ n1_ n2_ n3_ n4_ n5_ n6_; clear hb hbox hg; have hnb67 := NB139_140.out; have hnc67 := NB140_139.out; have hcz68_0 : w66.cell? ⟨gb139, 0, none⟩ = some (.string a0_0) := (blk_cell BK139.out 0).trans rfl; have hcz68_1 : w66.cell? ⟨gb139, 1, none⟩ = some (.string a0_1) := (blk_cell BK139.out 1).trans rfl; have hcz68_2 : w66.cell? ⟨gb139, 2, none⟩ = some (.bool a0_2) := (blk_cell BK139.out 2).trans rfl; have hfz68_0 := blk_frozen BK139.out 0; have hfz68_1 := blk_frozen BK139.out 1; have hfz68_2 := blk_frozen BK139.out 2) | (go_at_call 21; (with_reducible refine (spec_allDigits.calls k a0_1 t141 _ A3.out).mono ?_); rintro e w' ⟨rfl, ⟨nd, rfl⟩⟩; (try first | exact ⟨rfl, _, World.drewN_drewN _ _ _⟩ | exact ⟨rfl, _, Eq.trans (World.drewN_drewN _ _ _) (congrArg (World.drewN _) (Nat.add_assoc _ _ _))⟩); have hcz69_0 : w66.cell? ⟨gb140, 0, none⟩ = some (.string a1_0) := (blk_cell BK140.out 0).trans rfl; have hcz69_1 : w66.cell? ⟨gb140, 1, none⟩ = some (.string a1_1) := (blk_cell BK140.out 1).trans rfl; have hcz69_2 : w66.cell? ⟨gb140, 2, none⟩ = some (.bool a1_2) := (blk_cell BK140.out 2).trans rfl; have hfz69_0 := blk_frozen BK140.out 0; have hfz69_1 := blk_frozen BK140.out 1; have hfz69_2 := blk_frozen BK140.out 2) | (go_at_call 21; (with_reducible refine (spec_allDigits.calls k a1_1 t142 _ A4.out).mono ?_); rintro e w' ⟨rfl, ⟨nd, rfl⟩⟩; (try first | exact ⟨rfl, _, World.drewN_drewN _ _ _⟩ | exact ⟨rfl, _, Eq.trans (World.drewN_drewN _ _ _) (congrArg (World.drewN _) (Nat.add_assoc _ _ _))⟩)) | (go_at_call 36; (with_reducible refine (spec_TokenOrder.calls k a0_0 a0_1 a0_2 t143 false _ A53.out).mono ?_); rintro e w70 ⟨rfl, hb⟩; have n0_ := Aside0.mk (blk_below (g := gb139) (o := .cells #[.string a0_0, .string a0_1, .bool a0_2] 23 (0, 0)) (by (with_reducible repeat (first | refine blk_drewN ?_ _ | refine blk_drew ?_ | refine blk_alloc ?_ _)); exact BK139.out) hb); have n1_ := Aside0.mk (blk_below (g := gb140) (o := .cells #[.string a1_0, .string a1_1, .bool a1_2] 23 (0, 0)) (by (with_reducible repeat (first | refine blk_drewN ?_ _ | refine blk_drew ?_ | refine blk_alloc ?_ _)); exact BK140.out) hb); have n2_ := Aside0.mk (below_step (by repeat (first | (with_reducible first | exact HB.out | apply below_alloc | apply pw_below_drewN | apply below_drew1 | refine below_set ?_ GE139.out | refine below_set ?_ GE140.out) | exact HB.out)) hb); clear BK139; clear BK140; clear HB; have BK139 := n0_; have BK140 := n1_; have HB := n2_; clear n0_ n1_ n2_; (try clear hb); (try clear hb2); (try clear hk); (try clear hi); have hcz71_0 : w70.cell? ⟨gb140, 0, none⟩ = some (.string a1_0) := (blk_cell BK140.out 0).trans rfl; have hcz71_1 : w70.cell? ⟨gb140, 1, none⟩ = some (.string a1_1) := (blk_cell BK140.out 1).trans rfl; have hcz71_2 : w70.cell? ⟨gb140, 2, none⟩ = some (.bool a1_2) := (blk_cell BK140.out 2).trans rfl; have hfz71_0 := blk_frozen BK140.out 0; have hfz71_1 := blk_frozen BK140.out 1; have hfz71_2 := blk_frozen BK140.out 2) | (go_at_call 36; (with_reducible refine (spec_TokenOrder.calls k a1_0 a1_1 a1_2 t145 t146 _ A54.out).mono ?_); rintro e w72 ⟨rfl, hb⟩; have n0_ := Aside0.mk (blk_below (g := gb139) (o := .cells #[.string a0_0, .string a0_1, .bool a0_2] 23 (0, 0)) (by (with_reducible repeat (first | refine blk_drewN ?_ _ | refine blk_drew ?_ | refine blk_alloc ?_ _)); exact BK139.out) hb); have n1_ := Aside0.mk (blk_below (g := gb140) (o := .cells #[.string a1_0, .string a1_1, .bool a1_2] 23 (0, 0)) (by (with_reducible repeat (first | refine blk_drewN ?_ _ | refine blk_drew ?_ | refine blk_alloc ?_ _)); exact BK140.out) hb); have n2_ := Aside0.mk (below_step (by repeat (first | (with_reducible first | exact HB.out | apply below_alloc | apply pw_below_drewN | apply below_drew1 | refine below_set ?_ GE139.out | refine below_set ?_ GE140.out) | exact HB.out)) hb); clear BK139; clear BK140; clear HB; have BK139 := n0_; have BK140 := n1_; have HB := n2_; clear n0_ n1_ n2_; (try clear hb); (try clear hb2); (try clear hk); (try clear hi)) | (go_at_call 37; (with_reducible refine (spec_orderInts.calls t143 t145 t147 _ A55.out).mono ?_); rintro e w' ⟨rfl, ⟨nd, rfl⟩⟩; (try first | exact ⟨rfl, _, World.drewN_drewN _ _ _⟩ | exact ⟨rfl, _, Eq.trans (World.drewN_drewN _ _ _) (congrArg (World.drewN _) (Nat.add_assoc _ _ _))⟩))); try go_wp2_with (first | ((with_reducible refine gate_dst (N := 2) rfl ?_); refine box_event ?hg (N := 2) ?hd (cs := #[.string a0_0, .string a0_1, .bool a0_2]) (t := 23) ?hr ?_; (case hd => rfl); (case hg => rfl); (case hr => first | (go_simp; done) | (go_simp; rfl)); intro gb139 hg w65 hbox hb; have n0_ := Aside0.mk (below_step (by repeat (first | (with_reducible first | exact HB.out | apply below_alloc | apply pw_below_drewN | apply below_drew1) | exact HB.out)) hb); have n1_ := Aside0.mk (hbox); have n2_ := Aside0.mk ((by rw [hg]; exact (below_size (by repeat (first | (with_reducible first | exact HB.out | apply below_alloc | apply pw_below_drewN | apply below_drew1) | exact HB.out))) : w.heap.size ≤ gb139)); have n3_ := Aside0.mk ((by rw [hg]; exact (below_size (by repeat (first | (with_reducible first | exact HB.out | apply below_alloc | apply pw_below_drewN | apply below_drew1) | exact HB.out))) : w.heap.size ≤ gb139)); clear HB; have HB := n0_; have BK139 := n1_; have GW139 := n2_; have GE139 := n3_; clear n0_ n1_ n2_ n3_; clear hb hbox hg) | ((with_reducible refine gate_dst (N := 3) rfl ?_); refine box_event ?hg (N := 3) ?hd (cs := #[.string a1_0, .string a1_1, .bool a1_2]) (t := 23) ?hr ?_; (case hd => rfl); (case hg => rfl); (case hr => first | (go_simp; done) | (go_simp; rfl)); intro gb140 hg w66 hbox hb; have n0_ := Aside0.mk (blk_below (g := gb139) (o := .cells #[.string a0_0, .string a0_1, .bool a0_2] 23 (0, 0)) (by (with_reducible repeat (first | refine blk_drewN ?_ _ | refine blk_drew ?_ | refine blk_alloc ?_ _)); exact BK139.out) hb); have n1_ := Aside0.mk (below_step (by repeat (first | (with_reducible first | exact HB.out | apply below_alloc | apply pw_below_drewN | apply below_drew1 | refine below_set ?_ GE139.out) | exact HB.out)) hb); have n2_ := Aside0.mk (hbox); have n3_ := Aside0.mk ((by rw [hg]; exact (below_size (by repeat (first | (with_reducible first | exact HB.out | apply below_alloc | apply pw_below_drewN | apply below_drew1 | refine below_set ?_ GE139.out) | exact HB.out))) : w.heap.size ≤ gb140)); have n4_ := Aside0.mk ((by rw [hg]; exact (below_size (by repeat (first | (with_reducible first | exact HB.out | apply below_alloc | apply pw_below_drewN | apply below_drew1 | refine below_set ?_ GE139.out) | exact HB.out))) : w.heap.size ≤ gb140)); have n5_ := Aside0.mk ((by rw [hg]; exact Nat.ne_of_lt (blk_lt (g := gb139) (o := .cells #[.string a0_0, .string a0_1, .bool a0_2] 23 (0, 0)) (by (with_reducible repeat (first | refine blk_drewN ?_ _ | refine blk_drew ?_ | refine blk_alloc ?_ _)); exact BK139.out)) : gb139 ≠ gb140)); have n6_ := Aside0.mk ((by rw [hg]; exact Nat.ne_of_gt (blk_lt (g := gb139) (o := .cells #[.string a0_0, .string a0_1, .bool a0_2] 23 (0, 0)) (by (with_reducible repeat (first | refine blk_drewN ?_ _ | refine blk_drew ?_ | refine blk_alloc ?_ _)); exact BK139.out)) : gb140 ≠ gb139)); clear BK139; clear HB; have BK139 := n0_; have HB := n1_; have BK140 := n2_; have GW140 := n3_; have GE140 := n4_; have NB139_140 := n5_; have NB140_139 := n6_; clear n0_ n1_ n2_ n3_ n4_ n5_ n6_; clear hb hbox hg; have hnb67 := NB139_140.out; have hnc67 := NB140_139.out; have hcz68_0 : w66.cell? ⟨gb139, 0, none⟩ = some (.string a0_0) := (blk_cell BK139.out 0).trans rfl; have hcz68_1 : w66.cell? ⟨gb139, 1, none⟩ = some (.string a0_1) := (blk_cell BK139.out 1).trans rfl; have hcz68_2 : w66.cell? ⟨gb139, 2, none⟩ = some (.bool a0_2) := (blk_cell BK139.out 2).trans rfl; have hfz68_0 := blk_frozen BK139.out 0; have hfz68_1 := blk_frozen BK139.out 1; have hfz68_2 := blk_frozen BK139.out 2) | (go_at_call 21; (with_reducible refine (spec_allDigits.calls k a0_1 t141 _ A3.out).mono ?_); rintro e w' ⟨rfl, ⟨nd, rfl⟩⟩; (try first | exact ⟨rfl, _, World.drewN_drewN _ _ _⟩ | exact ⟨rfl, _, Eq.trans (World.drewN_drewN _ _ _) (congrArg (World.drewN _) (Nat.add_assoc _ _ _))⟩); have hcz69_0 : w66.cell? ⟨gb140, 0, none⟩ = some (.string a1_0) := (blk_cell BK140.out 0).trans rfl; have hcz69_1 : w66.cell? ⟨gb140, 1, none⟩ = some (.string a1_1) := (blk_cell BK140.out 1).trans rfl; have hcz69_2 : w66.cell? ⟨gb140, 2, none⟩ = some (.bool a1_2) := (blk_cell BK140.out 2).trans rfl; have hfz69_0 := blk_frozen BK140.out 0; have hfz69_1 := blk_frozen BK140.out 1; have hfz69_2 := blk_frozen BK140.out 2) | (go_at_call 21; (with_reducible refine (spec_allDigits.calls k a1_1 t142 _ A4.out).mono ?_); rintro e w' ⟨rfl, ⟨nd, rfl⟩⟩; (try first | exact ⟨rfl, _, World.drewN_drewN _ _ _⟩ | exact ⟨rfl, _, Eq.trans (World.drewN_drewN _ _ _) (congrArg (World.drewN _) (Nat.add_assoc _ _ _))⟩)) | (go_at_call 36; (with_reducible refine (spec_TokenOrder.calls k a0_0 a0_1 a0_2 t143 false _ A53.out).mono ?_); rintro e w70 ⟨rfl, hb⟩; have n0_ := Aside0.mk (blk_below (g := gb139) (o := .cells #[.string a0_0, .string a0_1, .bool a0_2] 23 (0, 0)) (by (with_reducible repeat (first | refine blk_drewN ?_ _ | refine blk_drew ?_ | refine blk_alloc ?_ _)); exact BK139.out) hb); have n1_ := Aside0.mk (blk_below (g := gb140) (o := .cells #[.string a1_0, .string a1_1, .bool a1_2] 23 (0, 0)) (by (with_reducible repeat (first | refine blk_drewN ?_ _ | refine blk_drew ?_ | refine blk_alloc ?_ _)); exact BK140.out) hb); have n2_ := Aside0.mk (below_step (by repeat (first | (with_reducible first | exact HB.out | apply below_alloc | apply pw_below_drewN | apply below_drew1 | refine below_set ?_ GE139.out | refine below_set ?_ GE140.out) | exact HB.out)) hb); clear BK139; clear BK140; clear HB; have BK139 := n0_; have BK140 := n1_; have HB := n2_; clear n0_ n1_ n2_; (try clear hb); (try clear hb2); (try clear hk); (try clear hi); have hcz71_0 : w70.cell? ⟨gb140, 0, none⟩ = some (.string a1_0) := (blk_cell BK140.out 0).trans rfl; have hcz71_1 : w70.cell? ⟨gb140, 1, none⟩ = some (.string a1_1) := (blk_cell BK140.out 1).trans rfl; have hcz71_2 : w70.cell? ⟨gb140, 2, none⟩ = some (.bool a1_2) := (blk_cell BK140.out 2).trans rfl; have hfz71_0 := blk_frozen BK140.out 0; have hfz71_1 := blk_frozen BK140.out 1; have hfz71_2 := blk_frozen BK140.out 2) | (go_at_call 36; (with_reducible refine (spec_TokenOrder.calls k a1_0 a1_1 a1_2 t145 t146 _ A54.out).mono ?_); rintro e w72 ⟨rfl, hb⟩; have n0_ := Aside0.mk (blk_below (g := gb139) (o := .cells #[.string a0_0, .string a0_1, .bool a0_2] 23 (0, 0)) (by (with_reducible repeat (first | refine blk_drewN ?_ _ | refine blk_drew ?_ | refine blk_alloc ?_ _)); exact BK139.out) hb); have n1_ := Aside0.mk (blk_below (g := gb140) (o := .cells #[.string a1_0, .string a1_1, .bool a1_2] 23 (0, 0)) (by (with_reducible repeat (first | refine blk_drewN ?_ _ | refine blk_drew ?_ | refine blk_alloc ?_ _)); exact BK140.out) hb); have n2_ := Aside0.mk (below_step (by repeat (first | (with_reducible first | exact HB.out | apply below_alloc | apply pw_below_drewN | apply below_drew1 | refine below_set ?_ GE139.out | refine below_set ?_ GE140.out) | exact HB.out)) hb); clear BK139; clear BK140; clear HB; have BK139 := n0_; have BK140 := n1_; have HB := n2_; clear n0_ n1_ n2_; (try clear hb); (try clear hb2); (try clear hk); (try clear hi)) | (go_at_call 37; (with_reducible refine (spec_orderInts.calls t143 t145 t147 _ A55.out).mono ?_); rintro e w' ⟨rfl, ⟨nd, rfl⟩⟩; (try first | exact ⟨rfl, _, World.drewN_drewN _ _ _⟩ | exact ⟨rfl, _, Eq.trans (World.drewN_drewN _ _ _) (congrArg (World.drewN _) (Nat.add_assoc _ _ _))⟩))))
      go_ret2
      exact ⟨by first | rfl | (simp [errW_none, errW_some] <;> rfl) | (simp [*, errW_none, errW_some] <;> rfl), by repeat (first | (with_reducible first | exact HB.out | apply below_alloc | apply pw_below_drewN | apply below_drew1 | refine below_set ?_ GE139.out | refine below_set ?_ GE140.out) | exact HB.out)⟩

/-! ### spec_TokenNull: function 27 -/
def spec_TokenNull.j0 : Nat → Bool → ByteArray → ByteArray → Bool → Option (ByteArray × ByteArray × Bool × Bool)
  | 0, _, _, _, _ => none
  | k + 1, x4, x155000, x155001, x155002 => if x4 = true then (some (x155000, (⟨#[]⟩ : ByteArray), true, true)) else (if x155000.toList = ([46] : List UInt8) then (some (x155000, (⟨#[48]⟩ : ByteArray), true, true)) else (some ((⟨#[]⟩ : ByteArray), (⟨#[]⟩ : ByteArray), false, false)))
def spec_TokenNull.f (k : Nat) (a0_0 : ByteArray) (a0_1 : ByteArray) (a0_2 : Bool) : Option (ByteArray × ByteArray × Bool × Bool) := if a0_0.toList = ([45] : List UInt8) then (spec_TokenNull.j0 k (a0_0.toList == ([45] : List UInt8)) a0_0 a0_1 a0_2) else (if a0_0.toList = ([46] : List UInt8) then (spec_TokenNull.j0 k (a0_1.toList == ([115, 112] : List UInt8)) a0_0 a0_1 a0_2) else (spec_TokenNull.j0 k false a0_0 a0_1 a0_2))
theorem spec_TokenNull.mono_l : ∀ k, (∀ y0 y1 y2 y3, LeO (spec_TokenNull.j0 k y0 y1 y2 y3) (spec_TokenNull.j0 (k + 1) y0 y1 y2 y3))
  | 0 => fun _ _ _ _ r h => by simp [spec_TokenNull.j0] at h
  | k + 1 => by
    have ih0 := spec_TokenNull.mono_l k
    · intro y0 y1 y2 y3
      unfold spec_TokenNull.j0
      repeat' first
      | (with_reducible exact ih0 _ _ _ _)
      | (with_reducible exact LeO.refl _)
      | (with_reducible exact LeO.none _)
      | (with_reducible refine LeO.ite ?_ ?_)
      | (with_reducible refine LeO.bind ?_ (fun _ => ?_))
      | exact ih0 _ _ _ _
      | exact LeO.none _
      | refine LeO.ite ?_ ?_
      | refine LeO.bind ?_ (fun _ => ?_)
theorem spec_TokenNull.mono : ∀ a0 a1 a2 k, LeO (spec_TokenNull.f k a0 a1 a2) (spec_TokenNull.f (k + 1) a0 a1 a2) := by
  intro a0 a1 a2 k
  have ih0 := spec_TokenNull.mono_l k
  unfold spec_TokenNull.f
  repeat' first
      | (with_reducible exact ih0 _ _ _ _)
      | (with_reducible exact LeO.refl _)
      | (with_reducible exact LeO.none _)
      | (with_reducible refine LeO.ite ?_ ?_)
      | (with_reducible refine LeO.bind ?_ (fun _ => ?_))
      | exact ih0 _ _ _ _
      | exact LeO.none _
      | refine LeO.ite ?_ ?_
      | refine LeO.bind ?_ (fun _ => ?_)
set_option maxHeartbeats 8000000 in
set_option maxRecDepth 100000 in
theorem spec_TokenNull.calls (k : Nat) (a0_0 : ByteArray) (a0_1 : ByteArray) (a0_2 : Bool) (r1 : ByteArray) (r2 : ByteArray) (r3 : Bool) (r4 : Bool) (w : World) (h : spec_TokenNull.f k a0_0 a0_1 a0_2 = some (r1, r2, r3, r4)) :
    Calls Tryd.prog 27 #[.agg #[.string a0_0, .string a0_1, .bool a0_2]] w fun e w' => e = .returned (.tuple #[.agg #[.string r1, .string r2, .bool r3], .bool r4]) ∧ Below w.heap.size w w' := by
  have hu23 := Tryd.underlying23
  have HB := Aside0.mk (Below.refl w.heap.size w)
  have H : (if a0_0.toList = ([45] : List UInt8) then (spec_TokenNull.j0 k (a0_0.toList == ([45] : List UInt8)) a0_0 a0_1 a0_2) else (if a0_0.toList = ([46] : List UInt8) then (spec_TokenNull.j0 k (a0_1.toList == ([115, 112] : List UInt8)) a0_0 a0_1 a0_2) else (spec_TokenNull.j0 k false a0_0 a0_1 a0_2))) = some (r1, r2, r3, r4) := h
  clear h
  have HC2 := Aside0.mk H
  clear H
  go_enter Tryd.func27, Tryd.ntmps27
  go_upto_if 4 with (first | ((with_reducible refine gate_dst (N := 1) rfl ?_); refine box_event ?hg (N := 1) ?hd (cs := #[.string a0_0, .string a0_1, .bool a0_2]) (t := 23) ?hr ?_; (case hd => rfl); (case hg => rfl); (case hr => first | (go_simp; done) | (go_simp; rfl)); intro gb154 hg w3 hbox hb; have n0_ := Aside0.mk (below_step (by repeat (first | (with_reducible first | exact HB.out | apply below_alloc | apply pw_below_drewN | apply below_drew1) | exact HB.out)) hb); have n1_ := Aside0.mk (hbox); have n2_ := Aside0.mk ((by rw [hg]; exact (below_size (by repeat (first | (with_reducible first | exact HB.out | apply below_alloc | apply pw_below_drewN | apply below_drew1) | exact HB.out))) : w.heap.size ≤ gb154)); have n3_ := Aside0.mk ((by rw [hg]; exact (below_size (by repeat (first | (with_reducible first | exact HB.out | apply below_alloc | apply pw_below_drewN | apply below_drew1) | exact HB.out))) : w.heap.size ≤ gb154)); clear HB; have HB := n0_; have BK154 := n1_; have GW154 := n2_; have GE154 := n3_; clear n0_ n1_ n2_ n3_; clear hb hbox hg) | ((with_reducible refine gate_dst (N := 2) rfl ?_); refine box_event ?hg (N := 2) ?hd (cs := #[.string (⟨#[]⟩ : ByteArray), .string (⟨#[]⟩ : ByteArray), .bool false]) (t := 23) ?hr ?_; (case hd => rfl); (case hg => rfl); (case hr => first | (go_simp; done) | (go_simp; rfl)); intro gb155 hg w4 hbox hb; have n0_ := Aside0.mk (blk_below (g := gb154) (o := .cells #[.string a0_0, .string a0_1, .bool a0_2] 23 (0, 0)) (by (with_reducible repeat (first | refine blk_drewN ?_ _ | refine blk_drew ?_ | refine blk_alloc ?_ _)); exact BK154.out) hb); have n1_ := Aside0.mk (below_step (by repeat (first | (with_reducible first | exact HB.out | apply below_alloc | apply pw_below_drewN | apply below_drew1 | refine below_set ?_ GE154.out) | exact HB.out)) hb); have n2_ := Aside0.mk (hbox); have n3_ := Aside0.mk ((by rw [hg]; exact (below_size (by repeat (first | (with_reducible first | exact HB.out | apply below_alloc | apply pw_below_drewN | apply below_drew1 | refine below_set ?_ GE154.out) | exact HB.out))) : w.heap.size ≤ gb155)); have n4_ := Aside0.mk ((by rw [hg]; exact (below_size (by repeat (first | (with_reducible first | exact HB.out | apply below_alloc | apply pw_below_drewN | apply below_drew1 | refine below_set ?_ GE154.out) | exact HB.out))) : w.heap.size ≤ gb155)); have n5_ := Aside0.mk ((by rw [hg]; exact Nat.ne_of_lt (blk_lt (g := gb154) (o := .cells #[.string a0_0, .string a0_1, .bool a0_2] 23 (0, 0)) (by (with_reducible repeat (first | refine blk_drewN ?_ _ | refine blk_drew ?_ | refine blk_alloc ?_ _)); exact BK154.out)) : gb154 ≠ gb155)); have n6_ := Aside0.mk ((by rw [hg]; exact Nat.ne_of_gt (blk_lt (g := gb154) (o := .cells #[.string a0_0, .string a0_1, .bool a0_2] 23 (0, 0)) (by (with_reducible repeat (first | refine blk_drewN ?_ _ | refine blk_drew ?_ | refine blk_alloc ?_ _)); exact BK154.out)) : gb155 ≠ gb154)); clear BK154; clear HB; have BK154 := n0_; have HB := n1_; have BK155 := n2_; have GW155 := n3_; have GE155 := n4_; have NB154_155 := n5_; have NB155_154 := n6_; clear n0_ n1_ n2_ n3_ n4_ n5_ n6_; clear hb hbox hg; have hnb5 := NB154_155.out; have hnc5 := NB155_154.out; have hcz6_0 : w4.cell? ⟨gb154, 0, none⟩ = some (.string a0_0) := (blk_cell BK154.out 0).trans rfl; have hcz6_1 : w4.cell? ⟨gb154, 1, none⟩ = some (.string a0_1) := (blk_cell BK154.out 1).trans rfl; have hcz6_2 : w4.cell? ⟨gb154, 2, none⟩ = some (.bool a0_2) := (blk_cell BK154.out 2).trans rfl; have hfz6_0 := blk_frozen BK154.out 0; have hfz6_1 := blk_frozen BK154.out 1; have hfz6_2 := blk_frozen BK154.out 2))
  (try simp only [Act.put, List.setIfInBounds_toArray, List.set_cons_zero, List.set_cons_succ])
  go_cut [4] (fun v4 wc => ∃ (kq : Nat) (x4_1 : Bool), v4 = .bool x4_1 ∧ Aside0 (spec_TokenNull.j0 kq x4_1 a0_0 a0_1 a0_2 = some (r1, r2, r3, r4)) ∧ Aside0 (kq ≤ k) ∧ Aside0 (wc.heap[gb154]? = some (.cells #[.string a0_0, .string a0_1, .bool a0_2] 23 (0, 0))) ∧ Aside0 (wc.heap[gb155]? = some (.cells #[.string (⟨#[]⟩ : ByteArray), .string (⟨#[]⟩ : ByteArray), .bool false] 23 (0, 0))) ∧ Aside0 (Below w.heap.size w wc))
  case first =>
    have H := HC2.out
    clear HC2
    by_cases c7 : a0_0.toList = ([45] : List UInt8)
    · rw [if_pos c7] at H
      have c7b0 : (a0_0.toList == ([45] : List UInt8)) = true := beq_iff_eq.mpr c7
      have c7b1 : (a0_0.toList != ([45] : List UInt8)) = false := bne_eq_false_iff_eq.mpr c7
      clear c7
      (first | rw [c7b0] | (simp only [i64_w, i32_w]; rw [c7b0]) | skip)
      have H' := Aside0.mk H
      clear H
      go_wp2
      go_meet
      case rel => exact ⟨_, ((a0_0.toList == ([45] : List UInt8))), (by first | rfl | (simp; done) | (simp [*]; done)), H', ⟨by first | omega | exact Nat.le_refl _⟩, ⟨by (with_reducible repeat (first | refine blk_drewN ?_ _ | refine blk_drew ?_ | refine blk_alloc ?_ _)); exact BK154.out⟩, ⟨by (with_reducible repeat (first | refine blk_drewN ?_ _ | refine blk_drew ?_ | refine blk_alloc ?_ _)); exact BK155.out⟩, ⟨by repeat (first | (with_reducible first | exact HB.out | apply below_alloc | apply pw_below_drewN | apply below_drew1 | refine below_set ?_ GE154.out | refine below_set ?_ GE155.out) | exact HB.out)⟩⟩
    · rw [if_neg c7] at H
      have c7b0 : (a0_0.toList == ([45] : List UInt8)) = false := beq_eq_false_iff_ne.mpr c7
      have c7b1 : (a0_0.toList != ([45] : List UInt8)) = true := bne_iff_ne.mpr c7
      (first | rw [c7b0] | (simp only [i64_w, i32_w]; rw [c7b0]) | skip)
      by_cases c8 : a0_0.toList = ([46] : List UInt8)
      · rw [if_pos c8] at H
        have c8b0 : (a0_0.toList == ([46] : List UInt8)) = true := beq_iff_eq.mpr c8
        have c8b1 : (a0_0.toList != ([46] : List UInt8)) = false := bne_eq_false_iff_eq.mpr c8
        clear c8
        have H' := Aside0.mk H
        clear H
        have hnb9 := NB154_155.out
        have hnc9 := NB155_154.out
        have hcz10_0 : w4.cell? ⟨gb154, 0, none⟩ = some (.string a0_0) := (blk_cell BK154.out 0).trans rfl
        have hcz10_1 : w4.cell? ⟨gb154, 1, none⟩ = some (.string a0_1) := (blk_cell BK154.out 1).trans rfl
        have hcz10_2 : w4.cell? ⟨gb154, 2, none⟩ = some (.bool a0_2) := (blk_cell BK154.out 2).trans rfl
        have hfz10_0 := blk_frozen BK154.out 0
        have hfz10_1 := blk_frozen BK154.out 1
        have hfz10_2 := blk_frozen BK154.out 2
        go_wp2
        go_meet
        case rel => exact ⟨_, ((a0_1.toList == ([115, 112] : List UInt8))), (by first | rfl | (simp; done) | (simp [*]; done)), H', ⟨by first | omega | exact Nat.le_refl _⟩, ⟨by (with_reducible repeat (first | refine blk_drewN ?_ _ | refine blk_drew ?_ | refine blk_alloc ?_ _)); exact BK154.out⟩, ⟨by (with_reducible repeat (first | refine blk_drewN ?_ _ | refine blk_drew ?_ | refine blk_alloc ?_ _)); exact BK155.out⟩, ⟨by repeat (first | (with_reducible first | exact HB.out | apply below_alloc | apply pw_below_drewN | apply below_drew1 | refine below_set ?_ GE154.out | refine below_set ?_ GE155.out) | exact HB.out)⟩⟩
      · rw [if_neg c8] at H
        have c8b0 : (a0_0.toList == ([46] : List UInt8)) = false := beq_eq_false_iff_ne.mpr c8
        have c8b1 : (a0_0.toList != ([46] : List UInt8)) = true := bne_iff_ne.mpr c8
        have H' := Aside0.mk H
        clear H
        have hnb11 := NB154_155.out
        have hnc11 := NB155_154.out
        have hcz12_0 : w4.cell? ⟨gb154, 0, none⟩ = some (.string a0_0) := (blk_cell BK154.out 0).trans rfl
        have hcz12_1 : w4.cell? ⟨gb154, 1, none⟩ = some (.string a0_1) := (blk_cell BK154.out 1).trans rfl
        have hcz12_2 : w4.cell? ⟨gb154, 2, none⟩ = some (.bool a0_2) := (blk_cell BK154.out 2).trans rfl
        have hfz12_0 := blk_frozen BK154.out 0
        have hfz12_1 := blk_frozen BK154.out 1
        have hfz12_2 := blk_frozen BK154.out 2
        go_wp2
        go_meet
        case rel => exact ⟨_, (false), (by first | rfl | (simp; done) | (simp [*]; done)), H', ⟨by first | omega | exact Nat.le_refl _⟩, ⟨by (with_reducible repeat (first | refine blk_drewN ?_ _ | refine blk_drew ?_ | refine blk_alloc ?_ _)); exact BK154.out⟩, ⟨by (with_reducible repeat (first | refine blk_drewN ?_ _ | refine blk_drew ?_ | refine blk_alloc ?_ _)); exact BK155.out⟩, ⟨by repeat (first | (with_reducible first | exact HB.out | apply below_alloc | apply pw_below_drewN | apply below_drew1 | refine below_set ?_ GE154.out | refine below_set ?_ GE155.out) | exact HB.out)⟩⟩
  case rest =>
    clear HC2
    try clear c1
    try clear c2
    try clear p2
    try clear c5
    try clear c7
    try clear c7b0
    try clear c7b1
    try clear c8
    try clear c8b0
    try clear c8b1
    try clear c9
    try clear c11
    try clear hcz10_0
    try clear hcz10_1
    try clear hcz10_2
    try clear hcz12_0
    try clear hcz12_1
    try clear hcz12_2
    try clear hcz6_0
    try clear hcz6_1
    try clear hcz6_2
    try clear hfz10_0
    try clear hfz10_1
    try clear hfz10_2
    try clear hfz12_0
    try clear hfz12_1
    try clear hfz12_2
    try clear hfz6_0
    try clear hfz6_1
    try clear hfz6_2
    obtain ⟨kq, x4_1, rfl, HA, HJ1, BK154, BK155, HB⟩ := hcut
    cases kq with
    | zero => exact absurd HA.out (by simp [spec_TokenNull.j0])
    | succ kj1 =>
      have H := HA.out
      clear HA
      simp only [spec_TokenNull.j0] at H
      by_cases c13 : x4_1 = true
      · subst c13
        have H1 : (some (a0_0, (⟨#[]⟩ : ByteArray), true, true)) = some (r1, r2, r3, r4) := by rw [if_pos rfl] at H; exact H
        clear H
        have H := H1
        clear H1
        simp only [Option.some.injEq, Prod.mk.injEq] at H
        obtain ⟨rfl, rfl, rfl, rfl⟩ := H
        have hnb14 := NB154_155.out
        have hnc14 := NB155_154.out
        have hcz15_0 : wc.cell? ⟨gb154, 0, none⟩ = some (.string a0_0) := (blk_cell BK154.out 0).trans rfl
        have hcz15_1 : wc.cell? ⟨gb154, 1, none⟩ = some (.string a0_1) := (blk_cell BK154.out 1).trans rfl
        have hcz15_2 : wc.cell? ⟨gb154, 2, none⟩ = some (.bool a0_2) := (blk_cell BK154.out 2).trans rfl
        have hfz15_0 := blk_frozen BK154.out 0
        have hfz15_1 := blk_frozen BK154.out 1
        have hfz15_2 := blk_frozen BK154.out 2
        have hcz16_0 : wc.cell? ⟨gb155, 0, none⟩ = some (.string (⟨#[]⟩ : ByteArray)) := (blk_cell BK155.out 0).trans rfl
        have hcz16_1 : wc.cell? ⟨gb155, 1, none⟩ = some (.string (⟨#[]⟩ : ByteArray)) := (blk_cell BK155.out 1).trans rfl
        have hcz16_2 : wc.cell? ⟨gb155, 2, none⟩ = some (.bool false) := (blk_cell BK155.out 2).trans rfl
        have hfz16_0 := blk_frozen BK155.out 0
        have hfz16_1 := blk_frozen BK155.out 1
        have hfz16_2 := blk_frozen BK155.out 2
        go_wp2
        refine bodyPost_ret (results_ct rfl _ _ gb155 23 #[.string a0_0, .string (⟨#[]⟩ : ByteArray), .bool true] (0, 0) _ rfl (by (with_reducible repeat (first | refine blk_drewN ?_ _ | refine blk_drew ?_ | refine blk_alloc ?_ _)); refine blk_put (cs := #[.string a0_0, .string (⟨#[]⟩ : ByteArray), .bool false]) ?_ 2 _ rfl; (with_reducible repeat (first | refine blk_drewN ?_ _ | refine blk_drew ?_ | refine blk_alloc ?_ _)); refine blk_put (cs := #[.string a0_0, .string (⟨#[]⟩ : ByteArray), .bool false]) ?_ 1 _ rfl; (with_reducible repeat (first | refine blk_drewN ?_ _ | refine blk_drew ?_ | refine blk_alloc ?_ _)); refine blk_put (cs := #[.string (⟨#[]⟩ : ByteArray), .string (⟨#[]⟩ : ByteArray), .bool false]) ?_ 0 _ rfl; (with_reducible repeat (first | refine blk_drewN ?_ _ | refine blk_drew ?_ | refine blk_alloc ?_ _)); exact BK155.out) Tryd.underlying23 rfl (by kernel_rfl)) rfl ?_
        exact ⟨by first | rfl | (simp [errW_none, errW_some] <;> rfl) | (simp [*, errW_none, errW_some] <;> rfl), by repeat (first | (with_reducible first | exact HB.out | apply below_alloc | apply pw_below_drewN | apply below_drew1 | refine below_set ?_ GE154.out | refine below_set ?_ GE155.out) | exact HB.out)⟩
      · replace c13 := Bool.eq_false_iff.mpr c13
        subst c13
        have H1 : (if a0_0.toList = ([46] : List UInt8) then (some (a0_0, (⟨#[48]⟩ : ByteArray), true, true)) else (some ((⟨#[]⟩ : ByteArray), (⟨#[]⟩ : ByteArray), false, false))) = some (r1, r2, r3, r4) := by rw [if_neg (show ¬ (false = true) by decide)] at H; exact H
        clear H
        have H := H1
        clear H1
        by_cases c17 : a0_0.toList = ([46] : List UInt8)
        · rw [if_pos c17] at H
          have c17b0 : (a0_0.toList == ([46] : List UInt8)) = true := beq_iff_eq.mpr c17
          have c17b1 : (a0_0.toList != ([46] : List UInt8)) = false := bne_eq_false_iff_eq.mpr c17
          clear c17
          simp only [Option.some.injEq, Prod.mk.injEq] at H
          obtain ⟨rfl, rfl, rfl, rfl⟩ := H
          have hnb18 := NB154_155.out
          have hnc18 := NB155_154.out
          have hcz19_0 : wc.cell? ⟨gb154, 0, none⟩ = some (.string a0_0) := (blk_cell BK154.out 0).trans rfl
          have hcz19_1 : wc.cell? ⟨gb154, 1, none⟩ = some (.string a0_1) := (blk_cell BK154.out 1).trans rfl
          have hcz19_2 : wc.cell? ⟨gb154, 2, none⟩ = some (.bool a0_2) := (blk_cell BK154.out 2).trans rfl
          have hfz19_0 := blk_frozen BK154.out 0
          have hfz19_1 := blk_frozen BK154.out 1
          have hfz19_2 := blk_frozen BK154.out 2
          have hcz20_0 : wc.cell? ⟨gb155, 0, none⟩ = some (.string (⟨#[]⟩ : ByteArray)) := (blk_cell BK155.out 0).trans rfl
          have hcz20_1 : wc.cell? ⟨gb155, 1, none⟩ = some (.string (⟨#[]⟩ : ByteArray)) := (blk_cell BK155.out 1).trans rfl
          have hcz20_2 : wc.cell? ⟨gb155, 2, none⟩ = some (.bool false) := (blk_cell BK155.out 2).trans rfl
          have hfz20_0 := blk_frozen BK155.out 0
          have hfz20_1 := blk_frozen BK155.out 1
          have hfz20_2 := blk_frozen BK155.out 2
          go_wp2
          refine bodyPost_ret (results_ct rfl _ _ gb155 23 #[.string a0_0, .string (⟨#[48]⟩ : ByteArray), .bool true] (0, 0) _ rfl (by (with_reducible repeat (first | refine blk_drewN ?_ _ | refine blk_drew ?_ | refine blk_alloc ?_ _)); refine blk_put (cs := #[.string a0_0, .string (⟨#[48]⟩ : ByteArray), .bool false]) ?_ 2 _ rfl; (with_reducible repeat (first | refine blk_drewN ?_ _ | refine blk_drew ?_ | refine blk_alloc ?_ _)); refine blk_put (cs := #[.string a0_0, .string (⟨#[]⟩ : ByteArray), .bool false]) ?_ 1 _ rfl; (with_reducible repeat (first | refine blk_drewN ?_ _ | refine blk_drew ?_ | refine blk_alloc ?_ _)); refine blk_put (cs := #[.string (⟨#[]⟩ : ByteArray), .string (⟨#[]⟩ : ByteArray), .bool false]) ?_ 0 _ rfl; (with_reducible repeat (first | refine blk_drewN ?_ _ | refine blk_drew ?_ | refine blk_alloc ?_ _)); exact BK155.out) Tryd.underlying23 rfl (by kernel_rfl)) rfl ?_
          exact ⟨by first | rfl | (simp [errW_none, errW_some] <;> rfl) | (simp [*, errW_none, errW_some] <;> rfl), by repeat (first | (with_reducible first | exact HB.out | apply below_alloc | apply pw_below_drewN | apply below_drew1 | refine below_set ?_ GE154.out | refine below_set ?_ GE155.out) | exact HB.out)⟩
        · rw [if_neg c17] at H
          have c17b0 : (a0_0.toList == ([46] : List UInt8)) = false := beq_eq_false_iff_ne.mpr c17
          have c17b1 : (a0_0.toList != ([46] : List UInt8)) = true := bne_iff_ne.mpr c17
          simp only [Option.some.injEq, Prod.mk.injEq] at H
          obtain ⟨rfl, rfl, rfl, rfl⟩ := H
          have hnb21 := NB154_155.out
          have hnc21 := NB155_154.out
          have hcz22_0 : wc.cell? ⟨gb154, 0, none⟩ = some (.string a0_0) := (blk_cell BK154.out 0).trans rfl
          have hcz22_1 : wc.cell? ⟨gb154, 1, none⟩ = some (.string a0_1) := (blk_cell BK154.out 1).trans rfl
          have hcz22_2 : wc.cell? ⟨gb154, 2, none⟩ = some (.bool a0_2) := (blk_cell BK154.out 2).trans rfl
          have hfz22_0 := blk_frozen BK154.out 0
          have hfz22_1 := blk_frozen BK154.out 1
          have hfz22_2 := blk_frozen BK154.out 2
          have hcz23_0 : wc.cell? ⟨gb155, 0, none⟩ = some (.string (⟨#[]⟩ : ByteArray)) := (blk_cell BK155.out 0).trans rfl
          have hcz23_1 : wc.cell? ⟨gb155, 1, none⟩ = some (.string (⟨#[]⟩ : ByteArray)) := (blk_cell BK155.out 1).trans rfl
          have hcz23_2 : wc.cell? ⟨gb155, 2, none⟩ = some (.bool false) := (blk_cell BK155.out 2).trans rfl
          have hfz23_0 := blk_frozen BK155.out 0
          have hfz23_1 := blk_frozen BK155.out 1
          have hfz23_2 := blk_frozen BK155.out 2
          go_wp2
          refine bodyPost_ret (results_ct rfl _ _ gb155 23 #[.string (⟨#[]⟩ : ByteArray), .string (⟨#[]⟩ : ByteArray), .bool false] (0, 0) _ rfl (by (with_reducible repeat (first | refine blk_drewN ?_ _ | refine blk_drew ?_ | refine blk_alloc ?_ _)); refine blk_put (cs := #[.string (⟨#[]⟩ : ByteArray), .string (⟨#[]⟩ : ByteArray), .bool false]) ?_ 2 _ rfl; (with_reducible repeat (first | refine blk_drewN ?_ _ | refine blk_drew ?_ | refine blk_alloc ?_ _)); refine blk_put (cs := #[.string (⟨#[]⟩ : ByteArray), .string (⟨#[]⟩ : ByteArray), .bool false]) ?_ 1 _ rfl; (with_reducible repeat (first | refine blk_drewN ?_ _ | refine blk_drew ?_ | refine blk_alloc ?_ _)); refine blk_put (cs := #[.string (⟨#[]⟩ : ByteArray), .string (⟨#[]⟩ : ByteArray), .bool false]) ?_ 0 _ rfl; (with_reducible repeat (first | refine blk_drewN ?_ _ | refine blk_drew ?_ | refine blk_alloc ?_ _)); exact BK155.out) Tryd.underlying23 rfl (by kernel_rfl)) rfl ?_
          exact ⟨by first | rfl | (simp [errW_none, errW_some] <;> rfl) | (simp [*, errW_none, errW_some] <;> rfl), by repeat (first | (with_reducible first | exact HB.out | apply below_alloc | apply pw_below_drewN | apply below_drew1 | refine below_set ?_ GE154.out | refine below_set ?_ GE155.out) | exact HB.out)⟩

/-! ### spec_MavenCompare: function 13 -/
mutual
def spec_MavenCompare.l0 : Nat → List (S23) → List (S23) → Int → Option (Int × Bool)
  | 0, _, _, _ => none
  | k + 1, x0, x1, x6 => if x6 < (x0.length : Int) then (spec_MavenCompare.j1 k x0 x1 x6 true) else (spec_MavenCompare.j1 k x0 x1 x6 (decide (x6 < (x1.length : Int))))
def spec_MavenCompare.j1 : Nat → List (S23) → List (S23) → Int → Bool → Option (Int × Bool)
  | 0, _, _, _, _ => none
  | k + 1, x0, x1, x6, x20 => if x20 = true then (if x6 ≥ (x0.length : Int) then (if 0 ≤ x6 then (if x6 < (x1.length : Int) then ((spec_TokenNull.f k ((rd_T23 x1 x6).f0) ((rd_T23 x1 x6).f1) ((rd_T23 x1 x6).f2)).bind fun bt159 => (spec_MavenCompare.j2 k x0 x1 bt159.2.2.2 x6 bt159.1 bt159.2.1 bt159.2.2.1 ((rd_T23 x1 x6).f0) ((rd_T23 x1 x6).f1) ((rd_T23 x1 x6).f2))) else (none)) else (none)) else (if x6 ≥ (x1.length : Int) then (if 0 ≤ x6 then (if x6 < (x0.length : Int) then ((spec_TokenNull.f k ((rd_T23 x0 x6).f0) ((rd_T23 x0 x6).f1) ((rd_T23 x0 x6).f2)).bind fun bt164 => (spec_MavenCompare.j2 k x0 x1 bt164.2.2.2 x6 ((rd_T23 x0 x6).f0) ((rd_T23 x0 x6).f1) ((rd_T23 x0 x6).f2) bt164.1 bt164.2.1 bt164.2.2.1)) else (none)) else (none)) else (if 0 ≤ x6 then (if x6 < (x0.length : Int) then (if x6 < (x1.length : Int) then (spec_MavenCompare.j2 k x0 x1 true x6 ((rd_T23 x0 x6).f0) ((rd_T23 x0 x6).f1) ((rd_T23 x0 x6).f2) ((rd_T23 x1 x6).f0) ((rd_T23 x1 x6).f1) ((rd_T23 x1 x6).f2)) else (none)) else (none)) else (none)))) else (some (0, true))
def spec_MavenCompare.j2 : Nat → List (S23) → List (S23) → Bool → Int → ByteArray → ByteArray → Bool → ByteArray → ByteArray → Bool → Option (Int × Bool)
  | 0, _, _, _, _, _, _, _, _, _, _ => none
  | k + 1, x0, x1, x5, x6, x157000, x157001, x157002, x158000, x158001, x158002 => if x5 = true then ((spec_mavenOne.f k x157000 x157001 x157002 x158000 x158001 x158002).bind fun bt170 => (if bt170.2 = true then (if bt170.1 = 0 then (spec_MavenCompare.l0 k x0 x1 (wrap64 (x6 + 1))) else (some (bt170.1, bt170.2))) else (some (bt170.1, bt170.2)))) else (some (0, false))
end
def spec_MavenCompare.f (k : Nat) (l0 : List (S23)) (l1 : List (S23)) : Option (Int × Bool) := spec_MavenCompare.l0 k l0 l1 0
theorem spec_MavenCompare.mono_l : ∀ k, (∀ y0 y1 y2, LeO (spec_MavenCompare.l0 k y0 y1 y2) (spec_MavenCompare.l0 (k + 1) y0 y1 y2)) ∧ (∀ y0 y1 y2 y3, LeO (spec_MavenCompare.j1 k y0 y1 y2 y3) (spec_MavenCompare.j1 (k + 1) y0 y1 y2 y3)) ∧ (∀ y0 y1 y2 y3 y4 y5 y6 y7 y8 y9, LeO (spec_MavenCompare.j2 k y0 y1 y2 y3 y4 y5 y6 y7 y8 y9) (spec_MavenCompare.j2 (k + 1) y0 y1 y2 y3 y4 y5 y6 y7 y8 y9))
  | 0 => ⟨fun _ _ _ r h => by simp [spec_MavenCompare.l0] at h, fun _ _ _ _ r h => by simp [spec_MavenCompare.j1] at h, fun _ _ _ _ _ _ _ _ _ _ r h => by simp [spec_MavenCompare.j2] at h⟩
  | k + 1 => by
    obtain ⟨ih0, ih1, ih2⟩ := spec_MavenCompare.mono_l k
    refine ⟨?_, ?_, ?_⟩
    · intro y0 y1 y2
      unfold spec_MavenCompare.l0
      repeat' first
      | (with_reducible exact ih0 _ _ _)
      | (with_reducible exact ih1 _ _ _ _)
      | (with_reducible exact ih2 _ _ _ _ _ _ _ _ _ _)
      | (with_reducible exact spec_TokenNull.mono _ _ _ _)
      | (with_reducible exact spec_mavenOne.mono _ _ _ _ _ _ _)
      | (with_reducible exact LeO.refl _)
      | (with_reducible exact LeO.none _)
      | (with_reducible refine LeO.ite ?_ ?_)
      | (with_reducible refine LeO.bind ?_ (fun _ => ?_))
      | exact ih0 _ _ _
      | exact ih1 _ _ _ _
      | exact ih2 _ _ _ _ _ _ _ _ _ _
      | exact spec_TokenNull.mono _ _ _ _
      | exact spec_mavenOne.mono _ _ _ _ _ _ _
      | exact LeO.none _
      | refine LeO.ite ?_ ?_
      | refine LeO.bind ?_ (fun _ => ?_)
    · intro y0 y1 y2 y3
      unfold spec_MavenCompare.j1
      repeat' first
      | (with_reducible exact ih0 _ _ _)
      | (with_reducible exact ih1 _ _ _ _)
      | (with_reducible exact ih2 _ _ _ _ _ _ _ _ _ _)
      | (with_reducible exact spec_TokenNull.mono _ _ _ _)
      | (with_reducible exact spec_mavenOne.mono _ _ _ _ _ _ _)
      | (with_reducible exact LeO.refl _)
      | (with_reducible exact LeO.none _)
      | (with_reducible refine LeO.ite ?_ ?_)
      | (with_reducible refine LeO.bind ?_ (fun _ => ?_))
      | exact ih0 _ _ _
      | exact ih1 _ _ _ _
      | exact ih2 _ _ _ _ _ _ _ _ _ _
      | exact spec_TokenNull.mono _ _ _ _
      | exact spec_mavenOne.mono _ _ _ _ _ _ _
      | exact LeO.none _
      | refine LeO.ite ?_ ?_
      | refine LeO.bind ?_ (fun _ => ?_)
    · intro y0 y1 y2 y3 y4 y5 y6 y7 y8 y9
      unfold spec_MavenCompare.j2
      repeat' first
      | (with_reducible exact ih0 _ _ _)
      | (with_reducible exact ih1 _ _ _ _)
      | (with_reducible exact ih2 _ _ _ _ _ _ _ _ _ _)
      | (with_reducible exact spec_TokenNull.mono _ _ _ _)
      | (with_reducible exact spec_mavenOne.mono _ _ _ _ _ _ _)
      | (with_reducible exact LeO.refl _)
      | (with_reducible exact LeO.none _)
      | (with_reducible refine LeO.ite ?_ ?_)
      | (with_reducible refine LeO.bind ?_ (fun _ => ?_))
      | exact ih0 _ _ _
      | exact ih1 _ _ _ _
      | exact ih2 _ _ _ _ _ _ _ _ _ _
      | exact spec_TokenNull.mono _ _ _ _
      | exact spec_mavenOne.mono _ _ _ _ _ _ _
      | exact LeO.none _
      | refine LeO.ite ?_ ?_
      | refine LeO.bind ?_ (fun _ => ?_)
theorem spec_MavenCompare.mono : ∀ a0 a1 k, LeO (spec_MavenCompare.f k a0 a1) (spec_MavenCompare.f (k + 1) a0 a1) := by
  intro a0 a1 k
  obtain ⟨ih0, ih1, ih2⟩ := spec_MavenCompare.mono_l k
  unfold spec_MavenCompare.f
  repeat' first
      | (with_reducible exact ih0 _ _ _)
      | (with_reducible exact ih1 _ _ _ _)
      | (with_reducible exact ih2 _ _ _ _ _ _ _ _ _ _)
      | (with_reducible exact spec_TokenNull.mono _ _ _ _)
      | (with_reducible exact spec_mavenOne.mono _ _ _ _ _ _ _)
      | (with_reducible exact LeO.refl _)
      | (with_reducible exact LeO.none _)
      | (with_reducible refine LeO.ite ?_ ?_)
      | (with_reducible refine LeO.bind ?_ (fun _ => ?_))
      | exact ih0 _ _ _
      | exact ih1 _ _ _ _
      | exact ih2 _ _ _ _ _ _ _ _ _ _
      | exact spec_TokenNull.mono _ _ _ _
      | exact spec_mavenOne.mono _ _ _ _ _ _ _
      | exact LeO.none _
      | refine LeO.ite ?_ ?_
      | refine LeO.bind ?_ (fun _ => ?_)
def spec_MavenCompare.T6 : Bool × List (List Nat × List Nat) := (true, [([], []), ([], []), ([0, 1], [0, 1]), ([2], [2]), ([], []), ([], []), ([4, 5], [4, 5]), ([6], [6]), ([3, 0, 1, 2, 3], [3]), ([7, 8, 0, 1, 2, 3, 4, 5, 6, 7, 8], [7])])
def spec_MavenCompare.B6 : List Nat := [0, 0, 3, 7, 0, 0, 48, 112, 15, 511]
theorem spec_MavenCompare.tab6 : rtab .any (opsOf Tryd.f13 6) = spec_MavenCompare.T6 := by kernel_rfl
theorem spec_MavenCompare.bits6 : waitsOk spec_MavenCompare.T6.2 spec_MavenCompare.B6 = true := by kernel_rfl
set_option maxHeartbeats 8000000 in
set_option maxRecDepth 100000 in
theorem spec_MavenCompare.calls (k : Nat) (A0 : Option Addr) (c0 : Nat) (l0 : List (S23)) (A1 : Option Addr) (c1 : Nat) (l1 : List (S23)) (r1 : Int) (r2 : Bool) (w : World) (hr0 : Kd.C k23 w A0 l0.length l0) (hc0 : l0.length ≤ c0) (hr1 : Kd.C k23 w A1 l1.length l1) (hc1 : l1.length ≤ c1) (h : spec_MavenCompare.f k l0 l1 = some (r1, r2)) :
    Calls Tryd.prog 13 #[.slice A0 l0.length c0, .slice A1 l1.length c1] w fun e w' => e = .returned (.tuple #[.int .i64 r1, .bool r2]) ∧ Below w.heap.size w w' := by
  have hu23 := Tryd.underlying23
  have HR0 := Aside0.mk hr0
  have HC0 := Aside0.mk hc0
  clear hr0 hc0
  have HR1 := Aside0.mk hr1
  have HC1 := Aside0.mk hc1
  clear hr1 hc1
  have HB := Aside0.mk (Below.refl w.heap.size w)
  have H : (spec_MavenCompare.l0 k l0 l1 0) = some (r1, r2) := h
  clear h
  have H' := Aside0.mk H
  clear H
  go_enter Tryd.func13, Tryd.ntmps13
  go_wp2
  go_loopg [6] k (fun kq v6 w' => ∃ (x6_1 : Int), v6 = .int .i64 x6_1 ∧ Aside0 (spec_MavenCompare.l0 kq l0 l1 x6_1 = some (r1, r2)) ∧ Aside0 (kq ≤ k) ∧ Aside0 (Below w.heap.size w w'))
  case atStart => exact ⟨(0), (by first | rfl | (simp; done) | (simp [*]; done)), H', ⟨Nat.le_refl _⟩, ⟨by repeat (first | (with_reducible first | exact HB.out | apply below_alloc | apply pw_below_drewN | apply below_drew1) | exact HB.out)⟩⟩
  case round =>
    clear H'
    try clear c1
    try clear p2
    obtain ⟨x6_1, rfl, HA, HK1, HB⟩ := hrel
    cases gk with
    | zero => exact absurd HA.out (by simp [spec_MavenCompare.l0])
    | succ k1 =>
      have H := HA.out
      clear HA
      simp only [spec_MavenCompare.l0] at H
      have HC3 := Aside0.mk H
      clear H
      go_upto_region 2 with (fail)
      go_cut [20] (fun v20 wc => ∃ (kq : Nat) (x20_2 : Bool), v20 = .bool x20_2 ∧ Aside0 (spec_MavenCompare.j1 kq l0 l1 x6_1 x20_2 = some (r1, r2)) ∧ Aside0 (kq ≤ k1) ∧ Aside0 (Below w.heap.size w wc))
      case first =>
        have H := HC3.out
        clear HC3
        by_cases c4 : x6_1 < (l0.length : Int)
        · rw [if_pos c4] at H
          have c4b0 : decide (x6_1 < (l0.length : Int)) = true := decide_eq_true c4
          clear c4
          (first | rw [c4b0] | (simp only [i64_w, i32_w]; rw [c4b0]) | skip)
          have H' := Aside0.mk H
          clear H
          go_wp2
          go_meet
          case rel => exact ⟨_, (true), (by first | rfl | (simp; done) | (simp [*]; done)), H', ⟨by have := HK1.out; first | omega | exact Nat.le_refl _⟩, ⟨by repeat (first | (with_reducible first | exact HB.out | apply below_alloc | apply pw_below_drewN | apply below_drew1) | exact HB.out)⟩⟩
        · rw [if_neg c4] at H
          have c4b0 : decide (x6_1 < (l0.length : Int)) = false := decide_eq_false c4
          clear c4
          (first | rw [c4b0] | (simp only [i64_w, i32_w]; rw [c4b0]) | skip)
          have H' := Aside0.mk H
          clear H
          go_wp2
          go_meet
          case rel => exact ⟨_, (decide (x6_1 < (l1.length : Int))), (by first | rfl | (simp; done) | (simp [*]; done)), H', ⟨by have := HK1.out; first | omega | exact Nat.le_refl _⟩, ⟨by repeat (first | (with_reducible first | exact HB.out | apply below_alloc | apply pw_below_drewN | apply below_drew1) | exact HB.out)⟩⟩
      case rest =>
        clear HC3
        try clear c1
        try clear p2
        try clear c4
        try clear c4b0
        try clear p2
        obtain ⟨kq, x20_2, rfl, HA, HJ2, HB⟩ := hcut
        cases kq with
        | zero => exact absurd HA.out (by simp [spec_MavenCompare.j1])
        | succ kj2 =>
          have H := HA.out
          clear HA
          simp only [spec_MavenCompare.j1] at H
          by_cases c5 : x20_2 = true
          · subst c5
            have H1 : (if x6_1 ≥ (l0.length : Int) then (if 0 ≤ x6_1 then (if x6_1 < (l1.length : Int) then ((spec_TokenNull.f kj2 ((rd_T23 l1 x6_1).f0) ((rd_T23 l1 x6_1).f1) ((rd_T23 l1 x6_1).f2)).bind fun bt159 => (spec_MavenCompare.j2 kj2 l0 l1 bt159.2.2.2 x6_1 bt159.1 bt159.2.1 bt159.2.2.1 ((rd_T23 l1 x6_1).f0) ((rd_T23 l1 x6_1).f1) ((rd_T23 l1 x6_1).f2))) else (none)) else (none)) else (if x6_1 ≥ (l1.length : Int) then (if 0 ≤ x6_1 then (if x6_1 < (l0.length : Int) then ((spec_TokenNull.f kj2 ((rd_T23 l0 x6_1).f0) ((rd_T23 l0 x6_1).f1) ((rd_T23 l0 x6_1).f2)).bind fun bt164 => (spec_MavenCompare.j2 kj2 l0 l1 bt164.2.2.2 x6_1 ((rd_T23 l0 x6_1).f0) ((rd_T23 l0 x6_1).f1) ((rd_T23 l0 x6_1).f2) bt164.1 bt164.2.1 bt164.2.2.1)) else (none)) else (none)) else (if 0 ≤ x6_1 then (if x6_1 < (l0.length : Int) then (if x6_1 < (l1.length : Int) then (spec_MavenCompare.j2 kj2 l0 l1 true x6_1 ((rd_T23 l0 x6_1).f0) ((rd_T23 l0 x6_1).f1) ((rd_T23 l0 x6_1).f2) ((rd_T23 l1 x6_1).f0) ((rd_T23 l1 x6_1).f1) ((rd_T23 l1 x6_1).f2)) else (none)) else (none)) else (none)))) = some (r1, r2) := by rw [if_pos rfl] at H; exact H
            clear H
            have H := H1
            clear H1
            have HC6 := Aside0.mk H
            clear H
            go_upto_block 2 with (first | ((with_reducible refine gate_dst (N := 7) rfl ?_); (try (refine gate_guard (by rfl) ?_; dsimp only)); refine box_event ?hg (N := 7) ?hd (cs := #[.string (⟨#[]⟩ : ByteArray), .string (⟨#[]⟩ : ByteArray), .bool false]) (t := 23) ?hr ?_; (case hd => rfl); (case hg => rfl); (case hr => first | (go_simp; done) | (go_simp; rfl)); intro gb156 hg w7 hbox hb; have n0_ := Aside0.mk (below_step (by repeat (first | (with_reducible first | exact HB.out | apply below_alloc | apply pw_below_drewN | apply below_drew1) | exact HB.out)) hb); have n1_ := Aside0.mk (hbox); have n2_ := Aside0.mk ((by rw [hg]; exact (below_size (by repeat (first | (with_reducible first | exact HB.out | apply below_alloc | apply pw_below_drewN | apply below_drew1) | exact HB.out))) : w.heap.size ≤ gb156)); have n3_ := Aside0.mk ((by rw [hg]; exact (below_size (by repeat (first | (with_reducible first | exact HB.out | apply below_alloc | apply pw_below_drewN | apply below_drew1) | exact HB.out))) : w.heap.size ≤ gb156)); clear HB; have HB := n0_; have BK156 := n1_; have GW156 := n2_; have GE156 := n3_; clear n0_ n1_ n2_ n3_; clear hb hbox hg) | ((with_reducible refine gate_dst (N := 8) rfl ?_); (try (refine gate_guard (by rfl) ?_; dsimp only)); refine box_event ?hg (N := 8) ?hd (cs := #[.string (⟨#[]⟩ : ByteArray), .string (⟨#[]⟩ : ByteArray), .bool false]) (t := 23) ?hr ?_; (case hd => rfl); (case hg => rfl); (case hr => first | (go_simp; done) | (go_simp; rfl)); intro gb157 hg w8 hbox hb; have n0_ := Aside0.mk (blk_below (g := gb156) (o := .cells #[.string (⟨#[]⟩ : ByteArray), .string (⟨#[]⟩ : ByteArray), .bool false] 23 (0, 0)) (by (with_reducible repeat (first | refine blk_drewN ?_ _ | refine blk_drew ?_ | refine blk_alloc ?_ _)); exact BK156.out) hb); have n1_ := Aside0.mk (below_step (by repeat (first | (with_reducible first | exact HB.out | apply below_alloc | apply pw_below_drewN | apply below_drew1 | refine below_set ?_ GE156.out) | exact HB.out)) hb); have n2_ := Aside0.mk (hbox); have n3_ := Aside0.mk ((by rw [hg]; exact (below_size (by repeat (first | (with_reducible first | exact HB.out | apply below_alloc | apply pw_below_drewN | apply below_drew1 | refine below_set ?_ GE156.out) | exact HB.out))) : w.heap.size ≤ gb157)); have n4_ := Aside0.mk ((by rw [hg]; exact (below_size (by repeat (first | (with_reducible first | exact HB.out | apply below_alloc | apply pw_below_drewN | apply below_drew1 | refine below_set ?_ GE156.out) | exact HB.out))) : w.heap.size ≤ gb157)); have n5_ := Aside0.mk ((by rw [hg]; exact Nat.ne_of_lt (blk_lt (g := gb156) (o := .cells #[.string (⟨#[]⟩ : ByteArray), .string (⟨#[]⟩ : ByteArray), .bool false] 23 (0, 0)) (by (with_reducible repeat (first | refine blk_drewN ?_ _ | refine blk_drew ?_ | refine blk_alloc ?_ _)); exact BK156.out)) : gb156 ≠ gb157)); have n6_ := Aside0.mk ((by rw [hg]; exact Nat.ne_of_gt (blk_lt (g := gb156) (o := .cells #[.string (⟨#[]⟩ : ByteArray), .string (⟨#[]⟩ : ByteArray), .bool false] 23 (0, 0)) (by (with_reducible repeat (first | refine blk_drewN ?_ _ | refine blk_drew ?_ | refine blk_alloc ?_ _)); exact BK156.out)) : gb157 ≠ gb156)); clear BK156; clear HB; have BK156 := n0_; have HB := n1_; have BK157 := n2_; have GW157 := n3_; have GE157 := n4_; have NB156_157 := n5_; have NB157_156 := n6_; clear n0_ n1_ n2_ n3_ n4_ n5_ n6_; clear hb hbox hg))
            (try simp only [Act.put, List.setIfInBounds_toArray, List.set_cons_zero, List.set_cons_succ])
            go_cut [5] (fun v5 wc => ∃ (kq : Nat) (x5_5 : Bool) (x157000_5 : ByteArray) (x157001_5 : ByteArray) (x157002_5 : Bool) (x158000_5 : ByteArray) (x158001_5 : ByteArray) (x158002_5 : Bool), v5 = .bool x5_5 ∧ Aside0 (spec_MavenCompare.j2 kq l0 l1 x5_5 x6_1 x157000_5 x157001_5 x157002_5 x158000_5 x158001_5 x158002_5 = some (r1, r2)) ∧ Aside0 (kq ≤ kj2) ∧ Aside0 (wc.heap[gb156]? = some (.cells #[.string x157000_5, .string x157001_5, .bool x157002_5] 23 (0, 0))) ∧ Aside0 (wc.heap[gb157]? = some (.cells #[.string x158000_5, .string x158001_5, .bool x158002_5] 23 (0, 0))) ∧ Aside0 (Below w.heap.size w wc))
            case first =>
              have H := HC6.out
              clear HC6
              by_cases c9 : x6_1 ≥ (l0.length : Int)
              · rw [if_pos c9] at H
                have c9b0 : decide ((l0.length : Int) ≤ x6_1) = true := decide_eq_true c9
                clear c9
                (first | rw [c9b0] | (simp only [i64_w, i32_w]; rw [c9b0]) | skip)
                by_cases c10 : 0 ≤ x6_1
                · rw [if_pos c10] at H
                  have c10b0 : decide (0 ≤ x6_1) = true := decide_eq_true c10
                  clear c10
                  by_cases c11 : x6_1 < (l1.length : Int)
                  · rw [if_pos c11] at H
                    have c11b0 : decide (x6_1 < (l1.length : Int)) = true := decide_eq_true c11
                    clear c11
                    replace H := Option.bind_eq_some_iff.mp H
                    obtain ⟨⟨t159, t160, t161, t162⟩, A120, H⟩ := H
                    replace H : (spec_MavenCompare.j2 kj2 l0 l1 t162 x6_1 t159 t160 t161 ((rd_T23 l1 x6_1).f0) ((rd_T23 l1 x6_1).f1) ((rd_T23 l1 x6_1).f2)) = some (r1, r2) := H
                    have A12 := Aside0.mk A120
                    clear A120
                    have H' := Aside0.mk H
                    clear H
                    have p158 : 0 ≤ (x6_1 : Int) := of_decide_eq_true (by first | (with_reducible assumption) | assumption)
                    have q158 : x6_1 < (l1.length : Int) := of_decide_eq_true (by first | (with_reducible assumption) | assumption)
                    obtain ⟨ad158, e158, hx158_0, hx158_1, hx158_2⟩ := at_T23 HR1.out x6_1 p158 q158
                    cases e158
                    replace hx158_0 := (HB.out.cell (World.block_lt_of_cell? w _ hx158_0)).trans hx158_0
                    replace hx158_1 := (HB.out.cell (World.block_lt_of_cell? w _ hx158_1)).trans hx158_1
                    replace hx158_2 := (HB.out.cell (World.block_lt_of_cell? w _ hx158_2)).trans hx158_2
                    replace p158 := eq_true p158
                    replace q158 := eq_true q158
                    have hnb13 := NB157_156.out
                    have hnc13 := NB156_157.out
                    have hcz14_0 : w8.cell? ⟨gb157, 0, none⟩ = some (.string (⟨#[]⟩ : ByteArray)) := (blk_cell BK157.out 0).trans rfl
                    have hcz14_1 : w8.cell? ⟨gb157, 1, none⟩ = some (.string (⟨#[]⟩ : ByteArray)) := (blk_cell BK157.out 1).trans rfl
                    have hcz14_2 : w8.cell? ⟨gb157, 2, none⟩ = some (.bool false) := (blk_cell BK157.out 2).trans rfl
                    have hfz14_0 := blk_frozen BK157.out 0
                    have hfz14_1 := blk_frozen BK157.out 1
                    have hfz14_2 := blk_frozen BK157.out 2
                    go_wp2_with (first | ((with_reducible refine gate_callee (f := 27) rfl ?_); refine goesL_ (some 42) rfl rfl Tryd.func27 (by kernel_rfl) rfl #[.agg #[.string ((rd_T23 l1 x6_1).f0), .string ((rd_T23 l1 x6_1).f1), .bool ((rd_T23 l1 x6_1).f2)]] rfl (by (try simp only [List.map_toArray, List.map_cons, List.map_nil]); first | done | rfl | (simp only [List.length_drop, List.length_take]; rfl)) ?_; (with_reducible refine (spec_TokenNull.calls kj2 ((rd_T23 l1 x6_1).f0) ((rd_T23 l1 x6_1).f1) ((rd_T23 l1 x6_1).f2) t159 t160 t161 t162 _ A12.out).mono ?_); rintro e w15 ⟨rfl, hb⟩; refine ⟨_, rfl, ?_⟩; have n0_ := Aside0.mk (blk_below (g := gb156) (o := .cells #[.string (⟨#[]⟩ : ByteArray), .string (⟨#[]⟩ : ByteArray), .bool false] 23 (0, 0)) (by (with_reducible repeat (first | refine blk_drewN ?_ _ | refine blk_drew ?_ | refine blk_alloc ?_ _)); refine blk_far ?_ NB156_157.out _; (with_reducible repeat (first | refine blk_drewN ?_ _ | refine blk_drew ?_ | refine blk_alloc ?_ _)); refine blk_far ?_ NB156_157.out _; (with_reducible repeat (first | refine blk_drewN ?_ _ | refine blk_drew ?_ | refine blk_alloc ?_ _)); refine blk_far ?_ NB156_157.out _; (with_reducible repeat (first | refine blk_drewN ?_ _ | refine blk_drew ?_ | refine blk_alloc ?_ _)); exact BK156.out) hb); have n1_ := Aside0.mk (blk_below (g := gb157) (o := .cells #[.string ((rd_T23 l1 x6_1).f0), .string ((rd_T23 l1 x6_1).f1), .bool ((rd_T23 l1 x6_1).f2)] 23 (0, 0)) (by (with_reducible repeat (first | refine blk_drewN ?_ _ | refine blk_drew ?_ | refine blk_alloc ?_ _)); refine blk_put (cs := #[.string ((rd_T23 l1 x6_1).f0), .string ((rd_T23 l1 x6_1).f1), .bool false]) ?_ 2 _ rfl; (with_reducible repeat (first | refine blk_drewN ?_ _ | refine blk_drew ?_ | refine blk_alloc ?_ _)); refine blk_put (cs := #[.string ((rd_T23 l1 x6_1).f0), .string (⟨#[]⟩ : ByteArray), .bool false]) ?_ 1 _ rfl; (with_reducible repeat (first | refine blk_drewN ?_ _ | refine blk_drew ?_ | refine blk_alloc ?_ _)); refine blk_put (cs := #[.string (⟨#[]⟩ : ByteArray), .string (⟨#[]⟩ : ByteArray), .bool false]) ?_ 0 _ rfl; (with_reducible repeat (first | refine blk_drewN ?_ _ | refine blk_drew ?_ | refine blk_alloc ?_ _)); exact BK157.out) hb); have n2_ := Aside0.mk (below_step (by repeat (first | (with_reducible first | exact HB.out | apply below_alloc | apply pw_below_drewN | apply below_drew1 | refine below_set ?_ GE156.out | refine below_set ?_ GE157.out) | exact HB.out)) hb); clear BK156; clear BK157; clear HB; have BK156 := n0_; have BK157 := n1_; have HB := n2_; clear n0_ n1_ n2_; (try clear hb); (try clear hb2); (try clear hk); (try clear hi); have hcz16_0 : w15.cell? ⟨gb156, 0, none⟩ = some (.string (⟨#[]⟩ : ByteArray)) := (blk_cell BK156.out 0).trans rfl; have hcz16_1 : w15.cell? ⟨gb156, 1, none⟩ = some (.string (⟨#[]⟩ : ByteArray)) := (blk_cell BK156.out 1).trans rfl; have hcz16_2 : w15.cell? ⟨gb156, 2, none⟩ = some (.bool false) := (blk_cell BK156.out 2).trans rfl; have hfz16_0 := blk_frozen BK156.out 0; have hfz16_1 := blk_frozen BK156.out 1; have hfz16_2 := blk_frozen BK156.out 2))
                    go_meet
                    case rel => exact ⟨_, (t162), (t159), (t160), (t161), ((rd_T23 l1 x6_1).f0), ((rd_T23 l1 x6_1).f1), ((rd_T23 l1 x6_1).f2), (by first | rfl | (simp; done) | (simp [*]; done)), H', ⟨by have := HK1.out; have := HJ2.out; first | omega | exact Nat.le_refl _⟩, ⟨by (with_reducible repeat (first | refine blk_drewN ?_ _ | refine blk_drew ?_ | refine blk_alloc ?_ _)); refine blk_put (cs := #[.string t159, .string t160, .bool false]) ?_ 2 _ rfl; (with_reducible repeat (first | refine blk_drewN ?_ _ | refine blk_drew ?_ | refine blk_alloc ?_ _)); refine blk_put (cs := #[.string t159, .string (⟨#[]⟩ : ByteArray), .bool false]) ?_ 1 _ rfl; (with_reducible repeat (first | refine blk_drewN ?_ _ | refine blk_drew ?_ | refine blk_alloc ?_ _)); refine blk_put (cs := #[.string (⟨#[]⟩ : ByteArray), .string (⟨#[]⟩ : ByteArray), .bool false]) ?_ 0 _ rfl; (with_reducible repeat (first | refine blk_drewN ?_ _ | refine blk_drew ?_ | refine blk_alloc ?_ _)); exact BK156.out⟩, ⟨by (with_reducible repeat (first | refine blk_drewN ?_ _ | refine blk_drew ?_ | refine blk_alloc ?_ _)); refine blk_far ?_ NB157_156.out _; (with_reducible repeat (first | refine blk_drewN ?_ _ | refine blk_drew ?_ | refine blk_alloc ?_ _)); refine blk_far ?_ NB157_156.out _; (with_reducible repeat (first | refine blk_drewN ?_ _ | refine blk_drew ?_ | refine blk_alloc ?_ _)); refine blk_far ?_ NB157_156.out _; (with_reducible repeat (first | refine blk_drewN ?_ _ | refine blk_drew ?_ | refine blk_alloc ?_ _)); exact BK157.out⟩, ⟨by repeat (first | (with_reducible first | exact HB.out | apply below_alloc | apply pw_below_drewN | apply below_drew1 | refine below_set ?_ GE156.out | refine below_set ?_ GE157.out) | exact HB.out)⟩⟩
                  · rw [if_neg c11] at H
                    exact absurd H (by simp)
                · rw [if_neg c10] at H
                  exact absurd H (by simp)
              · rw [if_neg c9] at H
                have c9b0 : decide ((l0.length : Int) ≤ x6_1) = false := decide_eq_false c9
                clear c9
                (first | rw [c9b0] | (simp only [i64_w, i32_w]; rw [c9b0]) | skip)
                by_cases c17 : x6_1 ≥ (l1.length : Int)
                · rw [if_pos c17] at H
                  have c17b0 : decide ((l1.length : Int) ≤ x6_1) = true := decide_eq_true c17
                  clear c17
                  by_cases c18 : 0 ≤ x6_1
                  · rw [if_pos c18] at H
                    have c18b0 : decide (0 ≤ x6_1) = true := decide_eq_true c18
                    clear c18
                    by_cases c19 : x6_1 < (l0.length : Int)
                    · rw [if_pos c19] at H
                      have c19b0 : decide (x6_1 < (l0.length : Int)) = true := decide_eq_true c19
                      clear c19
                      replace H := Option.bind_eq_some_iff.mp H
                      obtain ⟨⟨t164, t165, t166, t167⟩, A200, H⟩ := H
                      replace H : (spec_MavenCompare.j2 kj2 l0 l1 t167 x6_1 ((rd_T23 l0 x6_1).f0) ((rd_T23 l0 x6_1).f1) ((rd_T23 l0 x6_1).f2) t164 t165 t166) = some (r1, r2) := H
                      have A20 := Aside0.mk A200
                      clear A200
                      have H' := Aside0.mk H
                      clear H
                      have p163 : 0 ≤ (x6_1 : Int) := of_decide_eq_true (by first | (with_reducible assumption) | assumption)
                      have q163 : x6_1 < (l0.length : Int) := of_decide_eq_true (by first | (with_reducible assumption) | assumption)
                      obtain ⟨ad163, e163, hx163_0, hx163_1, hx163_2⟩ := at_T23 HR0.out x6_1 p163 q163
                      cases e163
                      replace hx163_0 := (HB.out.cell (World.block_lt_of_cell? w _ hx163_0)).trans hx163_0
                      replace hx163_1 := (HB.out.cell (World.block_lt_of_cell? w _ hx163_1)).trans hx163_1
                      replace hx163_2 := (HB.out.cell (World.block_lt_of_cell? w _ hx163_2)).trans hx163_2
                      replace p163 := eq_true p163
                      replace q163 := eq_true q163
                      have hnb21 := NB156_157.out
                      have hnc21 := NB157_156.out
                      have hcz22_0 : w8.cell? ⟨gb156, 0, none⟩ = some (.string (⟨#[]⟩ : ByteArray)) := (blk_cell BK156.out 0).trans rfl
                      have hcz22_1 : w8.cell? ⟨gb156, 1, none⟩ = some (.string (⟨#[]⟩ : ByteArray)) := (blk_cell BK156.out 1).trans rfl
                      have hcz22_2 : w8.cell? ⟨gb156, 2, none⟩ = some (.bool false) := (blk_cell BK156.out 2).trans rfl
                      have hfz22_0 := blk_frozen BK156.out 0
                      have hfz22_1 := blk_frozen BK156.out 1
                      have hfz22_2 := blk_frozen BK156.out 2
                      go_wp2_with (first | ((with_reducible refine gate_callee (f := 27) rfl ?_); refine goesL_ (some 56) rfl rfl Tryd.func27 (by kernel_rfl) rfl #[.agg #[.string ((rd_T23 l0 x6_1).f0), .string ((rd_T23 l0 x6_1).f1), .bool ((rd_T23 l0 x6_1).f2)]] rfl (by (try simp only [List.map_toArray, List.map_cons, List.map_nil]); first | done | rfl | (simp only [List.length_drop, List.length_take]; rfl)) ?_; (with_reducible refine (spec_TokenNull.calls kj2 ((rd_T23 l0 x6_1).f0) ((rd_T23 l0 x6_1).f1) ((rd_T23 l0 x6_1).f2) t164 t165 t166 t167 _ A20.out).mono ?_); rintro e w23 ⟨rfl, hb⟩; refine ⟨_, rfl, ?_⟩; have n0_ := Aside0.mk (blk_below (g := gb156) (o := .cells #[.string ((rd_T23 l0 x6_1).f0), .string ((rd_T23 l0 x6_1).f1), .bool ((rd_T23 l0 x6_1).f2)] 23 (0, 0)) (by (with_reducible repeat (first | refine blk_drewN ?_ _ | refine blk_drew ?_ | refine blk_alloc ?_ _)); refine blk_put (cs := #[.string ((rd_T23 l0 x6_1).f0), .string ((rd_T23 l0 x6_1).f1), .bool false]) ?_ 2 _ rfl; (with_reducible repeat (first | refine blk_drewN ?_ _ | refine blk_drew ?_ | refine blk_alloc ?_ _)); refine blk_put (cs := #[.string ((rd_T23 l0 x6_1).f0), .string (⟨#[]⟩ : ByteArray), .bool false]) ?_ 1 _ rfl; (with_reducible repeat (first | refine blk_drewN ?_ _ | refine blk_drew ?_ | refine blk_alloc ?_ _)); refine blk_put (cs := #[.string (⟨#[]⟩ : ByteArray), .string (⟨#[]⟩ : ByteArray), .bool false]) ?_ 0 _ rfl; (with_reducible repeat (first | refine blk_drewN ?_ _ | refine blk_drew ?_ | refine blk_alloc ?_ _)); exact BK156.out) hb); have n1_ := Aside0.mk (blk_below (g := gb157) (o := .cells #[.string (⟨#[]⟩ : ByteArray), .string (⟨#[]⟩ : ByteArray), .bool false] 23 (0, 0)) (by (with_reducible repeat (first | refine blk_drewN ?_ _ | refine blk_drew ?_ | refine blk_alloc ?_ _)); refine blk_far ?_ NB157_156.out _; (with_reducible repeat (first | refine blk_drewN ?_ _ | refine blk_drew ?_ | refine blk_alloc ?_ _)); refine blk_far ?_ NB157_156.out _; (with_reducible repeat (first | refine blk_drewN ?_ _ | refine blk_drew ?_ | refine blk_alloc ?_ _)); refine blk_far ?_ NB157_156.out _; (with_reducible repeat (first | refine blk_drewN ?_ _ | refine blk_drew ?_ | refine blk_alloc ?_ _)); exact BK157.out) hb); have n2_ := Aside0.mk (below_step (by repeat (first | (with_reducible first | exact HB.out | apply below_alloc | apply pw_below_drewN | apply below_drew1 | refine below_set ?_ GE156.out | refine below_set ?_ GE157.out) | exact HB.out)) hb); clear BK156; clear BK157; clear HB; have BK156 := n0_; have BK157 := n1_; have HB := n2_; clear n0_ n1_ n2_; (try clear hb); (try clear hb2); (try clear hk); (try clear hi); have hcz24_0 : w23.cell? ⟨gb157, 0, none⟩ = some (.string (⟨#[]⟩ : ByteArray)) := (blk_cell BK157.out 0).trans rfl; have hcz24_1 : w23.cell? ⟨gb157, 1, none⟩ = some (.string (⟨#[]⟩ : ByteArray)) := (blk_cell BK157.out 1).trans rfl; have hcz24_2 : w23.cell? ⟨gb157, 2, none⟩ = some (.bool false) := (blk_cell BK157.out 2).trans rfl; have hfz24_0 := blk_frozen BK157.out 0; have hfz24_1 := blk_frozen BK157.out 1; have hfz24_2 := blk_frozen BK157.out 2))
                      go_meet
                      case rel => exact ⟨_, (t167), ((rd_T23 l0 x6_1).f0), ((rd_T23 l0 x6_1).f1), ((rd_T23 l0 x6_1).f2), (t164), (t165), (t166), (by first | rfl | (simp; done) | (simp [*]; done)), H', ⟨by have := HK1.out; have := HJ2.out; first | omega | exact Nat.le_refl _⟩, ⟨by (with_reducible repeat (first | refine blk_drewN ?_ _ | refine blk_drew ?_ | refine blk_alloc ?_ _)); refine blk_far ?_ NB156_157.out _; (with_reducible repeat (first | refine blk_drewN ?_ _ | refine blk_drew ?_ | refine blk_alloc ?_ _)); refine blk_far ?_ NB156_157.out _; (with_reducible repeat (first | refine blk_drewN ?_ _ | refine blk_drew ?_ | refine blk_alloc ?_ _)); refine blk_far ?_ NB156_157.out _; (with_reducible repeat (first | refine blk_drewN ?_ _ | refine blk_drew ?_ | refine blk_alloc ?_ _)); exact BK156.out⟩, ⟨by (with_reducible repeat (first | refine blk_drewN ?_ _ | refine blk_drew ?_ | refine blk_alloc ?_ _)); refine blk_put (cs := #[.string t164, .string t165, .bool false]) ?_ 2 _ rfl; (with_reducible repeat (first | refine blk_drewN ?_ _ | refine blk_drew ?_ | refine blk_alloc ?_ _)); refine blk_put (cs := #[.string t164, .string (⟨#[]⟩ : ByteArray), .bool false]) ?_ 1 _ rfl; (with_reducible repeat (first | refine blk_drewN ?_ _ | refine blk_drew ?_ | refine blk_alloc ?_ _)); refine blk_put (cs := #[.string (⟨#[]⟩ : ByteArray), .string (⟨#[]⟩ : ByteArray), .bool false]) ?_ 0 _ rfl; (with_reducible repeat (first | refine blk_drewN ?_ _ | refine blk_drew ?_ | refine blk_alloc ?_ _)); exact BK157.out⟩, ⟨by repeat (first | (with_reducible first | exact HB.out | apply below_alloc | apply pw_below_drewN | apply below_drew1 | refine below_set ?_ GE156.out | refine below_set ?_ GE157.out) | exact HB.out)⟩⟩
                    · rw [if_neg c19] at H
                      exact absurd H (by simp)
                  · rw [if_neg c18] at H
                    exact absurd H (by simp)
                · rw [if_neg c17] at H
                  have c17b0 : decide ((l1.length : Int) ≤ x6_1) = false := decide_eq_false c17
                  clear c17
                  by_cases c25 : 0 ≤ x6_1
                  · rw [if_pos c25] at H
                    have c25b0 : decide (0 ≤ x6_1) = true := decide_eq_true c25
                    clear c25
                    by_cases c26 : x6_1 < (l0.length : Int)
                    · rw [if_pos c26] at H
                      have c26b0 : decide (x6_1 < (l0.length : Int)) = true := decide_eq_true c26
                      clear c26
                      by_cases c27 : x6_1 < (l1.length : Int)
                      · rw [if_pos c27] at H
                        have c27b0 : decide (x6_1 < (l1.length : Int)) = true := decide_eq_true c27
                        clear c27
                        have H' := Aside0.mk H
                        clear H
                        try go_wp2
                        have n0_ := Aside0.mk (blk_drew BK156.out)
                        have n1_ := Aside0.mk (blk_drew BK157.out)
                        have n2_ := Aside0.mk (below_drew1 HB.out)
                        clear BK156
                        clear BK157
                        clear HB
                        have BK156 := n0_
                        have BK157 := n1_
                        have HB := n2_
                        clear n0_ n1_ n2_
                        have p168 : 0 ≤ (x6_1 : Int) := of_decide_eq_true (by first | (with_reducible assumption) | assumption)
                        have q168 : x6_1 < (l0.length : Int) := of_decide_eq_true (by first | (with_reducible assumption) | assumption)
                        obtain ⟨ad168, e168, hx168_0, hx168_1, hx168_2⟩ := at_T23 HR0.out x6_1 p168 q168
                        have hw168_2 := hx168_2
                        have hw168_1 := hx168_1
                        have hw168_0 := hx168_0
                        cases e168
                        replace hx168_0 := (HB.out.cell (World.block_lt_of_cell? w _ hx168_0)).trans hx168_0
                        replace hx168_1 := (HB.out.cell (World.block_lt_of_cell? w _ hx168_1)).trans hx168_1
                        replace hx168_2 := (HB.out.cell (World.block_lt_of_cell? w _ hx168_2)).trans hx168_2
                        replace p168 := eq_true p168
                        replace q168 := eq_true q168
                        have p169 : 0 ≤ (x6_1 : Int) := of_decide_eq_true (by first | (with_reducible assumption) | assumption)
                        have q169 : x6_1 < (l1.length : Int) := of_decide_eq_true (by first | (with_reducible assumption) | assumption)
                        obtain ⟨ad169, e169, hx169_0, hx169_1, hx169_2⟩ := at_T23 HR1.out x6_1 p169 q169
                        have hw169_2 := hx169_2
                        have hw169_1 := hx169_1
                        have hw169_0 := hx169_0
                        cases e169
                        replace hx169_0 := (HB.out.cell (World.block_lt_of_cell? w _ hx169_0)).trans hx169_0
                        replace hx169_1 := (HB.out.cell (World.block_lt_of_cell? w _ hx169_1)).trans hx169_1
                        replace hx169_2 := (HB.out.cell (World.block_lt_of_cell? w _ hx169_2)).trans hx169_2
                        replace p169 := eq_true p169
                        replace q169 := eq_true q169
                        refine start_ (n := 10) (S := fun w' => w'.cell? (ad168.add ((x6_1).toNat * 3)) = some (.string ((rd_T23 l0 x6_1).f0)) ∧ w'.cell? ⟨(ad168.add ((x6_1).toNat * 3)).block, (ad168.add ((x6_1).toNat * 3)).off + 1, none⟩ = some (.string ((rd_T23 l0 x6_1).f1)) ∧ w'.cell? ⟨(ad168.add ((x6_1).toNat * 3)).block, (ad168.add ((x6_1).toNat * 3)).off + 2, none⟩ = some (.bool ((rd_T23 l0 x6_1).f2)) ∧ w'.cell? (ad169.add ((x6_1).toNat * 3)) = some (.string ((rd_T23 l1 x6_1).f0)) ∧ w'.cell? ⟨(ad169.add ((x6_1).toNat * 3)).block, (ad169.add ((x6_1).toNat * 3)).off + 1, none⟩ = some (.string ((rd_T23 l1 x6_1).f1)) ∧ w'.cell? ⟨(ad169.add ((x6_1).toNat * 3)).block, (ad169.add ((x6_1).toNat * 3)).off + 2, none⟩ = some (.bool ((rd_T23 l1 x6_1).f2))) (ds := []) #[false, false, false, false, false, false, false, false, false, false] (by kernel_rfl) rfl rfl ⟨((HB.out.cell (World.block_lt_of_cell? w _ hw168_0)).trans hw168_0), ((HB.out.cell (World.block_lt_of_cell? w _ hw168_1)).trans hw168_1), ((HB.out.cell (World.block_lt_of_cell? w _ hw168_2)).trans hw168_2), ((HB.out.cell (World.block_lt_of_cell? w _ hw169_0)).trans hw169_0), ((HB.out.cell (World.block_lt_of_cell? w _ hw169_1)).trans hw169_1), ((HB.out.cell (World.block_lt_of_cell? w _ hw169_2)).trans hw169_2)⟩ (fun hHeld => ?_); refine with_tabW spec_MavenCompare.tab6 spec_MavenCompare.bits6 (fun HT_ HW_ => ?_)
                        generalize w8.drew = w28 at BK156 BK157 HB hx168_0 hx168_1 hx168_2 hx169_0 hx169_1 hx169_2 hHeld ⊢
                        refine pure_ (i := 0) (N := some 23) (v := ?_) (a' := ?_) #[true, false, false, false, false, false, false, false, false, false] rfl rfl (any_of HT_.out (by kernel_rfl)) (fun _ _ _ h => h) (Or.inl ⟨by rfl, ?_⟩) ?_ ?_
                        rotate_left
                        · intro w'
                          go_simp
                          with_reducible rfl
                        rotate_left
                        · simp only [Act.put, List.setIfInBounds_toArray, List.set_cons_zero, List.set_cons_succ, i64_w, i32_w]
                          rfl
                        refine pure_ (i := 1) (N := some 24) (v := ?_) (a' := ?_) #[true, true, false, false, false, false, false, false, false, false] rfl rfl (any_of HT_.out (by kernel_rfl)) (fun _ _ _ h => h) (Or.inl ⟨by rfl, ?_⟩) ?_ ?_
                        rotate_left
                        · intro w'
                          go_simp
                          with_reducible rfl
                        rotate_left
                        · simp only [Act.put, List.setIfInBounds_toArray, List.set_cons_zero, List.set_cons_succ, i64_w, i32_w]
                          rfl
                        refine pure_ (i := 2) (N := some 25) (v := ?_) (a' := ?_) #[true, true, true, false, false, false, false, false, false, false] rfl rfl (any_of HT_.out (by kernel_rfl)) (fun _ _ _ h => h) (Or.inl ⟨by rfl, ?_⟩) ?_ ?_
                        rotate_left
                        · intro w'
                          go_simp
                          with_reducible rfl
                        rotate_left
                        · simp only [Act.put, List.setIfInBounds_toArray, List.set_cons_zero, List.set_cons_succ, i64_w, i32_w]
                          rfl
                        refine pure_ (i := 4) (N := some 27) (v := ?_) (a' := ?_) #[true, true, true, false, true, false, false, false, false, false] rfl rfl (any_of HT_.out (by kernel_rfl)) (fun _ _ _ h => h) (Or.inl ⟨by rfl, ?_⟩) ?_ ?_
                        rotate_left
                        · intro w'
                          go_simp
                          with_reducible rfl
                        rotate_left
                        · simp only [Act.put, List.setIfInBounds_toArray, List.set_cons_zero, List.set_cons_succ, i64_w, i32_w]
                          rfl
                        refine pure_ (i := 5) (N := some 28) (v := ?_) (a' := ?_) #[true, true, true, false, true, true, false, false, false, false] rfl rfl (any_of HT_.out (by kernel_rfl)) (fun _ _ _ h => h) (Or.inl ⟨by rfl, ?_⟩) ?_ ?_
                        rotate_left
                        · intro w'
                          go_simp
                          with_reducible rfl
                        rotate_left
                        · simp only [Act.put, List.setIfInBounds_toArray, List.set_cons_zero, List.set_cons_succ, i64_w, i32_w]
                          rfl
                        refine pure_ (i := 6) (N := some 29) (v := ?_) (a' := ?_) #[true, true, true, false, true, true, true, false, false, false] rfl rfl (any_of HT_.out (by kernel_rfl)) (fun _ _ _ h => h) (Or.inl ⟨by rfl, ?_⟩) ?_ ?_
                        rotate_left
                        · intro w'
                          go_simp
                          with_reducible rfl
                        rotate_left
                        · simp only [Act.put, List.setIfInBounds_toArray, List.set_cons_zero, List.set_cons_succ, i64_w, i32_w]
                          rfl
                        refine take_ (i := 3) (N := some 26) (v := ?_) (a' := ?_) #[true, true, true, true, true, true, true, false, false, false] rfl rfl (take_ofW HT_.out HW_.out (by kernel_rfl)) (fun _ _ _ h => h) (Or.inl ⟨by rfl, ?_⟩) hHeld ?_ ?_
                        rotate_left
                        · rintro w' ⟨s0, s1, s2, s3, s4, s5⟩
                          go_simp
                          with_reducible rfl
                        rotate_left
                        · simp only [Act.put, List.setIfInBounds_toArray, List.set_cons_zero, List.set_cons_succ, i64_w, i32_w]
                          rfl
                        refine take_ (i := 7) (N := some 30) (v := ?_) (a' := ?_) #[true, true, true, true, true, true, true, true, false, false] rfl rfl (take_ofW HT_.out HW_.out (by kernel_rfl)) (fun _ _ _ h => h) (Or.inl ⟨by rfl, ?_⟩) hHeld ?_ ?_
                        rotate_left
                        · rintro w' ⟨s0, s1, s2, s3, s4, s5⟩
                          go_simp
                          with_reducible rfl
                        rotate_left
                        · simp only [Act.put, List.setIfInBounds_toArray, List.set_cons_zero, List.set_cons_succ, i64_w, i32_w]
                          rfl
                        refine one_ (i := 8) (N := none) #[true, true, true, true, true, true, true, true, true, false] rfl rfl (one_of HT_.out (by kernel_rfl)) (by decide) (fun K hK => ?_)
                        have hs29 : w28.cell? ⟨gb156, 0, none⟩ = some (.string (⟨#[]⟩ : ByteArray)) := (blk_cell BK156.out 0).trans rfl
                        have hfs29 := blk_frozen BK156.out 0
                        have hns29_1 := NB157_156.out
                        have hms29_1 := NB156_157.out
                        have hs30 : w28.cell? ⟨gb156, 1, none⟩ = some (.string (⟨#[]⟩ : ByteArray)) := (blk_cell BK156.out 1).trans rfl
                        have hfs30 := blk_frozen BK156.out 1
                        have hns30_1 := NB157_156.out
                        have hms30_1 := NB156_157.out
                        have hs31 : w28.cell? ⟨gb156, 2, none⟩ = some (.bool false) := (blk_cell BK156.out 2).trans rfl
                        have hfs31 := blk_frozen BK156.out 2
                        have hns31_1 := NB157_156.out
                        have hms31_1 := NB156_157.out
                        refine skip_ (w1 := ?_) (by rfl) rfl ?_ ?_
                        rotate_left
                        · go_simp
                          rfl
                        refine hK.out _ _ ⟨((cell_far (p := ⟨gb156, _, none⟩) (by first | exact Nat.ne_of_lt (Nat.lt_of_lt_of_le (by have := World.block_lt_of_cell? _ _ hw168_0; first | rwa [add_block] at this | exact this) GW156.out) | (rw [add_block]; exact Nat.ne_of_lt (Nat.lt_of_lt_of_le (by have := World.block_lt_of_cell? _ _ hw168_0; first | rwa [add_block] at this | exact this) GW156.out)) | (show (Addr.add _ _).block ≠ _; rw [add_block]; exact Nat.ne_of_lt (Nat.lt_of_lt_of_le (by have := World.block_lt_of_cell? _ _ hw168_0; first | rwa [add_block] at this | exact this) GW156.out)) | (dsimp only; exact Nat.ne_of_lt (Nat.lt_of_lt_of_le (by have := World.block_lt_of_cell? _ _ hw168_0; first | rwa [add_block] at this | exact this) GW156.out))) _).trans (((cell_far (p := ⟨gb156, _, none⟩) (by first | exact Nat.ne_of_lt (Nat.lt_of_lt_of_le (by have := World.block_lt_of_cell? _ _ hw168_0; first | rwa [add_block] at this | exact this) GW156.out) | (rw [add_block]; exact Nat.ne_of_lt (Nat.lt_of_lt_of_le (by have := World.block_lt_of_cell? _ _ hw168_0; first | rwa [add_block] at this | exact this) GW156.out)) | (show (Addr.add _ _).block ≠ _; rw [add_block]; exact Nat.ne_of_lt (Nat.lt_of_lt_of_le (by have := World.block_lt_of_cell? _ _ hw168_0; first | rwa [add_block] at this | exact this) GW156.out)) | (dsimp only; exact Nat.ne_of_lt (Nat.lt_of_lt_of_le (by have := World.block_lt_of_cell? _ _ hw168_0; first | rwa [add_block] at this | exact this) GW156.out))) _).trans (((cell_far (p := ⟨gb156, _, none⟩) (by first | exact Nat.ne_of_lt (Nat.lt_of_lt_of_le (by have := World.block_lt_of_cell? _ _ hw168_0; first | rwa [add_block] at this | exact this) GW156.out) | (rw [add_block]; exact Nat.ne_of_lt (Nat.lt_of_lt_of_le (by have := World.block_lt_of_cell? _ _ hw168_0; first | rwa [add_block] at this | exact this) GW156.out)) | (show (Addr.add _ _).block ≠ _; rw [add_block]; exact Nat.ne_of_lt (Nat.lt_of_lt_of_le (by have := World.block_lt_of_cell? _ _ hw168_0; first | rwa [add_block] at this | exact this) GW156.out)) | (dsimp only; exact Nat.ne_of_lt (Nat.lt_of_lt_of_le (by have := World.block_lt_of_cell? _ _ hw168_0; first | rwa [add_block] at this | exact this) GW156.out))) _).trans (hHeld.1)))))), ((cell_far (p := ⟨gb156, _, none⟩) (by first | exact Nat.ne_of_lt (Nat.lt_of_lt_of_le (by have := World.block_lt_of_cell? _ _ hw168_1; first | rwa [add_block] at this | exact this) GW156.out) | (rw [add_block]; exact Nat.ne_of_lt (Nat.lt_of_lt_of_le (by have := World.block_lt_of_cell? _ _ hw168_1; first | rwa [add_block] at this | exact this) GW156.out)) | (show (Addr.add _ _).block ≠ _; rw [add_block]; exact Nat.ne_of_lt (Nat.lt_of_lt_of_le (by have := World.block_lt_of_cell? _ _ hw168_1; first | rwa [add_block] at this | exact this) GW156.out)) | (dsimp only; exact Nat.ne_of_lt (Nat.lt_of_lt_of_le (by have := World.block_lt_of_cell? _ _ hw168_1; first | rwa [add_block] at this | exact this) GW156.out))) _).trans (((cell_far (p := ⟨gb156, _, none⟩) (by first | exact Nat.ne_of_lt (Nat.lt_of_lt_of_le (by have := World.block_lt_of_cell? _ _ hw168_1; first | rwa [add_block] at this | exact this) GW156.out) | (rw [add_block]; exact Nat.ne_of_lt (Nat.lt_of_lt_of_le (by have := World.block_lt_of_cell? _ _ hw168_1; first | rwa [add_block] at this | exact this) GW156.out)) | (show (Addr.add _ _).block ≠ _; rw [add_block]; exact Nat.ne_of_lt (Nat.lt_of_lt_of_le (by have := World.block_lt_of_cell? _ _ hw168_1; first | rwa [add_block] at this | exact this) GW156.out)) | (dsimp only; exact Nat.ne_of_lt (Nat.lt_of_lt_of_le (by have := World.block_lt_of_cell? _ _ hw168_1; first | rwa [add_block] at this | exact this) GW156.out))) _).trans (((cell_far (p := ⟨gb156, _, none⟩) (by first | exact Nat.ne_of_lt (Nat.lt_of_lt_of_le (by have := World.block_lt_of_cell? _ _ hw168_1; first | rwa [add_block] at this | exact this) GW156.out) | (rw [add_block]; exact Nat.ne_of_lt (Nat.lt_of_lt_of_le (by have := World.block_lt_of_cell? _ _ hw168_1; first | rwa [add_block] at this | exact this) GW156.out)) | (show (Addr.add _ _).block ≠ _; rw [add_block]; exact Nat.ne_of_lt (Nat.lt_of_lt_of_le (by have := World.block_lt_of_cell? _ _ hw168_1; first | rwa [add_block] at this | exact this) GW156.out)) | (dsimp only; exact Nat.ne_of_lt (Nat.lt_of_lt_of_le (by have := World.block_lt_of_cell? _ _ hw168_1; first | rwa [add_block] at this | exact this) GW156.out))) _).trans (hHeld.2.1)))))), ((cell_far (p := ⟨gb156, _, none⟩) (by first | exact Nat.ne_of_lt (Nat.lt_of_lt_of_le (by have := World.block_lt_of_cell? _ _ hw168_2; first | rwa [add_block] at this | exact this) GW156.out) | (rw [add_block]; exact Nat.ne_of_lt (Nat.lt_of_lt_of_le (by have := World.block_lt_of_cell? _ _ hw168_2; first | rwa [add_block] at this | exact this) GW156.out)) | (show (Addr.add _ _).block ≠ _; rw [add_block]; exact Nat.ne_of_lt (Nat.lt_of_lt_of_le (by have := World.block_lt_of_cell? _ _ hw168_2; first | rwa [add_block] at this | exact this) GW156.out)) | (dsimp only; exact Nat.ne_of_lt (Nat.lt_of_lt_of_le (by have := World.block_lt_of_cell? _ _ hw168_2; first | rwa [add_block] at this | exact this) GW156.out))) _).trans (((cell_far (p := ⟨gb156, _, none⟩) (by first | exact Nat.ne_of_lt (Nat.lt_of_lt_of_le (by have := World.block_lt_of_cell? _ _ hw168_2; first | rwa [add_block] at this | exact this) GW156.out) | (rw [add_block]; exact Nat.ne_of_lt (Nat.lt_of_lt_of_le (by have := World.block_lt_of_cell? _ _ hw168_2; first | rwa [add_block] at this | exact this) GW156.out)) | (show (Addr.add _ _).block ≠ _; rw [add_block]; exact Nat.ne_of_lt (Nat.lt_of_lt_of_le (by have := World.block_lt_of_cell? _ _ hw168_2; first | rwa [add_block] at this | exact this) GW156.out)) | (dsimp only; exact Nat.ne_of_lt (Nat.lt_of_lt_of_le (by have := World.block_lt_of_cell? _ _ hw168_2; first | rwa [add_block] at this | exact this) GW156.out))) _).trans (((cell_far (p := ⟨gb156, _, none⟩) (by first | exact Nat.ne_of_lt (Nat.lt_of_lt_of_le (by have := World.block_lt_of_cell? _ _ hw168_2; first | rwa [add_block] at this | exact this) GW156.out) | (rw [add_block]; exact Nat.ne_of_lt (Nat.lt_of_lt_of_le (by have := World.block_lt_of_cell? _ _ hw168_2; first | rwa [add_block] at this | exact this) GW156.out)) | (show (Addr.add _ _).block ≠ _; rw [add_block]; exact Nat.ne_of_lt (Nat.lt_of_lt_of_le (by have := World.block_lt_of_cell? _ _ hw168_2; first | rwa [add_block] at this | exact this) GW156.out)) | (dsimp only; exact Nat.ne_of_lt (Nat.lt_of_lt_of_le (by have := World.block_lt_of_cell? _ _ hw168_2; first | rwa [add_block] at this | exact this) GW156.out))) _).trans (hHeld.2.2.1)))))), ((cell_far (p := ⟨gb156, _, none⟩) (by first | exact Nat.ne_of_lt (Nat.lt_of_lt_of_le (by have := World.block_lt_of_cell? _ _ hw169_0; first | rwa [add_block] at this | exact this) GW156.out) | (rw [add_block]; exact Nat.ne_of_lt (Nat.lt_of_lt_of_le (by have := World.block_lt_of_cell? _ _ hw169_0; first | rwa [add_block] at this | exact this) GW156.out)) | (show (Addr.add _ _).block ≠ _; rw [add_block]; exact Nat.ne_of_lt (Nat.lt_of_lt_of_le (by have := World.block_lt_of_cell? _ _ hw169_0; first | rwa [add_block] at this | exact this) GW156.out)) | (dsimp only; exact Nat.ne_of_lt (Nat.lt_of_lt_of_le (by have := World.block_lt_of_cell? _ _ hw169_0; first | rwa [add_block] at this | exact this) GW156.out))) _).trans (((cell_far (p := ⟨gb156, _, none⟩) (by first | exact Nat.ne_of_lt (Nat.lt_of_lt_of_le (by have := World.block_lt_of_cell? _ _ hw169_0; first | rwa [add_block] at this | exact this) GW156.out) | (rw [add_block]; exact Nat.ne_of_lt (Nat.lt_of_lt_of_le (by have := World.block_lt_of_cell? _ _ hw169_0; first | rwa [add_block] at this | exact this) GW156.out)) | (show (Addr.add _ _).block ≠ _; rw [add_block]; exact Nat.ne_of_lt (Nat.lt_of_lt_of_le (by have := World.block_lt_of_cell? _ _ hw169_0; first | rwa [add_block] at this | exact this) GW156.out)) | (dsimp only; exact Nat.ne_of_lt (Nat.lt_of_lt_of_le (by have := World.block_lt_of_cell? _ _ hw169_0; first | rwa [add_block] at this | exact this) GW156.out))) _).trans (((cell_far (p := ⟨gb156, _, none⟩) (by first | exact Nat.ne_of_lt (Nat.lt_of_lt_of_le (by have := World.block_lt_of_cell? _ _ hw169_0; first | rwa [add_block] at this | exact this) GW156.out) | (rw [add_block]; exact Nat.ne_of_lt (Nat.lt_of_lt_of_le (by have := World.block_lt_of_cell? _ _ hw169_0; first | rwa [add_block] at this | exact this) GW156.out)) | (show (Addr.add _ _).block ≠ _; rw [add_block]; exact Nat.ne_of_lt (Nat.lt_of_lt_of_le (by have := World.block_lt_of_cell? _ _ hw169_0; first | rwa [add_block] at this | exact this) GW156.out)) | (dsimp only; exact Nat.ne_of_lt (Nat.lt_of_lt_of_le (by have := World.block_lt_of_cell? _ _ hw169_0; first | rwa [add_block] at this | exact this) GW156.out))) _).trans (hHeld.2.2.2.1)))))), ((cell_far (p := ⟨gb156, _, none⟩) (by first | exact Nat.ne_of_lt (Nat.lt_of_lt_of_le (by have := World.block_lt_of_cell? _ _ hw169_1; first | rwa [add_block] at this | exact this) GW156.out) | (rw [add_block]; exact Nat.ne_of_lt (Nat.lt_of_lt_of_le (by have := World.block_lt_of_cell? _ _ hw169_1; first | rwa [add_block] at this | exact this) GW156.out)) | (show (Addr.add _ _).block ≠ _; rw [add_block]; exact Nat.ne_of_lt (Nat.lt_of_lt_of_le (by have := World.block_lt_of_cell? _ _ hw169_1; first | rwa [add_block] at this | exact this) GW156.out)) | (dsimp only; exact Nat.ne_of_lt (Nat.lt_of_lt_of_le (by have := World.block_lt_of_cell? _ _ hw169_1; first | rwa [add_block] at this | exact this) GW156.out))) _).trans (((cell_far (p := ⟨gb156, _, none⟩) (by first | exact Nat.ne_of_lt (Nat.lt_of_lt_of_le (by have := World.block_lt_of_cell? _ _ hw169_1; first | rwa [add_block] at this | exact this) GW156.out) | (rw [add_block]; exact Nat.ne_of_lt (Nat.lt_of_lt_of_le (by have := World.block_lt_of_cell? _ _ hw169_1; first | rwa [add_block] at this | exact this) GW156.out)) | (show (Addr.add _ _).block ≠ _; rw [add_block]; exact Nat.ne_of_lt (Nat.lt_of_lt_of_le (by have := World.block_lt_of_cell? _ _ hw169_1; first | rwa [add_block] at this | exact this) GW156.out)) | (dsimp only; exact Nat.ne_of_lt (Nat.lt_of_lt_of_le (by have := World.block_lt_of_cell? _ _ hw169_1; first | rwa [add_block] at this | exact this) GW156.out))) _).trans (((cell_far (p := ⟨gb156, _, none⟩) (by first | exact Nat.ne_of_lt (Nat.lt_of_lt_of_le (by have := World.block_lt_of_cell? _ _ hw169_1; first | rwa [add_block] at this | exact this) GW156.out) | (rw [add_block]; exact Nat.ne_of_lt (Nat.lt_of_lt_of_le (by have := World.block_lt_of_cell? _ _ hw169_1; first | rwa [add_block] at this | exact this) GW156.out)) | (show (Addr.add _ _).block ≠ _; rw [add_block]; exact Nat.ne_of_lt (Nat.lt_of_lt_of_le (by have := World.block_lt_of_cell? _ _ hw169_1; first | rwa [add_block] at this | exact this) GW156.out)) | (dsimp only; exact Nat.ne_of_lt (Nat.lt_of_lt_of_le (by have := World.block_lt_of_cell? _ _ hw169_1; first | rwa [add_block] at this | exact this) GW156.out))) _).trans (hHeld.2.2.2.2.1)))))), ((cell_far (p := ⟨gb156, _, none⟩) (by first | exact Nat.ne_of_lt (Nat.lt_of_lt_of_le (by have := World.block_lt_of_cell? _ _ hw169_2; first | rwa [add_block] at this | exact this) GW156.out) | (rw [add_block]; exact Nat.ne_of_lt (Nat.lt_of_lt_of_le (by have := World.block_lt_of_cell? _ _ hw169_2; first | rwa [add_block] at this | exact this) GW156.out)) | (show (Addr.add _ _).block ≠ _; rw [add_block]; exact Nat.ne_of_lt (Nat.lt_of_lt_of_le (by have := World.block_lt_of_cell? _ _ hw169_2; first | rwa [add_block] at this | exact this) GW156.out)) | (dsimp only; exact Nat.ne_of_lt (Nat.lt_of_lt_of_le (by have := World.block_lt_of_cell? _ _ hw169_2; first | rwa [add_block] at this | exact this) GW156.out))) _).trans (((cell_far (p := ⟨gb156, _, none⟩) (by first | exact Nat.ne_of_lt (Nat.lt_of_lt_of_le (by have := World.block_lt_of_cell? _ _ hw169_2; first | rwa [add_block] at this | exact this) GW156.out) | (rw [add_block]; exact Nat.ne_of_lt (Nat.lt_of_lt_of_le (by have := World.block_lt_of_cell? _ _ hw169_2; first | rwa [add_block] at this | exact this) GW156.out)) | (show (Addr.add _ _).block ≠ _; rw [add_block]; exact Nat.ne_of_lt (Nat.lt_of_lt_of_le (by have := World.block_lt_of_cell? _ _ hw169_2; first | rwa [add_block] at this | exact this) GW156.out)) | (dsimp only; exact Nat.ne_of_lt (Nat.lt_of_lt_of_le (by have := World.block_lt_of_cell? _ _ hw169_2; first | rwa [add_block] at this | exact this) GW156.out))) _).trans (((cell_far (p := ⟨gb156, _, none⟩) (by first | exact Nat.ne_of_lt (Nat.lt_of_lt_of_le (by have := World.block_lt_of_cell? _ _ hw169_2; first | rwa [add_block] at this | exact this) GW156.out) | (rw [add_block]; exact Nat.ne_of_lt (Nat.lt_of_lt_of_le (by have := World.block_lt_of_cell? _ _ hw169_2; first | rwa [add_block] at this | exact this) GW156.out)) | (show (Addr.add _ _).block ≠ _; rw [add_block]; exact Nat.ne_of_lt (Nat.lt_of_lt_of_le (by have := World.block_lt_of_cell? _ _ hw169_2; first | rwa [add_block] at this | exact this) GW156.out)) | (dsimp only; exact Nat.ne_of_lt (Nat.lt_of_lt_of_le (by have := World.block_lt_of_cell? _ _ hw169_2; first | rwa [add_block] at this | exact this) GW156.out))) _).trans (hHeld.2.2.2.2.2))))))⟩ (fun hHeld => ?_)
                        clear hK K
                        refine one_ (i := 9) (N := none) #[true, true, true, true, true, true, true, true, true, true] rfl rfl (one_of HT_.out (by kernel_rfl)) (by decide) (fun K hK => ?_)
                        have hs32 : w28.cell? ⟨gb157, 0, none⟩ = some (.string (⟨#[]⟩ : ByteArray)) := (blk_cell BK157.out 0).trans rfl
                        have hfs32 := blk_frozen BK157.out 0
                        have hns32_0 := NB156_157.out
                        have hms32_0 := NB157_156.out
                        have hs33 : w28.cell? ⟨gb157, 1, none⟩ = some (.string (⟨#[]⟩ : ByteArray)) := (blk_cell BK157.out 1).trans rfl
                        have hfs33 := blk_frozen BK157.out 1
                        have hns33_0 := NB156_157.out
                        have hms33_0 := NB157_156.out
                        have hs34 : w28.cell? ⟨gb157, 2, none⟩ = some (.bool false) := (blk_cell BK157.out 2).trans rfl
                        have hfs34 := blk_frozen BK157.out 2
                        have hns34_0 := NB156_157.out
                        have hms34_0 := NB157_156.out
                        refine skip_ (w1 := ?_) (by rfl) rfl ?_ ?_
                        rotate_left
                        · go_simp
                          rfl
                        refine hK.out _ _ ⟨((cell_far (p := ⟨gb157, _, none⟩) (by first | exact Nat.ne_of_lt (Nat.lt_of_lt_of_le (by have := World.block_lt_of_cell? _ _ hw168_0; first | rwa [add_block] at this | exact this) GW157.out) | (rw [add_block]; exact Nat.ne_of_lt (Nat.lt_of_lt_of_le (by have := World.block_lt_of_cell? _ _ hw168_0; first | rwa [add_block] at this | exact this) GW157.out)) | (show (Addr.add _ _).block ≠ _; rw [add_block]; exact Nat.ne_of_lt (Nat.lt_of_lt_of_le (by have := World.block_lt_of_cell? _ _ hw168_0; first | rwa [add_block] at this | exact this) GW157.out)) | (dsimp only; exact Nat.ne_of_lt (Nat.lt_of_lt_of_le (by have := World.block_lt_of_cell? _ _ hw168_0; first | rwa [add_block] at this | exact this) GW157.out))) _).trans (((cell_far (p := ⟨gb157, _, none⟩) (by first | exact Nat.ne_of_lt (Nat.lt_of_lt_of_le (by have := World.block_lt_of_cell? _ _ hw168_0; first | rwa [add_block] at this | exact this) GW157.out) | (rw [add_block]; exact Nat.ne_of_lt (Nat.lt_of_lt_of_le (by have := World.block_lt_of_cell? _ _ hw168_0; first | rwa [add_block] at this | exact this) GW157.out)) | (show (Addr.add _ _).block ≠ _; rw [add_block]; exact Nat.ne_of_lt (Nat.lt_of_lt_of_le (by have := World.block_lt_of_cell? _ _ hw168_0; first | rwa [add_block] at this | exact this) GW157.out)) | (dsimp only; exact Nat.ne_of_lt (Nat.lt_of_lt_of_le (by have := World.block_lt_of_cell? _ _ hw168_0; first | rwa [add_block] at this | exact this) GW157.out))) _).trans (((cell_far (p := ⟨gb157, _, none⟩) (by first | exact Nat.ne_of_lt (Nat.lt_of_lt_of_le (by have := World.block_lt_of_cell? _ _ hw168_0; first | rwa [add_block] at this | exact this) GW157.out) | (rw [add_block]; exact Nat.ne_of_lt (Nat.lt_of_lt_of_le (by have := World.block_lt_of_cell? _ _ hw168_0; first | rwa [add_block] at this | exact this) GW157.out)) | (show (Addr.add _ _).block ≠ _; rw [add_block]; exact Nat.ne_of_lt (Nat.lt_of_lt_of_le (by have := World.block_lt_of_cell? _ _ hw168_0; first | rwa [add_block] at this | exact this) GW157.out)) | (dsimp only; exact Nat.ne_of_lt (Nat.lt_of_lt_of_le (by have := World.block_lt_of_cell? _ _ hw168_0; first | rwa [add_block] at this | exact this) GW157.out))) _).trans (hHeld.1)))))), ((cell_far (p := ⟨gb157, _, none⟩) (by first | exact Nat.ne_of_lt (Nat.lt_of_lt_of_le (by have := World.block_lt_of_cell? _ _ hw168_1; first | rwa [add_block] at this | exact this) GW157.out) | (rw [add_block]; exact Nat.ne_of_lt (Nat.lt_of_lt_of_le (by have := World.block_lt_of_cell? _ _ hw168_1; first | rwa [add_block] at this | exact this) GW157.out)) | (show (Addr.add _ _).block ≠ _; rw [add_block]; exact Nat.ne_of_lt (Nat.lt_of_lt_of_le (by have := World.block_lt_of_cell? _ _ hw168_1; first | rwa [add_block] at this | exact this) GW157.out)) | (dsimp only; exact Nat.ne_of_lt (Nat.lt_of_lt_of_le (by have := World.block_lt_of_cell? _ _ hw168_1; first | rwa [add_block] at this | exact this) GW157.out))) _).trans (((cell_far (p := ⟨gb157, _, none⟩) (by first | exact Nat.ne_of_lt (Nat.lt_of_lt_of_le (by have := World.block_lt_of_cell? _ _ hw168_1; first | rwa [add_block] at this | exact this) GW157.out) | (rw [add_block]; exact Nat.ne_of_lt (Nat.lt_of_lt_of_le (by have := World.block_lt_of_cell? _ _ hw168_1; first | rwa [add_block] at this | exact this) GW157.out)) | (show (Addr.add _ _).block ≠ _; rw [add_block]; exact Nat.ne_of_lt (Nat.lt_of_lt_of_le (by have := World.block_lt_of_cell? _ _ hw168_1; first | rwa [add_block] at this | exact this) GW157.out)) | (dsimp only; exact Nat.ne_of_lt (Nat.lt_of_lt_of_le (by have := World.block_lt_of_cell? _ _ hw168_1; first | rwa [add_block] at this | exact this) GW157.out))) _).trans (((cell_far (p := ⟨gb157, _, none⟩) (by first | exact Nat.ne_of_lt (Nat.lt_of_lt_of_le (by have := World.block_lt_of_cell? _ _ hw168_1; first | rwa [add_block] at this | exact this) GW157.out) | (rw [add_block]; exact Nat.ne_of_lt (Nat.lt_of_lt_of_le (by have := World.block_lt_of_cell? _ _ hw168_1; first | rwa [add_block] at this | exact this) GW157.out)) | (show (Addr.add _ _).block ≠ _; rw [add_block]; exact Nat.ne_of_lt (Nat.lt_of_lt_of_le (by have := World.block_lt_of_cell? _ _ hw168_1; first | rwa [add_block] at this | exact this) GW157.out)) | (dsimp only; exact Nat.ne_of_lt (Nat.lt_of_lt_of_le (by have := World.block_lt_of_cell? _ _ hw168_1; first | rwa [add_block] at this | exact this) GW157.out))) _).trans (hHeld.2.1)))))), ((cell_far (p := ⟨gb157, _, none⟩) (by first | exact Nat.ne_of_lt (Nat.lt_of_lt_of_le (by have := World.block_lt_of_cell? _ _ hw168_2; first | rwa [add_block] at this | exact this) GW157.out) | (rw [add_block]; exact Nat.ne_of_lt (Nat.lt_of_lt_of_le (by have := World.block_lt_of_cell? _ _ hw168_2; first | rwa [add_block] at this | exact this) GW157.out)) | (show (Addr.add _ _).block ≠ _; rw [add_block]; exact Nat.ne_of_lt (Nat.lt_of_lt_of_le (by have := World.block_lt_of_cell? _ _ hw168_2; first | rwa [add_block] at this | exact this) GW157.out)) | (dsimp only; exact Nat.ne_of_lt (Nat.lt_of_lt_of_le (by have := World.block_lt_of_cell? _ _ hw168_2; first | rwa [add_block] at this | exact this) GW157.out))) _).trans (((cell_far (p := ⟨gb157, _, none⟩) (by first | exact Nat.ne_of_lt (Nat.lt_of_lt_of_le (by have := World.block_lt_of_cell? _ _ hw168_2; first | rwa [add_block] at this | exact this) GW157.out) | (rw [add_block]; exact Nat.ne_of_lt (Nat.lt_of_lt_of_le (by have := World.block_lt_of_cell? _ _ hw168_2; first | rwa [add_block] at this | exact this) GW157.out)) | (show (Addr.add _ _).block ≠ _; rw [add_block]; exact Nat.ne_of_lt (Nat.lt_of_lt_of_le (by have := World.block_lt_of_cell? _ _ hw168_2; first | rwa [add_block] at this | exact this) GW157.out)) | (dsimp only; exact Nat.ne_of_lt (Nat.lt_of_lt_of_le (by have := World.block_lt_of_cell? _ _ hw168_2; first | rwa [add_block] at this | exact this) GW157.out))) _).trans (((cell_far (p := ⟨gb157, _, none⟩) (by first | exact Nat.ne_of_lt (Nat.lt_of_lt_of_le (by have := World.block_lt_of_cell? _ _ hw168_2; first | rwa [add_block] at this | exact this) GW157.out) | (rw [add_block]; exact Nat.ne_of_lt (Nat.lt_of_lt_of_le (by have := World.block_lt_of_cell? _ _ hw168_2; first | rwa [add_block] at this | exact this) GW157.out)) | (show (Addr.add _ _).block ≠ _; rw [add_block]; exact Nat.ne_of_lt (Nat.lt_of_lt_of_le (by have := World.block_lt_of_cell? _ _ hw168_2; first | rwa [add_block] at this | exact this) GW157.out)) | (dsimp only; exact Nat.ne_of_lt (Nat.lt_of_lt_of_le (by have := World.block_lt_of_cell? _ _ hw168_2; first | rwa [add_block] at this | exact this) GW157.out))) _).trans (hHeld.2.2.1)))))), ((cell_far (p := ⟨gb157, _, none⟩) (by first | exact Nat.ne_of_lt (Nat.lt_of_lt_of_le (by have := World.block_lt_of_cell? _ _ hw169_0; first | rwa [add_block] at this | exact this) GW157.out) | (rw [add_block]; exact Nat.ne_of_lt (Nat.lt_of_lt_of_le (by have := World.block_lt_of_cell? _ _ hw169_0; first | rwa [add_block] at this | exact this) GW157.out)) | (show (Addr.add _ _).block ≠ _; rw [add_block]; exact Nat.ne_of_lt (Nat.lt_of_lt_of_le (by have := World.block_lt_of_cell? _ _ hw169_0; first | rwa [add_block] at this | exact this) GW157.out)) | (dsimp only; exact Nat.ne_of_lt (Nat.lt_of_lt_of_le (by have := World.block_lt_of_cell? _ _ hw169_0; first | rwa [add_block] at this | exact this) GW157.out))) _).trans (((cell_far (p := ⟨gb157, _, none⟩) (by first | exact Nat.ne_of_lt (Nat.lt_of_lt_of_le (by have := World.block_lt_of_cell? _ _ hw169_0; first | rwa [add_block] at this | exact this) GW157.out) | (rw [add_block]; exact Nat.ne_of_lt (Nat.lt_of_lt_of_le (by have := World.block_lt_of_cell? _ _ hw169_0; first | rwa [add_block] at this | exact this) GW157.out)) | (show (Addr.add _ _).block ≠ _; rw [add_block]; exact Nat.ne_of_lt (Nat.lt_of_lt_of_le (by have := World.block_lt_of_cell? _ _ hw169_0; first | rwa [add_block] at this | exact this) GW157.out)) | (dsimp only; exact Nat.ne_of_lt (Nat.lt_of_lt_of_le (by have := World.block_lt_of_cell? _ _ hw169_0; first | rwa [add_block] at this | exact this) GW157.out))) _).trans (((cell_far (p := ⟨gb157, _, none⟩) (by first | exact Nat.ne_of_lt (Nat.lt_of_lt_of_le (by have := World.block_lt_of_cell? _ _ hw169_0; first | rwa [add_block] at this | exact this) GW157.out) | (rw [add_block]; exact Nat.ne_of_lt (Nat.lt_of_lt_of_le (by have := World.block_lt_of_cell? _ _ hw169_0; first | rwa [add_block] at this | exact this) GW157.out)) | (show (Addr.add _ _).block ≠ _; rw [add_block]; exact Nat.ne_of_lt (Nat.lt_of_lt_of_le (by have := World.block_lt_of_cell? _ _ hw169_0; first | rwa [add_block] at this | exact this) GW157.out)) | (dsimp only; exact Nat.ne_of_lt (Nat.lt_of_lt_of_le (by have := World.block_lt_of_cell? _ _ hw169_0; first | rwa [add_block] at this | exact this) GW157.out))) _).trans (hHeld.2.2.2.1)))))), ((cell_far (p := ⟨gb157, _, none⟩) (by first | exact Nat.ne_of_lt (Nat.lt_of_lt_of_le (by have := World.block_lt_of_cell? _ _ hw169_1; first | rwa [add_block] at this | exact this) GW157.out) | (rw [add_block]; exact Nat.ne_of_lt (Nat.lt_of_lt_of_le (by have := World.block_lt_of_cell? _ _ hw169_1; first | rwa [add_block] at this | exact this) GW157.out)) | (show (Addr.add _ _).block ≠ _; rw [add_block]; exact Nat.ne_of_lt (Nat.lt_of_lt_of_le (by have := World.block_lt_of_cell? _ _ hw169_1; first | rwa [add_block] at this | exact this) GW157.out)) | (dsimp only; exact Nat.ne_of_lt (Nat.lt_of_lt_of_le (by have := World.block_lt_of_cell? _ _ hw169_1; first | rwa [add_block] at this | exact this) GW157.out))) _).trans (((cell_far (p := ⟨gb157, _, none⟩) (by first | exact Nat.ne_of_lt (Nat.lt_of_lt_of_le (by have := World.block_lt_of_cell? _ _ hw169_1; first | rwa [add_block] at this | exact this) GW157.out) | (rw [add_block]; exact Nat.ne_of_lt (Nat.lt_of_lt_of_le (by have := World.block_lt_of_cell? _ _ hw169_1; first | rwa [add_block] at this | exact this) GW157.out)) | (show (Addr.add _ _).block ≠ _; rw [add_block]; exact Nat.ne_of_lt (Nat.lt_of_lt_of_le (by have := World.block_lt_of_cell? _ _ hw169_1; first | rwa [add_block] at this | exact this) GW157.out)) | (dsimp only; exact Nat.ne_of_lt (Nat.lt_of_lt_of_le (by have := World.block_lt_of_cell? _ _ hw169_1; first | rwa [add_block] at this | exact this) GW157.out))) _).trans (((cell_far (p := ⟨gb157, _, none⟩) (by first | exact Nat.ne_of_lt (Nat.lt_of_lt_of_le (by have := World.block_lt_of_cell? _ _ hw169_1; first | rwa [add_block] at this | exact this) GW157.out) | (rw [add_block]; exact Nat.ne_of_lt (Nat.lt_of_lt_of_le (by have := World.block_lt_of_cell? _ _ hw169_1; first | rwa [add_block] at this | exact this) GW157.out)) | (show (Addr.add _ _).block ≠ _; rw [add_block]; exact Nat.ne_of_lt (Nat.lt_of_lt_of_le (by have := World.block_lt_of_cell? _ _ hw169_1; first | rwa [add_block] at this | exact this) GW157.out)) | (dsimp only; exact Nat.ne_of_lt (Nat.lt_of_lt_of_le (by have := World.block_lt_of_cell? _ _ hw169_1; first | rwa [add_block] at this | exact this) GW157.out))) _).trans (hHeld.2.2.2.2.1)))))), ((cell_far (p := ⟨gb157, _, none⟩) (by first | exact Nat.ne_of_lt (Nat.lt_of_lt_of_le (by have := World.block_lt_of_cell? _ _ hw169_2; first | rwa [add_block] at this | exact this) GW157.out) | (rw [add_block]; exact Nat.ne_of_lt (Nat.lt_of_lt_of_le (by have := World.block_lt_of_cell? _ _ hw169_2; first | rwa [add_block] at this | exact this) GW157.out)) | (show (Addr.add _ _).block ≠ _; rw [add_block]; exact Nat.ne_of_lt (Nat.lt_of_lt_of_le (by have := World.block_lt_of_cell? _ _ hw169_2; first | rwa [add_block] at this | exact this) GW157.out)) | (dsimp only; exact Nat.ne_of_lt (Nat.lt_of_lt_of_le (by have := World.block_lt_of_cell? _ _ hw169_2; first | rwa [add_block] at this | exact this) GW157.out))) _).trans (((cell_far (p := ⟨gb157, _, none⟩) (by first | exact Nat.ne_of_lt (Nat.lt_of_lt_of_le (by have := World.block_lt_of_cell? _ _ hw169_2; first | rwa [add_block] at this | exact this) GW157.out) | (rw [add_block]; exact Nat.ne_of_lt (Nat.lt_of_lt_of_le (by have := World.block_lt_of_cell? _ _ hw169_2; first | rwa [add_block] at this | exact this) GW157.out)) | (show (Addr.add _ _).block ≠ _; rw [add_block]; exact Nat.ne_of_lt (Nat.lt_of_lt_of_le (by have := World.block_lt_of_cell? _ _ hw169_2; first | rwa [add_block] at this | exact this) GW157.out)) | (dsimp only; exact Nat.ne_of_lt (Nat.lt_of_lt_of_le (by have := World.block_lt_of_cell? _ _ hw169_2; first | rwa [add_block] at this | exact this) GW157.out))) _).trans (((cell_far (p := ⟨gb157, _, none⟩) (by first | exact Nat.ne_of_lt (Nat.lt_of_lt_of_le (by have := World.block_lt_of_cell? _ _ hw169_2; first | rwa [add_block] at this | exact this) GW157.out) | (rw [add_block]; exact Nat.ne_of_lt (Nat.lt_of_lt_of_le (by have := World.block_lt_of_cell? _ _ hw169_2; first | rwa [add_block] at this | exact this) GW157.out)) | (show (Addr.add _ _).block ≠ _; rw [add_block]; exact Nat.ne_of_lt (Nat.lt_of_lt_of_le (by have := World.block_lt_of_cell? _ _ hw169_2; first | rwa [add_block] at this | exact this) GW157.out)) | (dsimp only; exact Nat.ne_of_lt (Nat.lt_of_lt_of_le (by have := World.block_lt_of_cell? _ _ hw169_2; first | rwa [add_block] at this | exact this) GW157.out))) _).trans (hHeld.2.2.2.2.2))))))⟩ (fun hHeld => ?_)
                        clear hK K
                        refine done_ (done_of HT_.out (by kernel_rfl)) ?_
                        try go_wp2
                        go_meet
                        case rel => exact ⟨_, (true), ((rd_T23 l0 x6_1).f0), ((rd_T23 l0 x6_1).f1), ((rd_T23 l0 x6_1).f2), ((rd_T23 l1 x6_1).f0), ((rd_T23 l1 x6_1).f1), ((rd_T23 l1 x6_1).f2), (by first | rfl | (simp; done) | (simp [*]; done)), H', ⟨by have := HK1.out; have := HJ2.out; first | omega | exact Nat.le_refl _⟩, ⟨by (with_reducible repeat (first | refine blk_drewN ?_ _ | refine blk_drew ?_ | refine blk_alloc ?_ _)); refine blk_far ?_ NB156_157.out _; (with_reducible repeat (first | refine blk_drewN ?_ _ | refine blk_drew ?_ | refine blk_alloc ?_ _)); refine blk_far ?_ NB156_157.out _; (with_reducible repeat (first | refine blk_drewN ?_ _ | refine blk_drew ?_ | refine blk_alloc ?_ _)); refine blk_far ?_ NB156_157.out _; (with_reducible repeat (first | refine blk_drewN ?_ _ | refine blk_drew ?_ | refine blk_alloc ?_ _)); refine blk_put (cs := #[.string ((rd_T23 l0 x6_1).f0), .string ((rd_T23 l0 x6_1).f1), .bool false]) ?_ 2 _ rfl; (with_reducible repeat (first | refine blk_drewN ?_ _ | refine blk_drew ?_ | refine blk_alloc ?_ _)); refine blk_put (cs := #[.string ((rd_T23 l0 x6_1).f0), .string (⟨#[]⟩ : ByteArray), .bool false]) ?_ 1 _ rfl; (with_reducible repeat (first | refine blk_drewN ?_ _ | refine blk_drew ?_ | refine blk_alloc ?_ _)); refine blk_put (cs := #[.string (⟨#[]⟩ : ByteArray), .string (⟨#[]⟩ : ByteArray), .bool false]) ?_ 0 _ rfl; (with_reducible repeat (first | refine blk_drewN ?_ _ | refine blk_drew ?_ | refine blk_alloc ?_ _)); exact BK156.out⟩, ⟨by (with_reducible repeat (first | refine blk_drewN ?_ _ | refine blk_drew ?_ | refine blk_alloc ?_ _)); refine blk_put (cs := #[.string ((rd_T23 l1 x6_1).f0), .string ((rd_T23 l1 x6_1).f1), .bool false]) ?_ 2 _ rfl; (with_reducible repeat (first | refine blk_drewN ?_ _ | refine blk_drew ?_ | refine blk_alloc ?_ _)); refine blk_put (cs := #[.string ((rd_T23 l1 x6_1).f0), .string (⟨#[]⟩ : ByteArray), .bool false]) ?_ 1 _ rfl; (with_reducible repeat (first | refine blk_drewN ?_ _ | refine blk_drew ?_ | refine blk_alloc ?_ _)); refine blk_put (cs := #[.string (⟨#[]⟩ : ByteArray), .string (⟨#[]⟩ : ByteArray), .bool false]) ?_ 0 _ rfl; (with_reducible repeat (first | refine blk_drewN ?_ _ | refine blk_drew ?_ | refine blk_alloc ?_ _)); refine blk_far ?_ NB157_156.out _; (with_reducible repeat (first | refine blk_drewN ?_ _ | refine blk_drew ?_ | refine blk_alloc ?_ _)); refine blk_far ?_ NB157_156.out _; (with_reducible repeat (first | refine blk_drewN ?_ _ | refine blk_drew ?_ | refine blk_alloc ?_ _)); refine blk_far ?_ NB157_156.out _; (with_reducible repeat (first | refine blk_drewN ?_ _ | refine blk_drew ?_ | refine blk_alloc ?_ _)); exact BK157.out⟩, ⟨by repeat (first | (with_reducible first | exact HB.out | apply below_alloc | apply pw_below_drewN | apply below_drew1 | refine below_set ?_ GE156.out | refine below_set ?_ GE157.out) | exact HB.out)⟩⟩
                      · rw [if_neg c27] at H
                        exact absurd H (by simp)
                    · rw [if_neg c26] at H
                      exact absurd H (by simp)
                  · rw [if_neg c25] at H
                    exact absurd H (by simp)
            case rest =>
              clear HC6
              try clear c1
              try clear p1
              try clear q1
              try clear hx1
              try clear c2
              try clear p2
              try clear c4
              try clear c4b0
              try clear c5
              try clear c9
              try clear c9b0
              try clear c10
              try clear c10b0
              try clear c11
              try clear c11b0
              try clear c13
              try clear p15
              try clear q15
              try clear hx15
              try clear p16
              try clear q16
              try clear hx16
              try clear c17
              try clear c17b0
              try clear c18
              try clear c18b0
              try clear c19
              try clear c19b0
              try clear c21
              try clear c25
              try clear c25b0
              try clear c26
              try clear c26b0
              try clear c27
              try clear c27b0
              try clear hcz14_0
              try clear hcz14_1
              try clear hcz14_2
              try clear hcz16_0
              try clear hcz16_1
              try clear hcz16_2
              try clear hcz22_0
              try clear hcz22_1
              try clear hcz22_2
              try clear hcz24_0
              try clear hcz24_1
              try clear hcz24_2
              try clear hfz14_0
              try clear hfz14_1
              try clear hfz14_2
              try clear hfz16_0
              try clear hfz16_1
              try clear hfz16_2
              try clear hfz22_0
              try clear hfz22_1
              try clear hfz22_2
              try clear hfz24_0
              try clear hfz24_1
              try clear hfz24_2
              try clear hx158_0
              try clear hx158_1
              try clear hx158_2
              try clear hx163_0
              try clear hx163_1
              try clear hx163_2
              try clear hx168_0
              try clear hx168_1
              try clear hx168_2
              try clear hx169_0
              try clear hx169_1
              try clear hx169_2
              try clear p158
              try clear p163
              try clear p168
              try clear p169
              try clear p2
              try clear q158
              try clear q163
              try clear q168
              try clear q169
              obtain ⟨kq, x5_5, x157000_5, x157001_5, x157002_5, x158000_5, x158001_5, x158002_5, rfl, HA, HJ5, BK156, BK157, HB⟩ := hcut
              cases kq with
              | zero => exact absurd HA.out (by simp [spec_MavenCompare.j2])
              | succ kj5 =>
                have H := HA.out
                clear HA
                simp only [spec_MavenCompare.j2] at H
                by_cases c35 : x5_5 = true
                · subst c35
                  have H1 : ((spec_mavenOne.f kj5 x157000_5 x157001_5 x157002_5 x158000_5 x158001_5 x158002_5).bind fun bt170 => (if bt170.2 = true then (if bt170.1 = 0 then (spec_MavenCompare.l0 kj5 l0 l1 (wrap64 (x6_1 + 1))) else (some (bt170.1, bt170.2))) else (some (bt170.1, bt170.2)))) = some (r1, r2) := by rw [if_pos rfl] at H; exact H
                  clear H
                  have H := H1
                  clear H1
                  replace H := Option.bind_eq_some_iff.mp H
                  obtain ⟨⟨t170, t171⟩, A360, H⟩ := H
                  replace H : (if t171 = true then (if t170 = 0 then (spec_MavenCompare.l0 kj5 l0 l1 (wrap64 (x6_1 + 1))) else (some (t170, t171))) else (some (t170, t171))) = some (r1, r2) := H
                  have A36 := Aside0.mk A360
                  clear A360
                  by_cases c37 : t171 = true
                  · subst c37
                    have H1 : (if t170 = 0 then (spec_MavenCompare.l0 kj5 l0 l1 (wrap64 (x6_1 + 1))) else (some (t170, true))) = some (r1, r2) := by rw [if_pos rfl] at H; exact H
                    clear H
                    have H := H1
                    clear H1
                    by_cases c38 : t170 = 0
                    · rw [if_pos c38] at H
                      have c38b0 : (t170 == 0) = true := beq_iff_eq.mpr c38
                      have c38b1 : (t170 != 0) = false := bne_eq_false_iff_eq.mpr c38
                      clear c38
                      have H' := Aside0.mk H
                      clear H
                      have hnb39 := NB156_157.out
                      have hnc39 := NB157_156.out
                      have hcz40_0 : wc.cell? ⟨gb156, 0, none⟩ = some (.string x157000_5) := (blk_cell BK156.out 0).trans rfl
                      have hcz40_1 : wc.cell? ⟨gb156, 1, none⟩ = some (.string x157001_5) := (blk_cell BK156.out 1).trans rfl
                      have hcz40_2 : wc.cell? ⟨gb156, 2, none⟩ = some (.bool x157002_5) := (blk_cell BK156.out 2).trans rfl
                      have hfz40_0 := blk_frozen BK156.out 0
                      have hfz40_1 := blk_frozen BK156.out 1
                      have hfz40_2 := blk_frozen BK156.out 2
                      have hcz41_0 : wc.cell? ⟨gb157, 0, none⟩ = some (.string x158000_5) := (blk_cell BK157.out 0).trans rfl
                      have hcz41_1 : wc.cell? ⟨gb157, 1, none⟩ = some (.string x158001_5) := (blk_cell BK157.out 1).trans rfl
                      have hcz41_2 : wc.cell? ⟨gb157, 2, none⟩ = some (.bool x158002_5) := (blk_cell BK157.out 2).trans rfl
                      have hfz41_0 := blk_frozen BK157.out 0
                      have hfz41_1 := blk_frozen BK157.out 1
                      have hfz41_2 := blk_frozen BK157.out 2
                      go_wp2_with (first | ((with_reducible refine gate_callee (f := 24) rfl ?_); refine goesL_ (some 64) rfl rfl Tryd.func24 (by kernel_rfl) rfl #[.agg #[.string x157000_5, .string x157001_5, .bool x157002_5], .agg #[.string x158000_5, .string x158001_5, .bool x158002_5]] rfl (by (try simp only [List.map_toArray, List.map_cons, List.map_nil]); first | done | rfl | (simp only [List.length_drop, List.length_take]; rfl)) ?_; (with_reducible refine (spec_mavenOne.calls kj5 x157000_5 x157001_5 x157002_5 x158000_5 x158001_5 x158002_5 t170 true _ A36.out).mono ?_); rintro e w42 ⟨rfl, hb⟩; refine ⟨_, rfl, ?_⟩; have n0_ := Aside0.mk (blk_below (g := gb156) (o := .cells #[.string x157000_5, .string x157001_5, .bool x157002_5] 23 (0, 0)) (by (with_reducible repeat (first | refine blk_drewN ?_ _ | refine blk_drew ?_ | refine blk_alloc ?_ _)); exact BK156.out) hb); have n1_ := Aside0.mk (blk_below (g := gb157) (o := .cells #[.string x158000_5, .string x158001_5, .bool x158002_5] 23 (0, 0)) (by (with_reducible repeat (first | refine blk_drewN ?_ _ | refine blk_drew ?_ | refine blk_alloc ?_ _)); exact BK157.out) hb); have n2_ := Aside0.mk (below_step (by repeat (first | (with_reducible first | exact HB.out | apply below_alloc | apply pw_below_drewN | apply below_drew1 | refine below_set ?_ GE156.out | refine below_set ?_ GE157.out) | exact HB.out)) hb); clear BK156; clear BK157; clear HB; have BK156 := n0_; have BK157 := n1_; have HB := n2_; clear n0_ n1_ n2_; (try clear hb); (try clear hb2); (try clear hk); (try clear hi)))
                      go_roundg kj5
                      case measure => have := HK1.out; have := HJ2.out; have := HJ5.out; omega
                      case rel => exact ⟨(wrap64 (x6_1 + 1)), (by first | rfl | (simp; done) | (simp [*]; done)), H', ⟨by have := HK1.out; have := HJ2.out; have := HJ5.out; omega⟩, ⟨by repeat (first | (with_reducible first | exact HB.out | apply below_alloc | apply pw_below_drewN | apply below_drew1 | refine below_set ?_ GE156.out | refine below_set ?_ GE157.out) | exact HB.out)⟩⟩
                    · rw [if_neg c38] at H
                      have c38b0 : (t170 == 0) = false := beq_eq_false_iff_ne.mpr c38
                      have c38b1 : (t170 != 0) = true := bne_iff_ne.mpr c38
                      simp only [Option.some.injEq, Prod.mk.injEq] at H
                      obtain ⟨rfl, rfl⟩ := H
                      have hnb43 := NB156_157.out
                      have hnc43 := NB157_156.out
                      have hcz44_0 : wc.cell? ⟨gb156, 0, none⟩ = some (.string x157000_5) := (blk_cell BK156.out 0).trans rfl
                      have hcz44_1 : wc.cell? ⟨gb156, 1, none⟩ = some (.string x157001_5) := (blk_cell BK156.out 1).trans rfl
                      have hcz44_2 : wc.cell? ⟨gb156, 2, none⟩ = some (.bool x157002_5) := (blk_cell BK156.out 2).trans rfl
                      have hfz44_0 := blk_frozen BK156.out 0
                      have hfz44_1 := blk_frozen BK156.out 1
                      have hfz44_2 := blk_frozen BK156.out 2
                      have hcz45_0 : wc.cell? ⟨gb157, 0, none⟩ = some (.string x158000_5) := (blk_cell BK157.out 0).trans rfl
                      have hcz45_1 : wc.cell? ⟨gb157, 1, none⟩ = some (.string x158001_5) := (blk_cell BK157.out 1).trans rfl
                      have hcz45_2 : wc.cell? ⟨gb157, 2, none⟩ = some (.bool x158002_5) := (blk_cell BK157.out 2).trans rfl
                      have hfz45_0 := blk_frozen BK157.out 0
                      have hfz45_1 := blk_frozen BK157.out 1
                      have hfz45_2 := blk_frozen BK157.out 2
                      go_wp2_with (first | ((with_reducible refine gate_callee (f := 24) rfl ?_); refine goesL_ (some 64) rfl rfl Tryd.func24 (by kernel_rfl) rfl #[.agg #[.string x157000_5, .string x157001_5, .bool x157002_5], .agg #[.string x158000_5, .string x158001_5, .bool x158002_5]] rfl (by (try simp only [List.map_toArray, List.map_cons, List.map_nil]); first | done | rfl | (simp only [List.length_drop, List.length_take]; rfl)) ?_; (with_reducible refine (spec_mavenOne.calls kj5 x157000_5 x157001_5 x157002_5 x158000_5 x158001_5 x158002_5 t170 true _ A36.out).mono ?_); rintro e w46 ⟨rfl, hb⟩; refine ⟨_, rfl, ?_⟩; have n0_ := Aside0.mk (blk_below (g := gb156) (o := .cells #[.string x157000_5, .string x157001_5, .bool x157002_5] 23 (0, 0)) (by (with_reducible repeat (first | refine blk_drewN ?_ _ | refine blk_drew ?_ | refine blk_alloc ?_ _)); exact BK156.out) hb); have n1_ := Aside0.mk (blk_below (g := gb157) (o := .cells #[.string x158000_5, .string x158001_5, .bool x158002_5] 23 (0, 0)) (by (with_reducible repeat (first | refine blk_drewN ?_ _ | refine blk_drew ?_ | refine blk_alloc ?_ _)); exact BK157.out) hb); have n2_ := Aside0.mk (below_step (by repeat (first | (with_reducible first | exact HB.out | apply below_alloc | apply pw_below_drewN | apply below_drew1 | refine below_set ?_ GE156.out | refine below_set ?_ GE157.out) | exact HB.out)) hb); clear BK156; clear BK157; clear HB; have BK156 := n0_; have BK157 := n1_; have HB := n2_; clear n0_ n1_ n2_; (try clear hb); (try clear hb2); (try clear hk); (try clear hi)))
                      go_ret2
                      exact ⟨by first | rfl | (simp [errW_none, errW_some] <;> rfl) | (simp [*, errW_none, errW_some] <;> rfl), by repeat (first | (with_reducible first | exact HB.out | apply below_alloc | apply pw_below_drewN | apply below_drew1 | refine below_set ?_ GE156.out | refine below_set ?_ GE157.out) | exact HB.out)⟩
                  · replace c37 := Bool.eq_false_iff.mpr c37
                    subst c37
                    have H1 : (some (t170, false)) = some (r1, r2) := by rw [if_neg (show ¬ (false = true) by decide)] at H; exact H
                    clear H
                    have H := H1
                    clear H1
                    simp only [Option.some.injEq, Prod.mk.injEq] at H
                    obtain ⟨rfl, rfl⟩ := H
                    have hnb47 := NB156_157.out
                    have hnc47 := NB157_156.out
                    have hcz48_0 : wc.cell? ⟨gb156, 0, none⟩ = some (.string x157000_5) := (blk_cell BK156.out 0).trans rfl
                    have hcz48_1 : wc.cell? ⟨gb156, 1, none⟩ = some (.string x157001_5) := (blk_cell BK156.out 1).trans rfl
                    have hcz48_2 : wc.cell? ⟨gb156, 2, none⟩ = some (.bool x157002_5) := (blk_cell BK156.out 2).trans rfl
                    have hfz48_0 := blk_frozen BK156.out 0
                    have hfz48_1 := blk_frozen BK156.out 1
                    have hfz48_2 := blk_frozen BK156.out 2
                    have hcz49_0 : wc.cell? ⟨gb157, 0, none⟩ = some (.string x158000_5) := (blk_cell BK157.out 0).trans rfl
                    have hcz49_1 : wc.cell? ⟨gb157, 1, none⟩ = some (.string x158001_5) := (blk_cell BK157.out 1).trans rfl
                    have hcz49_2 : wc.cell? ⟨gb157, 2, none⟩ = some (.bool x158002_5) := (blk_cell BK157.out 2).trans rfl
                    have hfz49_0 := blk_frozen BK157.out 0
                    have hfz49_1 := blk_frozen BK157.out 1
                    have hfz49_2 := blk_frozen BK157.out 2
                    go_wp2_with (first | ((with_reducible refine gate_callee (f := 24) rfl ?_); refine goesL_ (some 64) rfl rfl Tryd.func24 (by kernel_rfl) rfl #[.agg #[.string x157000_5, .string x157001_5, .bool x157002_5], .agg #[.string x158000_5, .string x158001_5, .bool x158002_5]] rfl (by (try simp only [List.map_toArray, List.map_cons, List.map_nil]); first | done | rfl | (simp only [List.length_drop, List.length_take]; rfl)) ?_; (with_reducible refine (spec_mavenOne.calls kj5 x157000_5 x157001_5 x157002_5 x158000_5 x158001_5 x158002_5 t170 false _ A36.out).mono ?_); rintro e w50 ⟨rfl, hb⟩; refine ⟨_, rfl, ?_⟩; have n0_ := Aside0.mk (blk_below (g := gb156) (o := .cells #[.string x157000_5, .string x157001_5, .bool x157002_5] 23 (0, 0)) (by (with_reducible repeat (first | refine blk_drewN ?_ _ | refine blk_drew ?_ | refine blk_alloc ?_ _)); exact BK156.out) hb); have n1_ := Aside0.mk (blk_below (g := gb157) (o := .cells #[.string x158000_5, .string x158001_5, .bool x158002_5] 23 (0, 0)) (by (with_reducible repeat (first | refine blk_drewN ?_ _ | refine blk_drew ?_ | refine blk_alloc ?_ _)); exact BK157.out) hb); have n2_ := Aside0.mk (below_step (by repeat (first | (with_reducible first | exact HB.out | apply below_alloc | apply pw_below_drewN | apply below_drew1 | refine below_set ?_ GE156.out | refine below_set ?_ GE157.out) | exact HB.out)) hb); clear BK156; clear BK157; clear HB; have BK156 := n0_; have BK157 := n1_; have HB := n2_; clear n0_ n1_ n2_; (try clear hb); (try clear hb2); (try clear hk); (try clear hi)))
                    go_ret2
                    exact ⟨by first | rfl | (simp [errW_none, errW_some] <;> rfl) | (simp [*, errW_none, errW_some] <;> rfl), by repeat (first | (with_reducible first | exact HB.out | apply below_alloc | apply pw_below_drewN | apply below_drew1 | refine below_set ?_ GE156.out | refine below_set ?_ GE157.out) | exact HB.out)⟩
                · replace c35 := Bool.eq_false_iff.mpr c35
                  subst c35
                  have H1 : (some (0, false)) = some (r1, r2) := by rw [if_neg (show ¬ (false = true) by decide)] at H; exact H
                  clear H
                  have H := H1
                  clear H1
                  simp only [Option.some.injEq, Prod.mk.injEq] at H
                  obtain ⟨rfl, rfl⟩ := H
                  go_wp2
                  go_ret2
                  exact ⟨by first | rfl | (simp [errW_none, errW_some] <;> rfl) | (simp [*, errW_none, errW_some] <;> rfl), by repeat (first | (with_reducible first | exact HB.out | apply below_alloc | apply pw_below_drewN | apply below_drew1 | refine below_set ?_ GE156.out | refine below_set ?_ GE157.out) | exact HB.out)⟩
          · replace c5 := Bool.eq_false_iff.mpr c5
            subst c5
            have H1 : (some (0, true)) = some (r1, r2) := by rw [if_neg (show ¬ (false = true) by decide)] at H; exact H
            clear H
            have H := H1
            clear H1
            simp only [Option.some.injEq, Prod.mk.injEq] at H
            obtain ⟨rfl, rfl⟩ := H
            go_wp2
            go_ret2
            exact ⟨by first | rfl | (simp [errW_none, errW_some] <;> rfl) | (simp [*, errW_none, errW_some] <;> rfl), by repeat (first | (with_reducible first | exact HB.out | apply below_alloc | apply pw_below_drewN | apply below_drew1) | exact HB.out)⟩

/-! ### semantic_ZZToken_token: function 34 -/
def semantic_ZZToken_token.f (a0_0 : ByteArray) (a0_1 : ByteArray) (a0_2 : Bool) : Option (ByteArray × ByteArray × Bool) := some (a0_0, a0_1, a0_2)
set_option maxHeartbeats 8000000 in
set_option maxRecDepth 100000 in
theorem semantic_ZZToken_token.calls (a0_0 : ByteArray) (a0_1 : ByteArray) (a0_2 : Bool) (r1 : ByteArray) (r2 : ByteArray) (r3 : Bool) (w : World) (h : semantic_ZZToken_token.f a0_0 a0_1 a0_2 = some (r1, r2, r3)) :
    Calls Tryd.prog 34 #[.agg #[.string a0_0, .string a0_1, .bool a0_2]] w fun e w' => e = .returned (.agg #[.string r1, .string r2, .bool r3]) ∧ Below w.heap.size w w' := by
  have hu53 := Tryd.underlying53
  have hu70 := Tryd.underlying70
  have HB := Aside0.mk (Below.refl w.heap.size w)
  have H : (some (a0_0, a0_1, a0_2)) = some (r1, r2, r3) := h
  clear h
  simp only [Option.some.injEq, Prod.mk.injEq] at H
  obtain ⟨rfl, rfl, rfl⟩ := H
  go_enter Tryd.func34, Tryd.ntmps34
  go_wp2_with (first | ((with_reducible refine gate_dst (N := 1) rfl ?_); refine box_event ?hg (N := 1) ?hd (cs := #[.string a0_0, .string a0_1, .bool a0_2]) (t := 53) ?hr ?_; (case hd => rfl); (case hg => rfl); (case hr => first | (go_simp; done) | (go_simp; rfl)); intro gb172 hg w2 hbox hb; have n0_ := Aside0.mk (below_step (by repeat (first | (with_reducible first | exact HB.out | apply below_alloc | apply pw_below_drewN | apply below_drew1) | exact HB.out)) hb); have n1_ := Aside0.mk (hbox); have n2_ := Aside0.mk ((by rw [hg]; exact (below_size (by repeat (first | (with_reducible first | exact HB.out | apply below_alloc | apply pw_below_drewN | apply below_drew1) | exact HB.out))) : w.heap.size ≤ gb172)); have n3_ := Aside0.mk ((by rw [hg]; exact (below_size (by repeat (first | (with_reducible first | exact HB.out | apply below_alloc | apply pw_below_drewN | apply below_drew1) | exact HB.out))) : w.heap.size ≤ gb172)); clear HB; have HB := n0_; have BK172 := n1_; have GW172 := n2_; have GE172 := n3_; clear n0_ n1_ n2_ n3_; clear hb hbox hg) | ((with_reducible refine gate_dst (N := 2) rfl ?_); refine box_event ?hg (N := 2) ?hd (cs := #[.string (⟨#[]⟩ : ByteArray), .string (⟨#[]⟩ : ByteArray), .bool false]) (t := 70) ?hr ?_; (case hd => rfl); (case hg => rfl); (case hr => first | (go_simp; done) | (go_simp; rfl)); intro gb173 hg w3 hbox hb; have n0_ := Aside0.mk (blk_below (g := gb172) (o := .cells #[.string a0_0, .string a0_1, .bool a0_2] 53 (0, 0)) (by (with_reducible repeat (first | refine blk_drewN ?_ _ | refine blk_drew ?_ | refine blk_alloc ?_ _)); exact BK172.out) hb); have n1_ := Aside0.mk (below_step (by repeat (first | (with_reducible first | exact HB.out | apply below_alloc | apply pw_below_drewN | apply below_drew1 | refine below_set ?_ GE172.out) | exact HB.out)) hb); have n2_ := Aside0.mk (hbox); have n3_ := Aside0.mk ((by rw [hg]; exact (below_size (by repeat (first | (with_reducible first | exact HB.out | apply below_alloc | apply pw_below_drewN | apply below_drew1 | refine below_set ?_ GE172.out) | exact HB.out))) : w.heap.size ≤ gb173)); have n4_ := Aside0.mk ((by rw [hg]; exact (below_size (by repeat (first | (with_reducible first | exact HB.out | apply below_alloc | apply pw_below_drewN | apply below_drew1 | refine below_set ?_ GE172.out) | exact HB.out))) : w.heap.size ≤ gb173)); have n5_ := Aside0.mk ((by rw [hg]; exact Nat.ne_of_lt (blk_lt (g := gb172) (o := .cells #[.string a0_0, .string a0_1, .bool a0_2] 53 (0, 0)) (by (with_reducible repeat (first | refine blk_drewN ?_ _ | refine blk_drew ?_ | refine blk_alloc ?_ _)); exact BK172.out)) : gb172 ≠ gb173)); have n6_ := Aside0.mk ((by rw [hg]; exact Nat.ne_of_gt (blk_lt (g := gb172) (o := .cells #[.string a0_0, .string a0_1, .bool a0_2] 53 (0, 0)) (by (with_reducible repeat (first | refine blk_drewN ?_ _ | refine blk_drew ?_ | refine blk_alloc ?_ _)); exact BK172.out)) : gb173 ≠ gb172)); clear BK172; clear HB; have BK172 := n0_; have HB := n1_; have BK173 := n2_; have GW173 := n3_; have GE173 := n4_; have NB172_173 := n5_; have NB173_172 := n6_; clear n0_ n1_ n2_ n3_ n4_ n5_ n6_; clear hb hbox hg; have hnb4 := NB172_173.out; have hnc4 := NB173_172.out; have hcz5_0 : w3.cell? ⟨gb172, 0, none⟩ = some (.string a0_0) := (blk_cell BK172.out 0).trans rfl; have hcz5_1 : w3.cell? ⟨gb172, 1, none⟩ = some (.string a0_1) := (blk_cell BK172.out 1).trans rfl; have hcz5_2 : w3.cell? ⟨gb172, 2, none⟩ = some (.bool a0_2) := (blk_cell BK172.out 2).trans rfl; have hfz5_0 := blk_frozen BK172.out 0; have hfz5_1 := blk_frozen BK172.out 1; have hfz5_2 := blk_frozen BK172.out 2; have hcz6_0 : w3.cell? ⟨gb173, 0, none⟩ = some (.string (⟨#[]⟩ : ByteArray)) := (blk_cell BK173.out 0).trans rfl; have hcz6_1 : w3.cell? ⟨gb173, 1, none⟩ = some (.string (⟨#[]⟩ : ByteArray)) := (blk_cell BK173.out 1).trans rfl; have hcz6_2 : w3.cell? ⟨gb173, 2, none⟩ = some (.bool false) := (blk_cell BK173.out 2).trans rfl; have hfz6_0 := blk_frozen BK173.out 0; have hfz6_1 := blk_frozen BK173.out 1; have hfz6_2 := blk_frozen BK173.out 2))
  refine bodyPost_ret (results_cell_row rfl _ _ gb173 70 #[.string a0_0, .string a0_1, .bool a0_2] (0, 0) _ rfl (by (with_reducible repeat (first | refine blk_drewN ?_ _ | refine blk_drew ?_ | refine blk_alloc ?_ _)); refine blk_put (cs := #[.string a0_0, .string a0_1, .bool false]) ?_ 2 _ rfl; (with_reducible repeat (first | refine blk_drewN ?_ _ | refine blk_drew ?_ | refine blk_alloc ?_ _)); refine blk_put (cs := #[.string a0_0, .string (⟨#[]⟩ : ByteArray), .bool false]) ?_ 1 _ rfl; (with_reducible repeat (first | refine blk_drewN ?_ _ | refine blk_drew ?_ | refine blk_alloc ?_ _)); refine blk_put (cs := #[.string (⟨#[]⟩ : ByteArray), .string (⟨#[]⟩ : ByteArray), .bool false]) ?_ 0 _ rfl; (with_reducible repeat (first | refine blk_drewN ?_ _ | refine blk_drew ?_ | refine blk_alloc ?_ _)); exact BK173.out) Tryd.underlying70 rfl (by kernel_rfl)) rfl ?_
  exact ⟨by first | rfl | (simp [errW_none, errW_some] <;> rfl) | (simp [*, errW_none, errW_some] <;> rfl), by repeat (first | (with_reducible first | exact HB.out | apply below_alloc | apply pw_below_drewN | apply below_drew1 | refine below_set ?_ GE172.out | refine below_set ?_ GE173.out) | exact HB.out)⟩

end Go.Proofs.YtondnpfncgcdkaaDoor.Z
