-- Written by a program of this session (myprint.py).
import Derived.Test.YtciojhhncfnagaaDoorZ0
import Derived.Test.YtciojhhncfnagaaDoorZ1
import Derived.Test.YtciojhhncfnagaaDoorZ5
import Derived.Test.YtciojhhncfnagaaDoorGe
namespace Go.Proofs.YtciojhhncfnagaaDoor.Z
open Go.RowKit Go.Proofs.YtciojhhncfnagaaDoorW.PrintWords Go.Proofs.YtciojhhncfnagaaDoorW.PrintLast Go.Proofs.YtciojhhncfnagaaDoorW.PrintMore
attribute [local go_sem high] Go.Proofs.YtciojhhncfnagaaDoor.Ge.gtr_str
attribute [local go_sem] max2_int min2_int max_two min_two max_three min_three max_four min_four   -- for this text's walks alone
set_option linter.unusedVariables false
set_option linter.unusedSimpArgs false

/-! ### spec_intOrder: function 24 -/
mutual
def spec_intOrder.j2 : Nat → Bool → ByteArray → Bool → ByteArray → Option (Int)
  | 0, _, _, _, _ => none
  | k + 1, x121000, x121001, x122000, x122001 => if (x121001.size : Int) = (x122001.size : Int) then ((spec_order.f x121001 x122001).bind fun t126 => (some t126)) else ((spec_orderInts.f (x121001.size : Int) (x122001.size : Int)).bind fun t127 => (some t127))
def spec_intOrder.j0 : Nat → Bool → Bool → ByteArray → Bool → ByteArray → Option (Int)
  | 0, _, _, _, _, _ => none
  | k + 1, x9, x121000, x121001, x122000, x122001 => if x9 = true then (some (-1)) else (if x121000 = true then (spec_intOrder.j1 k false x121000 x121001 x122000 x122001) else (spec_intOrder.j1 k x122000 x121000 x121001 x122000 x122001))
def spec_intOrder.j1 : Nat → Bool → Bool → ByteArray → Bool → ByteArray → Option (Int)
  | 0, _, _, _, _, _ => none
  | k + 1, x17, x121000, x121001, x122000, x122001 => if x17 = true then (some 1) else (if x121000 = true then (spec_intOrder.j2 k x122000 x122001 x121000 x121001) else (spec_intOrder.j2 k x121000 x121001 x122000 x122001))
end
def spec_intOrder.f (k : Nat) (a0_0 : Bool) (a0_1 : ByteArray) (a1_0 : Bool) (a1_1 : ByteArray) : Option (Int) := (spec_numTidy.f k a0_0 a0_1).bind fun bt122 => ((spec_numTidy.f k a1_0 a1_1).bind fun bt124 => (if bt122.1 = true then (spec_intOrder.j0 k (!bt124.1) bt122.1 bt122.2 bt124.1 bt124.2) else (spec_intOrder.j0 k false bt122.1 bt122.2 bt124.1 bt124.2)))
theorem spec_intOrder.mono_l : ∀ k, (∀ y0 y1 y2 y3, LeO (spec_intOrder.j2 k y0 y1 y2 y3) (spec_intOrder.j2 (k + 1) y0 y1 y2 y3)) ∧ (∀ y0 y1 y2 y3 y4, LeO (spec_intOrder.j0 k y0 y1 y2 y3 y4) (spec_intOrder.j0 (k + 1) y0 y1 y2 y3 y4)) ∧ (∀ y0 y1 y2 y3 y4, LeO (spec_intOrder.j1 k y0 y1 y2 y3 y4) (spec_intOrder.j1 (k + 1) y0 y1 y2 y3 y4))
  | 0 => ⟨fun _ _ _ _ r h => by simp [spec_intOrder.j2] at h, fun _ _ _ _ _ r h => by simp [spec_intOrder.j0] at h, fun _ _ _ _ _ r h => by simp [spec_intOrder.j1] at h⟩
  | k + 1 => by
    obtain ⟨ih0, ih1, ih2⟩ := spec_intOrder.mono_l k
    refine ⟨?_, ?_, ?_⟩
    · intro y0 y1 y2 y3
      unfold spec_intOrder.j2
      repeat' first
      | (with_reducible exact ih0 _ _ _ _)
      | (with_reducible exact ih1 _ _ _ _ _)
      | (with_reducible exact ih2 _ _ _ _ _)
      | (with_reducible exact spec_numTidy.mono _ _ _)
      | (with_reducible exact LeO.refl _)
      | (with_reducible exact LeO.none _)
      | (with_reducible refine LeO.ite ?_ ?_)
      | (with_reducible refine LeO.bind ?_ (fun _ => ?_))
      | exact ih0 _ _ _ _
      | exact ih1 _ _ _ _ _
      | exact ih2 _ _ _ _ _
      | exact spec_numTidy.mono _ _ _
      | exact LeO.none _
      | refine LeO.ite ?_ ?_
      | refine LeO.bind ?_ (fun _ => ?_)
    · intro y0 y1 y2 y3 y4
      unfold spec_intOrder.j0
      repeat' first
      | (with_reducible exact ih0 _ _ _ _)
      | (with_reducible exact ih1 _ _ _ _ _)
      | (with_reducible exact ih2 _ _ _ _ _)
      | (with_reducible exact spec_numTidy.mono _ _ _)
      | (with_reducible exact LeO.refl _)
      | (with_reducible exact LeO.none _)
      | (with_reducible refine LeO.ite ?_ ?_)
      | (with_reducible refine LeO.bind ?_ (fun _ => ?_))
      | exact ih0 _ _ _ _
      | exact ih1 _ _ _ _ _
      | exact ih2 _ _ _ _ _
      | exact spec_numTidy.mono _ _ _
      | exact LeO.none _
      | refine LeO.ite ?_ ?_
      | refine LeO.bind ?_ (fun _ => ?_)
    · intro y0 y1 y2 y3 y4
      unfold spec_intOrder.j1
      repeat' first
      | (with_reducible exact ih0 _ _ _ _)
      | (with_reducible exact ih1 _ _ _ _ _)
      | (with_reducible exact ih2 _ _ _ _ _)
      | (with_reducible exact spec_numTidy.mono _ _ _)
      | (with_reducible exact LeO.refl _)
      | (with_reducible exact LeO.none _)
      | (with_reducible refine LeO.ite ?_ ?_)
      | (with_reducible refine LeO.bind ?_ (fun _ => ?_))
      | exact ih0 _ _ _ _
      | exact ih1 _ _ _ _ _
      | exact ih2 _ _ _ _ _
      | exact spec_numTidy.mono _ _ _
      | exact LeO.none _
      | refine LeO.ite ?_ ?_
      | refine LeO.bind ?_ (fun _ => ?_)
theorem spec_intOrder.mono : ∀ a0 a1 a2 a3 k, LeO (spec_intOrder.f k a0 a1 a2 a3) (spec_intOrder.f (k + 1) a0 a1 a2 a3) := by
  intro a0 a1 a2 a3 k
  obtain ⟨ih0, ih1, ih2⟩ := spec_intOrder.mono_l k
  unfold spec_intOrder.f
  repeat' first
      | (with_reducible exact ih0 _ _ _ _)
      | (with_reducible exact ih1 _ _ _ _ _)
      | (with_reducible exact ih2 _ _ _ _ _)
      | (with_reducible exact spec_numTidy.mono _ _ _)
      | (with_reducible exact LeO.refl _)
      | (with_reducible exact LeO.none _)
      | (with_reducible refine LeO.ite ?_ ?_)
      | (with_reducible refine LeO.bind ?_ (fun _ => ?_))
      | exact ih0 _ _ _ _
      | exact ih1 _ _ _ _ _
      | exact ih2 _ _ _ _ _
      | exact spec_numTidy.mono _ _ _
      | exact LeO.none _
      | refine LeO.ite ?_ ?_
      | refine LeO.bind ?_ (fun _ => ?_)
set_option maxHeartbeats 8000000 in
set_option maxRecDepth 100000 in
theorem spec_intOrder.calls (k : Nat) (a0_0 : Bool) (a0_1 : ByteArray) (a1_0 : Bool) (a1_1 : ByteArray) (r : Int) (w : World) (h : spec_intOrder.f k a0_0 a0_1 a1_0 a1_1 = some r) :
    Calls Tryd.prog 24 #[.agg #[.bool a0_0, .string a0_1], .agg #[.bool a1_0, .string a1_1]] w fun e w' => e = .returned (.int .i64 r) ∧ Below w.heap.size w w' := by
  have hu26 := Tryd.underlying26
  have HB := Aside0.mk (Below.refl w.heap.size w)
  have H : ((spec_numTidy.f k a0_0 a0_1).bind fun bt122 => ((spec_numTidy.f k a1_0 a1_1).bind fun bt124 => (if bt122.1 = true then (spec_intOrder.j0 k (!bt124.1) bt122.1 bt122.2 bt124.1 bt124.2) else (spec_intOrder.j0 k false bt122.1 bt122.2 bt124.1 bt124.2)))) = some r := h
  clear h
  replace H := Option.bind_eq_some_iff.mp H
  obtain ⟨⟨t122, t123⟩, A30, H⟩ := H
  replace H : ((spec_numTidy.f k a1_0 a1_1).bind fun bt124 => (if t122 = true then (spec_intOrder.j0 k (!bt124.1) t122 t123 bt124.1 bt124.2) else (spec_intOrder.j0 k false t122 t123 bt124.1 bt124.2))) = some r := H
  have A3 := Aside0.mk A30
  clear A30
  replace H := Option.bind_eq_some_iff.mp H
  obtain ⟨⟨t124, t125⟩, A40, H⟩ := H
  replace H : (if t122 = true then (spec_intOrder.j0 k (!t124) t122 t123 t124 t125) else (spec_intOrder.j0 k false t122 t123 t124 t125)) = some r := H
  have A4 := Aside0.mk A40
  clear A40
  have HC5 := Aside0.mk H
  clear H
  go_enter Tryd.func24, Tryd.ntmps24
  try go_wp2_with (first | ((with_reducible refine gate_dst (N := 2) rfl ?_); refine box_event ?hg (N := 2) ?hd (cs := #[.bool a0_0, .string a0_1]) (t := 26) ?hr ?_; (case hd => rfl); (case hg => rfl); (case hr => first | (go_simp; done) | (go_simp; rfl)); intro gb120 hg w6 hbox hb; have n0_ := Aside0.mk (below_step (by repeat (first | (with_reducible first | exact HB.out | apply below_alloc | apply pw_below_drewN | apply below_drew1) | exact HB.out)) hb); have n1_ := Aside0.mk (hbox); have n2_ := Aside0.mk ((by rw [hg]; exact (below_size (by repeat (first | (with_reducible first | exact HB.out | apply below_alloc | apply pw_below_drewN | apply below_drew1) | exact HB.out))) : w.heap.size ≤ gb120)); have n3_ := Aside0.mk ((by rw [hg]; exact (below_size (by repeat (first | (with_reducible first | exact HB.out | apply below_alloc | apply pw_below_drewN | apply below_drew1) | exact HB.out))) : w.heap.size ≤ gb120)); clear HB; have HB := n0_; have BK120 := n1_; have GW120 := n2_; have GE120 := n3_; clear n0_ n1_ n2_ n3_; clear hb hbox hg) | ((with_reducible refine gate_dst (N := 3) rfl ?_); refine box_event ?hg (N := 3) ?hd (cs := #[.bool a1_0, .string a1_1]) (t := 26) ?hr ?_; (case hd => rfl); (case hg => rfl); (case hr => first | (go_simp; done) | (go_simp; rfl)); intro gb121 hg w7 hbox hb; have n0_ := Aside0.mk (blk_below (g := gb120) (o := .cells #[.bool a0_0, .string a0_1] 26 (0, 0)) (by (with_reducible repeat (first | refine blk_drewN ?_ _ | refine blk_drew ?_ | refine blk_alloc ?_ _)); exact BK120.out) hb); have n1_ := Aside0.mk (below_step (by repeat (first | (with_reducible first | exact HB.out | apply below_alloc | apply pw_below_drewN | apply below_drew1 | refine below_set ?_ GE120.out) | exact HB.out)) hb); have n2_ := Aside0.mk (hbox); have n3_ := Aside0.mk ((by rw [hg]; exact (below_size (by repeat (first | (with_reducible first | exact HB.out | apply below_alloc | apply pw_below_drewN | apply below_drew1 | refine below_set ?_ GE120.out) | exact HB.out))) : w.heap.size ≤ gb121)); have n4_ := Aside0.mk ((by rw [hg]; exact (below_size (by repeat (first | (with_reducible first | exact HB.out | apply below_alloc | apply pw_below_drewN | apply below_drew1 | refine below_set ?_ GE120.out) | exact HB.out))) : w.heap.size ≤ gb121)); have n5_ := Aside0.mk ((by rw [hg]; exact Nat.ne_of_lt (blk_lt (g := gb120) (o := .cells #[.bool a0_0, .string a0_1] 26 (0, 0)) (by (with_reducible repeat (first | refine blk_drewN ?_ _ | refine blk_drew ?_ | refine blk_alloc ?_ _)); exact BK120.out)) : gb120 ≠ gb121)); have n6_ := Aside0.mk ((by rw [hg]; exact Nat.ne_of_gt (blk_lt (g := gb120) (o := .cells #[.bool a0_0, .string a0_1] 26 (0, 0)) (by (with_reducible repeat (first | refine blk_drewN ?_ _ | refine blk_drew ?_ | refine blk_alloc ?_ _)); exact BK120.out)) : gb121 ≠ gb120)); clear BK120; clear HB; have BK120 := n0_; have HB := n1_; have BK121 := n2_; have GW121 := n3_; have GE121 := n4_; have NB120_121 := n5_; have NB121_120 := n6_; clear n0_ n1_ n2_ n3_ n4_ n5_ n6_; clear hb hbox hg))
  have n0_ := Aside0.mk (blk_drew BK120.out)
  have n1_ := Aside0.mk (blk_drew BK121.out)
  have n2_ := Aside0.mk (below_drew1 HB.out)
  clear BK120
  clear BK121
  clear HB
  have BK120 := n0_
  have BK121 := n1_
  have HB := n2_
  clear n0_ n1_ n2_
  refine start_ (n := 6) (S := fun w' => w'.cell? ⟨gb120, 0, none⟩ = some (.bool a0_0) ∧ w'.cell? ⟨gb120, 1, none⟩ = some (.string a0_1) ∧ w'.cell? ⟨gb121, 0, none⟩ = some (.bool a1_0) ∧ w'.cell? ⟨gb121, 1, none⟩ = some (.string a1_1)) (ds := [4, 5]) #[false, false, false, false, false, false] (by kernel_rfl) rfl rfl ⟨(blk_cell BK120.out 0).trans rfl, (blk_cell BK120.out 1).trans rfl, (blk_cell BK121.out 0).trans rfl, (blk_cell BK121.out 1).trans rfl⟩ (fun hHeld => ?_)
  generalize w7.drew = w8 at BK120 BK121 HB hHeld ⊢
  refine take_ (i := 0) (N := some 5) (v := ?_) (a' := ?_) #[true, false, false, false, false, false] rfl rfl (by kernel_rfl) (fun _ _ _ h => h) (Or.inl ⟨by rfl, ?_⟩) hHeld ?_ ?_
  rotate_left
  · rintro w' ⟨s0, s1, s2, s3⟩
    go_simp
    with_reducible rfl
  rotate_left
  · simp only [Act.put, List.setIfInBounds_toArray, List.set_cons_zero, List.set_cons_succ, i64_w, i32_w]
    rfl
  refine take_ (i := 2) (N := some 7) (v := ?_) (a' := ?_) #[true, false, true, false, false, false] rfl rfl (by kernel_rfl) (fun _ _ _ h => h) (Or.inl ⟨by rfl, ?_⟩) hHeld ?_ ?_
  rotate_left
  · rintro w' ⟨s0, s1, s2, s3⟩
    go_simp
    with_reducible rfl
  rotate_left
  · simp only [Act.put, List.setIfInBounds_toArray, List.set_cons_zero, List.set_cons_succ, i64_w, i32_w]
    rfl
  refine one_ (i := 1) (N := some 6) #[true, true, true, false, false, false] rfl rfl (by kernel_rfl) (by decide) (fun K hK => ?_)
  refine goes_ Tryd.func32 (by kernel_rfl) rfl #[.agg #[.bool a0_0, .string a0_1]] (by rfl) rfl rfl (by (try simp only [List.map_toArray, List.map_cons, List.map_nil]); first | done | rfl | (simp only [List.length_drop, List.length_take]; rfl)) ?_
  with_reducible refine (spec_numTidy.calls k a0_0 a0_1 t122 t123 _ A3.out).mono ?_
  rintro e w9 ⟨rfl, hb⟩
  refine ⟨_, rfl, ?_⟩
  have n0_ := Aside0.mk (blk_below (g := gb120) (o := .cells #[.bool a0_0, .string a0_1] 26 (0, 0)) (by (with_reducible repeat (first | refine blk_drewN ?_ _ | refine blk_drew ?_ | refine blk_alloc ?_ _)); exact BK120.out) hb)
  have n1_ := Aside0.mk (blk_below (g := gb121) (o := .cells #[.bool a1_0, .string a1_1] 26 (0, 0)) (by (with_reducible repeat (first | refine blk_drewN ?_ _ | refine blk_drew ?_ | refine blk_alloc ?_ _)); exact BK121.out) hb)
  have n2_ := Aside0.mk (below_step (by repeat (first | (with_reducible first | exact HB.out | apply below_alloc | apply pw_below_drewN | apply below_drew1 | refine below_set ?_ GE120.out | refine below_set ?_ GE121.out) | exact HB.out)) hb)
  clear BK120
  clear BK121
  clear HB
  have BK120 := n0_
  have BK121 := n1_
  have HB := n2_
  clear n0_ n1_ n2_
  (try clear hb)
  (try clear hb2)
  (try clear hk)
  (try clear hi)
  refine hK.out _ _ ⟨(blk_cell BK120.out 0).trans rfl, (blk_cell BK120.out 1).trans rfl, (blk_cell BK121.out 0).trans rfl, (blk_cell BK121.out 1).trans rfl⟩ (fun hHeld => ?_)
  clear hK K
  refine norm_ (a' := ?_) ?_ ?_
  rotate_left
  · show Act.put _ (some 6) _ = _
    simp only [Act.put, List.setIfInBounds_toArray, List.set_cons_zero, List.set_cons_succ, i64_w, i32_w]
    rfl
  refine one_ (i := 3) (N := some 8) #[true, true, true, true, false, false] rfl rfl (by kernel_rfl) (by decide) (fun K hK => ?_)
  refine goes_ Tryd.func32 (by kernel_rfl) rfl #[.agg #[.bool a1_0, .string a1_1]] (by rfl) rfl rfl (by (try simp only [List.map_toArray, List.map_cons, List.map_nil]); first | done | rfl | (simp only [List.length_drop, List.length_take]; rfl)) ?_
  with_reducible refine (spec_numTidy.calls k a1_0 a1_1 t124 t125 _ A4.out).mono ?_
  rintro e w10 ⟨rfl, hb⟩
  refine ⟨_, rfl, ?_⟩
  have n0_ := Aside0.mk (blk_below (g := gb120) (o := .cells #[.bool a0_0, .string a0_1] 26 (0, 0)) (by (with_reducible repeat (first | refine blk_drewN ?_ _ | refine blk_drew ?_ | refine blk_alloc ?_ _)); exact BK120.out) hb)
  have n1_ := Aside0.mk (blk_below (g := gb121) (o := .cells #[.bool a1_0, .string a1_1] 26 (0, 0)) (by (with_reducible repeat (first | refine blk_drewN ?_ _ | refine blk_drew ?_ | refine blk_alloc ?_ _)); exact BK121.out) hb)
  have n2_ := Aside0.mk (below_step (by repeat (first | (with_reducible first | exact HB.out | apply below_alloc | apply pw_below_drewN | apply below_drew1 | refine below_set ?_ GE120.out | refine below_set ?_ GE121.out) | exact HB.out)) hb)
  clear BK120
  clear BK121
  clear HB
  have BK120 := n0_
  have BK121 := n1_
  have HB := n2_
  clear n0_ n1_ n2_
  (try clear hb)
  (try clear hb2)
  (try clear hk)
  (try clear hi)
  refine hK.out _ _ ⟨(blk_cell BK120.out 0).trans rfl, (blk_cell BK120.out 1).trans rfl, (blk_cell BK121.out 0).trans rfl, (blk_cell BK121.out 1).trans rfl⟩ (fun hHeld => ?_)
  clear hK K
  refine norm_ (a' := ?_) ?_ ?_
  rotate_left
  · show Act.put _ (some 8) _ = _
    simp only [Act.put, List.setIfInBounds_toArray, List.set_cons_zero, List.set_cons_succ, i64_w, i32_w]
    rfl
  refine last_ (i := 4) (N := none) #[true, true, true, true, true, false] rfl rfl (by kernel_rfl) (by decide) (fun K hK => ?_)
  have hs11 : w10.cell? ⟨gb120, 0, none⟩ = some (.bool a0_0) := (blk_cell BK120.out 0).trans rfl
  have hfs11 := blk_frozen BK120.out 0
  have hns11_1 := NB121_120.out
  have hms11_1 := NB120_121.out
  have hs12 : w10.cell? ⟨gb120, 1, none⟩ = some (.string a0_1) := (blk_cell BK120.out 1).trans rfl
  have hfs12 := blk_frozen BK120.out 1
  have hns12_1 := NB121_120.out
  have hms12_1 := NB120_121.out
  refine skip_ (w1 := ?_) (by rfl) rfl ?_ ?_
  rotate_left
  · go_simp
    rfl
  refine hK.out _ _ ?_
  clear hK K
  refine last_ (i := 5) (N := none) #[true, true, true, true, true, true] rfl rfl (by kernel_rfl) (by decide) (fun K hK => ?_)
  have hs13 : w10.cell? ⟨gb121, 0, none⟩ = some (.bool a1_0) := (blk_cell BK121.out 0).trans rfl
  have hfs13 := blk_frozen BK121.out 0
  have hns13_0 := NB120_121.out
  have hms13_0 := NB121_120.out
  have hs14 : w10.cell? ⟨gb121, 1, none⟩ = some (.string a1_1) := (blk_cell BK121.out 1).trans rfl
  have hfs14 := blk_frozen BK121.out 1
  have hns14_0 := NB120_121.out
  have hms14_0 := NB121_120.out
  refine skip_ (w1 := ?_) (by rfl) rfl ?_ ?_
  rotate_left
  · go_simp
    rfl
  refine hK.out _ _ ?_
  clear hK K
  refine done_ (by kernel_rfl) ?_
  go_upto_block 0 with (fail)
  go_cut [] (fun wc => ∃ (kq : Nat) (x121000_4 : Bool) (x121001_4 : ByteArray) (x122000_4 : Bool) (x122001_4 : ByteArray), Aside0 (spec_intOrder.j2 kq x121000_4 x121001_4 x122000_4 x122001_4 = some r) ∧ Aside0 (kq ≤ k) ∧ Aside0 (wc.heap[gb120]? = some (.cells #[.bool x121000_4, .string x121001_4] 26 (0, 0))) ∧ Aside0 (wc.heap[gb121]? = some (.cells #[.bool x122000_4, .string x122001_4] 26 (0, 0))) ∧ Aside0 (Below w.heap.size w wc))
  case first =>
    have H := HC5.out
    clear HC5
    have HC15 := Aside0.mk H
    clear H
    go_upto_region 2 with (fail)
    go_cut [9] (fun v9 wc => ∃ (kq : Nat) (x9_14 : Bool), v9 = .bool x9_14 ∧ Aside0 (spec_intOrder.j0 kq x9_14 t122 t123 t124 t125 = some r) ∧ Aside0 (kq ≤ k) ∧ Aside0 (wc.heap[gb120]? = some (.cells #[.bool t122, .string t123] 26 (0, 0))) ∧ Aside0 (wc.heap[gb121]? = some (.cells #[.bool t124, .string t125] 26 (0, 0))) ∧ Aside0 (Below w.heap.size w wc))
    case first =>
      have H := HC15.out
      clear HC15
      by_cases c16 : t122 = true
      · subst c16
        have H1 : (spec_intOrder.j0 k (!t124) true t123 t124 t125) = some r := by rw [if_pos rfl] at H; exact H
        clear H
        have H := H1
        clear H1
        have H' := Aside0.mk H
        clear H
        have hnb17 := NB120_121.out
        have hnc17 := NB121_120.out
        have hcz18_0 : w10.cell? ⟨gb120, 0, none⟩ = some (.bool a0_0) := (blk_cell BK120.out 0).trans rfl
        have hcz18_1 : w10.cell? ⟨gb120, 1, none⟩ = some (.string a0_1) := (blk_cell BK120.out 1).trans rfl
        have hfz18_0 := blk_frozen BK120.out 0
        have hfz18_1 := blk_frozen BK120.out 1
        have hcz19_0 : w10.cell? ⟨gb121, 0, none⟩ = some (.bool a1_0) := (blk_cell BK121.out 0).trans rfl
        have hcz19_1 : w10.cell? ⟨gb121, 1, none⟩ = some (.string a1_1) := (blk_cell BK121.out 1).trans rfl
        have hfz19_0 := blk_frozen BK121.out 0
        have hfz19_1 := blk_frozen BK121.out 1
        go_wp2
        go_meet
        case rel => exact ⟨_, (!t124), (by first | rfl | (simp; done) | (simp [*]; done)), H', ⟨by first | omega | exact Nat.le_refl _⟩, ⟨by (with_reducible repeat (first | refine blk_drewN ?_ _ | refine blk_drew ?_ | refine blk_alloc ?_ _)); refine blk_far ?_ NB120_121.out _; (with_reducible repeat (first | refine blk_drewN ?_ _ | refine blk_drew ?_ | refine blk_alloc ?_ _)); refine blk_far ?_ NB120_121.out _; (with_reducible repeat (first | refine blk_drewN ?_ _ | refine blk_drew ?_ | refine blk_alloc ?_ _)); refine blk_put (cs := #[.bool true, .string a0_1]) ?_ 1 _ rfl; (with_reducible repeat (first | refine blk_drewN ?_ _ | refine blk_drew ?_ | refine blk_alloc ?_ _)); refine blk_put (cs := #[.bool a0_0, .string a0_1]) ?_ 0 _ rfl; (with_reducible repeat (first | refine blk_drewN ?_ _ | refine blk_drew ?_ | refine blk_alloc ?_ _)); exact BK120.out⟩, ⟨by (with_reducible repeat (first | refine blk_drewN ?_ _ | refine blk_drew ?_ | refine blk_alloc ?_ _)); refine blk_put (cs := #[.bool t124, .string a1_1]) ?_ 1 _ rfl; (with_reducible repeat (first | refine blk_drewN ?_ _ | refine blk_drew ?_ | refine blk_alloc ?_ _)); refine blk_put (cs := #[.bool a1_0, .string a1_1]) ?_ 0 _ rfl; (with_reducible repeat (first | refine blk_drewN ?_ _ | refine blk_drew ?_ | refine blk_alloc ?_ _)); refine blk_far ?_ NB121_120.out _; (with_reducible repeat (first | refine blk_drewN ?_ _ | refine blk_drew ?_ | refine blk_alloc ?_ _)); refine blk_far ?_ NB121_120.out _; (with_reducible repeat (first | refine blk_drewN ?_ _ | refine blk_drew ?_ | refine blk_alloc ?_ _)); exact BK121.out⟩, ⟨by repeat (first | (with_reducible first | exact HB.out | apply below_alloc | apply pw_below_drewN | apply below_drew1 | refine below_set ?_ GE120.out | refine below_set ?_ GE121.out) | exact HB.out)⟩⟩
      · replace c16 := Bool.eq_false_iff.mpr c16
        subst c16
        have H1 : (spec_intOrder.j0 k false false t123 t124 t125) = some r := by rw [if_neg (show ¬ (false = true) by decide)] at H; exact H
        clear H
        have H := H1
        clear H1
        have H' := Aside0.mk H
        clear H
        have hnb20 := NB120_121.out
        have hnc20 := NB121_120.out
        have hcz21_0 : w10.cell? ⟨gb120, 0, none⟩ = some (.bool a0_0) := (blk_cell BK120.out 0).trans rfl
        have hcz21_1 : w10.cell? ⟨gb120, 1, none⟩ = some (.string a0_1) := (blk_cell BK120.out 1).trans rfl
        have hfz21_0 := blk_frozen BK120.out 0
        have hfz21_1 := blk_frozen BK120.out 1
        go_wp2
        go_meet
        case rel => exact ⟨_, (false), (by first | rfl | (simp; done) | (simp [*]; done)), H', ⟨by first | omega | exact Nat.le_refl _⟩, ⟨by (with_reducible repeat (first | refine blk_drewN ?_ _ | refine blk_drew ?_ | refine blk_alloc ?_ _)); refine blk_far ?_ NB120_121.out _; (with_reducible repeat (first | refine blk_drewN ?_ _ | refine blk_drew ?_ | refine blk_alloc ?_ _)); refine blk_far ?_ NB120_121.out _; (with_reducible repeat (first | refine blk_drewN ?_ _ | refine blk_drew ?_ | refine blk_alloc ?_ _)); refine blk_put (cs := #[.bool false, .string a0_1]) ?_ 1 _ rfl; (with_reducible repeat (first | refine blk_drewN ?_ _ | refine blk_drew ?_ | refine blk_alloc ?_ _)); refine blk_put (cs := #[.bool a0_0, .string a0_1]) ?_ 0 _ rfl; (with_reducible repeat (first | refine blk_drewN ?_ _ | refine blk_drew ?_ | refine blk_alloc ?_ _)); exact BK120.out⟩, ⟨by (with_reducible repeat (first | refine blk_drewN ?_ _ | refine blk_drew ?_ | refine blk_alloc ?_ _)); refine blk_put (cs := #[.bool t124, .string a1_1]) ?_ 1 _ rfl; (with_reducible repeat (first | refine blk_drewN ?_ _ | refine blk_drew ?_ | refine blk_alloc ?_ _)); refine blk_put (cs := #[.bool a1_0, .string a1_1]) ?_ 0 _ rfl; (with_reducible repeat (first | refine blk_drewN ?_ _ | refine blk_drew ?_ | refine blk_alloc ?_ _)); refine blk_far ?_ NB121_120.out _; (with_reducible repeat (first | refine blk_drewN ?_ _ | refine blk_drew ?_ | refine blk_alloc ?_ _)); refine blk_far ?_ NB121_120.out _; (with_reducible repeat (first | refine blk_drewN ?_ _ | refine blk_drew ?_ | refine blk_alloc ?_ _)); exact BK121.out⟩, ⟨by repeat (first | (with_reducible first | exact HB.out | apply below_alloc | apply pw_below_drewN | apply below_drew1 | refine below_set ?_ GE120.out | refine below_set ?_ GE121.out) | exact HB.out)⟩⟩
    case rest =>
      clear HC15
      try clear c1
      try clear c2
      try clear p2
      try clear c3
      try clear c16
      try clear c17
      try clear c20
      try clear hcz18_0
      try clear hcz18_1
      try clear hcz19_0
      try clear hcz19_1
      try clear hcz21_0
      try clear hcz21_1
      try clear hfz18_0
      try clear hfz18_1
      try clear hfz19_0
      try clear hfz19_1
      try clear hfz21_0
      try clear hfz21_1
      obtain ⟨kq, x9_14, rfl, HA, HJ14, BK120, BK121, HB⟩ := hcut
      cases kq with
      | zero => exact absurd HA.out (by simp [spec_intOrder.j0])
      | succ kj14 =>
        have H := HA.out
        clear HA
        simp only [spec_intOrder.j0] at H
        by_cases c22 : x9_14 = true
        · subst c22
          have H1 : (some (-1)) = some r := by rw [if_pos rfl] at H; exact H
          clear H
          have H := H1
          clear H1
          obtain rfl := Option.some.inj H
          go_wp2
          go_ret
          exact ⟨by first | rfl | (simp [errW_none, errW_some] <;> rfl) | (simp [*, errW_none, errW_some] <;> rfl), by repeat (first | (with_reducible first | exact HB.out | apply below_alloc | apply pw_below_drewN | apply below_drew1 | refine below_set ?_ GE120.out | refine below_set ?_ GE121.out) | exact HB.out)⟩
        · replace c22 := Bool.eq_false_iff.mpr c22
          subst c22
          have H1 : (if t122 = true then (spec_intOrder.j1 kj14 false t122 t123 t124 t125) else (spec_intOrder.j1 kj14 t124 t122 t123 t124 t125)) = some r := by rw [if_neg (show ¬ (false = true) by decide)] at H; exact H
          clear H
          have H := H1
          clear H1
          have HC23 := Aside0.mk H
          clear H
          go_upto_region 4 with (fail)
          go_cut [17] (fun v17 wc => ∃ (kq : Nat) (x17_22 : Bool), v17 = .bool x17_22 ∧ Aside0 (spec_intOrder.j1 kq x17_22 t122 t123 t124 t125 = some r) ∧ Aside0 (kq ≤ kj14) ∧ Aside0 (wc.heap[gb120]? = some (.cells #[.bool t122, .string t123] 26 (0, 0))) ∧ Aside0 (wc.heap[gb121]? = some (.cells #[.bool t124, .string t125] 26 (0, 0))) ∧ Aside0 (Below w.heap.size w wc))
          case first =>
            have H := HC23.out
            clear HC23
            by_cases c24 : t122 = true
            · subst c24
              have H1 : (spec_intOrder.j1 kj14 false true t123 t124 t125) = some r := by rw [if_pos rfl] at H; exact H
              clear H
              have H := H1
              clear H1
              have H' := Aside0.mk H
              clear H
              have hnb25 := NB120_121.out
              have hnc25 := NB121_120.out
              have hcz26_0 : wc.cell? ⟨gb120, 0, none⟩ = some (.bool true) := (blk_cell BK120.out 0).trans rfl
              have hcz26_1 : wc.cell? ⟨gb120, 1, none⟩ = some (.string t123) := (blk_cell BK120.out 1).trans rfl
              have hfz26_0 := blk_frozen BK120.out 0
              have hfz26_1 := blk_frozen BK120.out 1
              go_wp2
              go_meet
              case rel => exact ⟨_, (false), (by first | rfl | (simp; done) | (simp [*]; done)), H', ⟨by have := HJ14.out; first | omega | exact Nat.le_refl _⟩, ⟨by (with_reducible repeat (first | refine blk_drewN ?_ _ | refine blk_drew ?_ | refine blk_alloc ?_ _)); exact BK120.out⟩, ⟨by (with_reducible repeat (first | refine blk_drewN ?_ _ | refine blk_drew ?_ | refine blk_alloc ?_ _)); exact BK121.out⟩, ⟨by repeat (first | (with_reducible first | exact HB.out | apply below_alloc | apply pw_below_drewN | apply below_drew1 | refine below_set ?_ GE120.out | refine below_set ?_ GE121.out) | exact HB.out)⟩⟩
            · replace c24 := Bool.eq_false_iff.mpr c24
              subst c24
              have H1 : (spec_intOrder.j1 kj14 t124 false t123 t124 t125) = some r := by rw [if_neg (show ¬ (false = true) by decide)] at H; exact H
              clear H
              have H := H1
              clear H1
              have H' := Aside0.mk H
              clear H
              have hnb27 := NB120_121.out
              have hnc27 := NB121_120.out
              have hcz28_0 : wc.cell? ⟨gb120, 0, none⟩ = some (.bool false) := (blk_cell BK120.out 0).trans rfl
              have hcz28_1 : wc.cell? ⟨gb120, 1, none⟩ = some (.string t123) := (blk_cell BK120.out 1).trans rfl
              have hfz28_0 := blk_frozen BK120.out 0
              have hfz28_1 := blk_frozen BK120.out 1
              have hcz29_0 : wc.cell? ⟨gb121, 0, none⟩ = some (.bool t124) := (blk_cell BK121.out 0).trans rfl
              have hcz29_1 : wc.cell? ⟨gb121, 1, none⟩ = some (.string t125) := (blk_cell BK121.out 1).trans rfl
              have hfz29_0 := blk_frozen BK121.out 0
              have hfz29_1 := blk_frozen BK121.out 1
              go_wp2
              go_meet
              case rel => exact ⟨_, (t124), (by first | rfl | (simp; done) | (simp [*]; done)), H', ⟨by have := HJ14.out; first | omega | exact Nat.le_refl _⟩, ⟨by (with_reducible repeat (first | refine blk_drewN ?_ _ | refine blk_drew ?_ | refine blk_alloc ?_ _)); exact BK120.out⟩, ⟨by (with_reducible repeat (first | refine blk_drewN ?_ _ | refine blk_drew ?_ | refine blk_alloc ?_ _)); exact BK121.out⟩, ⟨by repeat (first | (with_reducible first | exact HB.out | apply below_alloc | apply pw_below_drewN | apply below_drew1 | refine below_set ?_ GE120.out | refine below_set ?_ GE121.out) | exact HB.out)⟩⟩
          case rest =>
            clear HC23
            try clear c1
            try clear c2
            try clear p2
            try clear c3
            try clear c16
            try clear c17
            try clear c20
            try clear c22
            try clear c24
            try clear c25
            try clear c27
            try clear hcz18_0
            try clear hcz18_1
            try clear hcz19_0
            try clear hcz19_1
            try clear hcz21_0
            try clear hcz21_1
            try clear hcz26_0
            try clear hcz26_1
            try clear hcz28_0
            try clear hcz28_1
            try clear hcz29_0
            try clear hcz29_1
            try clear hfz18_0
            try clear hfz18_1
            try clear hfz19_0
            try clear hfz19_1
            try clear hfz21_0
            try clear hfz21_1
            try clear hfz26_0
            try clear hfz26_1
            try clear hfz28_0
            try clear hfz28_1
            try clear hfz29_0
            try clear hfz29_1
            try clear p2
            obtain ⟨kq, x17_22, rfl, HA, HJ22, BK120, BK121, HB⟩ := hcut
            cases kq with
            | zero => exact absurd HA.out (by simp [spec_intOrder.j1])
            | succ kj22 =>
              have H := HA.out
              clear HA
              simp only [spec_intOrder.j1] at H
              by_cases c30 : x17_22 = true
              · subst c30
                have H1 : (some 1) = some r := by rw [if_pos rfl] at H; exact H
                clear H
                have H := H1
                clear H1
                obtain rfl := Option.some.inj H
                go_wp2
                go_ret
                exact ⟨by first | rfl | (simp [errW_none, errW_some] <;> rfl) | (simp [*, errW_none, errW_some] <;> rfl), by repeat (first | (with_reducible first | exact HB.out | apply below_alloc | apply pw_below_drewN | apply below_drew1 | refine below_set ?_ GE120.out | refine below_set ?_ GE121.out) | exact HB.out)⟩
              · replace c30 := Bool.eq_false_iff.mpr c30
                subst c30
                have H1 : (if t122 = true then (spec_intOrder.j2 kj22 t124 t125 t122 t123) else (spec_intOrder.j2 kj22 t122 t123 t124 t125)) = some r := by rw [if_neg (show ¬ (false = true) by decide)] at H; exact H
                clear H
                have H := H1
                clear H1
                by_cases c31 : t122 = true
                · subst c31
                  have H1 : (spec_intOrder.j2 kj22 t124 t125 true t123) = some r := by rw [if_pos rfl] at H; exact H
                  clear H
                  have H := H1
                  clear H1
                  have H' := Aside0.mk H
                  clear H
                  have hnb32 := NB120_121.out
                  have hnc32 := NB121_120.out
                  have hcz33_0 : wc.cell? ⟨gb120, 0, none⟩ = some (.bool true) := (blk_cell BK120.out 0).trans rfl
                  have hcz33_1 : wc.cell? ⟨gb120, 1, none⟩ = some (.string t123) := (blk_cell BK120.out 1).trans rfl
                  have hfz33_0 := blk_frozen BK120.out 0
                  have hfz33_1 := blk_frozen BK120.out 1
                  have hcz34_0 : wc.cell? ⟨gb121, 0, none⟩ = some (.bool t124) := (blk_cell BK121.out 0).trans rfl
                  have hcz34_1 : wc.cell? ⟨gb121, 1, none⟩ = some (.string t125) := (blk_cell BK121.out 1).trans rfl
                  have hfz34_0 := blk_frozen BK121.out 0
                  have hfz34_1 := blk_frozen BK121.out 1
                  go_wp2
                  go_meet
                  case rel => exact ⟨_, (t124), (t125), (true), (t123), H', ⟨by have := HJ14.out; have := HJ22.out; first | omega | exact Nat.le_refl _⟩, ⟨by (with_reducible repeat (first | refine blk_drewN ?_ _ | refine blk_drew ?_ | refine blk_alloc ?_ _)); refine blk_far ?_ NB120_121.out _; (with_reducible repeat (first | refine blk_drewN ?_ _ | refine blk_drew ?_ | refine blk_alloc ?_ _)); refine blk_far ?_ NB120_121.out _; (with_reducible repeat (first | refine blk_drewN ?_ _ | refine blk_drew ?_ | refine blk_alloc ?_ _)); refine blk_put (cs := #[.bool t124, .string t123]) ?_ 1 _ rfl; (with_reducible repeat (first | refine blk_drewN ?_ _ | refine blk_drew ?_ | refine blk_alloc ?_ _)); refine blk_put (cs := #[.bool true, .string t123]) ?_ 0 _ rfl; (with_reducible repeat (first | refine blk_drewN ?_ _ | refine blk_drew ?_ | refine blk_alloc ?_ _)); exact BK120.out⟩, ⟨by (with_reducible repeat (first | refine blk_drewN ?_ _ | refine blk_drew ?_ | refine blk_alloc ?_ _)); refine blk_put (cs := #[.bool true, .string t125]) ?_ 1 _ rfl; (with_reducible repeat (first | refine blk_drewN ?_ _ | refine blk_drew ?_ | refine blk_alloc ?_ _)); refine blk_put (cs := #[.bool t124, .string t125]) ?_ 0 _ rfl; (with_reducible repeat (first | refine blk_drewN ?_ _ | refine blk_drew ?_ | refine blk_alloc ?_ _)); refine blk_far ?_ NB121_120.out _; (with_reducible repeat (first | refine blk_drewN ?_ _ | refine blk_drew ?_ | refine blk_alloc ?_ _)); refine blk_far ?_ NB121_120.out _; (with_reducible repeat (first | refine blk_drewN ?_ _ | refine blk_drew ?_ | refine blk_alloc ?_ _)); exact BK121.out⟩, ⟨by repeat (first | (with_reducible first | exact HB.out | apply below_alloc | apply pw_below_drewN | apply below_drew1 | refine below_set ?_ GE120.out | refine below_set ?_ GE121.out) | exact HB.out)⟩⟩
                · replace c31 := Bool.eq_false_iff.mpr c31
                  subst c31
                  have H1 : (spec_intOrder.j2 kj22 false t123 t124 t125) = some r := by rw [if_neg (show ¬ (false = true) by decide)] at H; exact H
                  clear H
                  have H := H1
                  clear H1
                  have H' := Aside0.mk H
                  clear H
                  have hnb35 := NB120_121.out
                  have hnc35 := NB121_120.out
                  have hcz36_0 : wc.cell? ⟨gb120, 0, none⟩ = some (.bool false) := (blk_cell BK120.out 0).trans rfl
                  have hcz36_1 : wc.cell? ⟨gb120, 1, none⟩ = some (.string t123) := (blk_cell BK120.out 1).trans rfl
                  have hfz36_0 := blk_frozen BK120.out 0
                  have hfz36_1 := blk_frozen BK120.out 1
                  go_wp2
                  go_meet
                  case rel => exact ⟨_, (false), (t123), (t124), (t125), H', ⟨by have := HJ14.out; have := HJ22.out; first | omega | exact Nat.le_refl _⟩, ⟨by (with_reducible repeat (first | refine blk_drewN ?_ _ | refine blk_drew ?_ | refine blk_alloc ?_ _)); exact BK120.out⟩, ⟨by (with_reducible repeat (first | refine blk_drewN ?_ _ | refine blk_drew ?_ | refine blk_alloc ?_ _)); exact BK121.out⟩, ⟨by repeat (first | (with_reducible first | exact HB.out | apply below_alloc | apply pw_below_drewN | apply below_drew1 | refine below_set ?_ GE120.out | refine below_set ?_ GE121.out) | exact HB.out)⟩⟩
  case rest =>
    clear HC5
    try clear c1
    try clear c2
    try clear p2
    try clear c3
    try clear c16
    try clear c17
    try clear c20
    try clear c22
    try clear c24
    try clear c25
    try clear c27
    try clear c30
    try clear c31
    try clear c32
    try clear c35
    try clear hcz18_0
    try clear hcz18_1
    try clear hcz19_0
    try clear hcz19_1
    try clear hcz21_0
    try clear hcz21_1
    try clear hcz26_0
    try clear hcz26_1
    try clear hcz28_0
    try clear hcz28_1
    try clear hcz29_0
    try clear hcz29_1
    try clear hcz33_0
    try clear hcz33_1
    try clear hcz34_0
    try clear hcz34_1
    try clear hcz36_0
    try clear hcz36_1
    try clear hfz18_0
    try clear hfz18_1
    try clear hfz19_0
    try clear hfz19_1
    try clear hfz21_0
    try clear hfz21_1
    try clear hfz26_0
    try clear hfz26_1
    try clear hfz28_0
    try clear hfz28_1
    try clear hfz29_0
    try clear hfz29_1
    try clear hfz33_0
    try clear hfz33_1
    try clear hfz34_0
    try clear hfz34_1
    try clear hfz36_0
    try clear hfz36_1
    try clear p2
    obtain ⟨kq, x121000_4, x121001_4, x122000_4, x122001_4, HA, HJ4, BK120, BK121, HB⟩ := hcut
    cases kq with
    | zero => exact absurd HA.out (by simp [spec_intOrder.j2])
    | succ kj4 =>
      have H := HA.out
      clear HA
      simp only [spec_intOrder.j2] at H
      by_cases c37 : (x121001_4.size : Int) = (x122001_4.size : Int)
      · rw [if_pos c37] at H
        have c37b0 : ((x121001_4.size : Int) == (x122001_4.size : Int)) = true := beq_iff_eq.mpr c37
        have c37b1 : ((x121001_4.size : Int) != (x122001_4.size : Int)) = false := bne_eq_false_iff_eq.mpr c37
        have c37b2 : (x121001_4.size == x122001_4.size) = true := by first | simpa using c37 | (simp at c37 ⊢; omega)
        clear c37
        replace H := Option.bind_eq_some_iff.mp H
        obtain ⟨t126, A380, H⟩ := H
        replace H : (some t126) = some r := H
        have A38 := Aside0.mk A380
        clear A380
        obtain rfl := Option.some.inj H
        have hnb39 := NB120_121.out
        have hnc39 := NB121_120.out
        have hcz40_0 : wc.cell? ⟨gb120, 0, none⟩ = some (.bool x121000_4) := (blk_cell BK120.out 0).trans rfl
        have hcz40_1 : wc.cell? ⟨gb120, 1, none⟩ = some (.string x121001_4) := (blk_cell BK120.out 1).trans rfl
        have hfz40_0 := blk_frozen BK120.out 0
        have hfz40_1 := blk_frozen BK120.out 1
        have hcz41_0 : wc.cell? ⟨gb121, 0, none⟩ = some (.bool x122000_4) := (blk_cell BK121.out 0).trans rfl
        have hcz41_1 : wc.cell? ⟨gb121, 1, none⟩ = some (.string x122001_4) := (blk_cell BK121.out 1).trans rfl
        have hfz41_0 := blk_frozen BK121.out 0
        have hfz41_1 := blk_frozen BK121.out 1
        go_wp2_with (first | ((with_reducible refine gate_callee (f := 34) rfl ?_); refine goesL_ (some 48) rfl rfl Tryd.func34 (by kernel_rfl) rfl #[.string x121001_4, .string x122001_4] rfl (by (try simp only [List.map_toArray, List.map_cons, List.map_nil]); first | done | rfl | (simp only [List.length_drop, List.length_take]; rfl)) ?_; (with_reducible refine (spec_order.calls x121001_4 x122001_4 t126 _ A38.out).mono ?_); rintro e w' ⟨rfl, ⟨nd, rfl⟩⟩; refine ⟨_, rfl, ?_⟩))
        go_ret
        exact ⟨by first | rfl | (simp [errW_none, errW_some] <;> rfl) | (simp [*, errW_none, errW_some] <;> rfl), by repeat (first | (with_reducible first | exact HB.out | apply below_alloc | apply pw_below_drewN | apply below_drew1 | refine below_set ?_ GE120.out | refine below_set ?_ GE121.out) | exact HB.out)⟩
      · rw [if_neg c37] at H
        have c37b0 : ((x121001_4.size : Int) == (x122001_4.size : Int)) = false := beq_eq_false_iff_ne.mpr c37
        have c37b1 : ((x121001_4.size : Int) != (x122001_4.size : Int)) = true := bne_iff_ne.mpr c37
        have c37b2 : (x121001_4.size == x122001_4.size) = false := by first | simpa using c37 | (simp at c37 ⊢; omega)
        replace H := Option.bind_eq_some_iff.mp H
        obtain ⟨t127, A420, H⟩ := H
        replace H : (some t127) = some r := H
        have A42 := Aside0.mk A420
        clear A420
        obtain rfl := Option.some.inj H
        have hnb43 := NB120_121.out
        have hnc43 := NB121_120.out
        have hcz44_0 : wc.cell? ⟨gb120, 0, none⟩ = some (.bool x121000_4) := (blk_cell BK120.out 0).trans rfl
        have hcz44_1 : wc.cell? ⟨gb120, 1, none⟩ = some (.string x121001_4) := (blk_cell BK120.out 1).trans rfl
        have hfz44_0 := blk_frozen BK120.out 0
        have hfz44_1 := blk_frozen BK120.out 1
        have hcz45_0 : wc.cell? ⟨gb121, 0, none⟩ = some (.bool x122000_4) := (blk_cell BK121.out 0).trans rfl
        have hcz45_1 : wc.cell? ⟨gb121, 1, none⟩ = some (.string x122001_4) := (blk_cell BK121.out 1).trans rfl
        have hfz45_0 := blk_frozen BK121.out 0
        have hfz45_1 := blk_frozen BK121.out 1
        go_wp2_with (first | ((with_reducible refine gate_callee (f := 33) rfl ?_); refine goesL_ (some 43) rfl rfl Tryd.func33 (by kernel_rfl) rfl #[.int .i64 (x121001_4.size : Int), .int .i64 (x122001_4.size : Int)] rfl (by (try simp only [List.map_toArray, List.map_cons, List.map_nil]); first | done | rfl | (simp only [List.length_drop, List.length_take]; rfl)) ?_; (with_reducible refine (spec_orderInts.calls (x121001_4.size : Int) (x122001_4.size : Int) t127 _ A42.out).mono ?_); rintro e w' ⟨rfl, ⟨nd, rfl⟩⟩; refine ⟨_, rfl, ?_⟩))
        go_ret
        exact ⟨by first | rfl | (simp [errW_none, errW_some] <;> rfl) | (simp [*, errW_none, errW_some] <;> rfl), by repeat (first | (with_reducible first | exact HB.out | apply below_alloc | apply pw_below_drewN | apply below_drew1 | refine below_set ?_ GE120.out | refine below_set ?_ GE121.out) | exact HB.out)⟩

/-! ### spec_CompareNumbers: function 12 -/
mutual
def spec_CompareNumbers.l0 : Nat → List (S26) → List (S26) → Int → Option (Int)
  | 0, _, _, _ => none
  | k + 1, x0, x1, x5 => if x5 < (x0.length : Int) then (spec_CompareNumbers.j1 k x0 x1 x5 true) else (spec_CompareNumbers.j1 k x0 x1 x5 (decide (x5 < (x1.length : Int))))
def spec_CompareNumbers.j1 : Nat → List (S26) → List (S26) → Int → Bool → Option (Int)
  | 0, _, _, _, _ => none
  | k + 1, x0, x1, x5, x18 => if x18 = true then (if x5 < (x0.length : Int) then (if 0 ≤ x5 then (spec_CompareNumbers.j2 k x0 x1 x5 ((rd_T26 x0 x5).f0) ((rd_T26 x0 x5).f1) false (⟨#[]⟩ : ByteArray)) else (none)) else (spec_CompareNumbers.j2 k x0 x1 x5 false (⟨#[]⟩ : ByteArray) false (⟨#[]⟩ : ByteArray))) else (some 0)
def spec_CompareNumbers.j2 : Nat → List (S26) → List (S26) → Int → Bool → ByteArray → Bool → ByteArray → Option (Int)
  | 0, _, _, _, _, _, _, _ => none
  | k + 1, x0, x1, x5, x129000, x129001, x130000, x130001 => if x5 < (x1.length : Int) then (if 0 ≤ x5 then ((spec_intOrder.f k x129000 x129001 ((rd_T26 x1 x5).f0) ((rd_T26 x1 x5).f1)).bind fun t132 => (if t132 = 0 then (spec_CompareNumbers.l0 k x0 x1 (wrap64 (x5 + 1))) else (some t132))) else (none)) else ((spec_intOrder.f k x129000 x129001 x130000 x130001).bind fun t133 => (if t133 = 0 then (spec_CompareNumbers.l0 k x0 x1 (wrap64 (x5 + 1))) else (some t133)))
end
def spec_CompareNumbers.f (k : Nat) (l0 : List (S26)) (l1 : List (S26)) : Option (Int) := spec_CompareNumbers.l0 k l0 l1 0
theorem spec_CompareNumbers.mono_l : ∀ k, (∀ y0 y1 y2, LeO (spec_CompareNumbers.l0 k y0 y1 y2) (spec_CompareNumbers.l0 (k + 1) y0 y1 y2)) ∧ (∀ y0 y1 y2 y3, LeO (spec_CompareNumbers.j1 k y0 y1 y2 y3) (spec_CompareNumbers.j1 (k + 1) y0 y1 y2 y3)) ∧ (∀ y0 y1 y2 y3 y4 y5 y6, LeO (spec_CompareNumbers.j2 k y0 y1 y2 y3 y4 y5 y6) (spec_CompareNumbers.j2 (k + 1) y0 y1 y2 y3 y4 y5 y6))
  | 0 => ⟨fun _ _ _ r h => by simp [spec_CompareNumbers.l0] at h, fun _ _ _ _ r h => by simp [spec_CompareNumbers.j1] at h, fun _ _ _ _ _ _ _ r h => by simp [spec_CompareNumbers.j2] at h⟩
  | k + 1 => by
    obtain ⟨ih0, ih1, ih2⟩ := spec_CompareNumbers.mono_l k
    refine ⟨?_, ?_, ?_⟩
    · intro y0 y1 y2
      unfold spec_CompareNumbers.l0
      repeat' first
      | (with_reducible exact ih0 _ _ _)
      | (with_reducible exact ih1 _ _ _ _)
      | (with_reducible exact ih2 _ _ _ _ _ _ _)
      | (with_reducible exact spec_intOrder.mono _ _ _ _ _)
      | (with_reducible exact LeO.refl _)
      | (with_reducible exact LeO.none _)
      | (with_reducible refine LeO.ite ?_ ?_)
      | (with_reducible refine LeO.bind ?_ (fun _ => ?_))
      | exact ih0 _ _ _
      | exact ih1 _ _ _ _
      | exact ih2 _ _ _ _ _ _ _
      | exact spec_intOrder.mono _ _ _ _ _
      | exact LeO.none _
      | refine LeO.ite ?_ ?_
      | refine LeO.bind ?_ (fun _ => ?_)
    · intro y0 y1 y2 y3
      unfold spec_CompareNumbers.j1
      repeat' first
      | (with_reducible exact ih0 _ _ _)
      | (with_reducible exact ih1 _ _ _ _)
      | (with_reducible exact ih2 _ _ _ _ _ _ _)
      | (with_reducible exact spec_intOrder.mono _ _ _ _ _)
      | (with_reducible exact LeO.refl _)
      | (with_reducible exact LeO.none _)
      | (with_reducible refine LeO.ite ?_ ?_)
      | (with_reducible refine LeO.bind ?_ (fun _ => ?_))
      | exact ih0 _ _ _
      | exact ih1 _ _ _ _
      | exact ih2 _ _ _ _ _ _ _
      | exact spec_intOrder.mono _ _ _ _ _
      | exact LeO.none _
      | refine LeO.ite ?_ ?_
      | refine LeO.bind ?_ (fun _ => ?_)
    · intro y0 y1 y2 y3 y4 y5 y6
      unfold spec_CompareNumbers.j2
      repeat' first
      | (with_reducible exact ih0 _ _ _)
      | (with_reducible exact ih1 _ _ _ _)
      | (with_reducible exact ih2 _ _ _ _ _ _ _)
      | (with_reducible exact spec_intOrder.mono _ _ _ _ _)
      | (with_reducible exact LeO.refl _)
      | (with_reducible exact LeO.none _)
      | (with_reducible refine LeO.ite ?_ ?_)
      | (with_reducible refine LeO.bind ?_ (fun _ => ?_))
      | exact ih0 _ _ _
      | exact ih1 _ _ _ _
      | exact ih2 _ _ _ _ _ _ _
      | exact spec_intOrder.mono _ _ _ _ _
      | exact LeO.none _
      | refine LeO.ite ?_ ?_
      | refine LeO.bind ?_ (fun _ => ?_)
theorem spec_CompareNumbers.mono : ∀ a0 a1 k, LeO (spec_CompareNumbers.f k a0 a1) (spec_CompareNumbers.f (k + 1) a0 a1) := by
  intro a0 a1 k
  obtain ⟨ih0, ih1, ih2⟩ := spec_CompareNumbers.mono_l k
  unfold spec_CompareNumbers.f
  repeat' first
      | (with_reducible exact ih0 _ _ _)
      | (with_reducible exact ih1 _ _ _ _)
      | (with_reducible exact ih2 _ _ _ _ _ _ _)
      | (with_reducible exact spec_intOrder.mono _ _ _ _ _)
      | (with_reducible exact LeO.refl _)
      | (with_reducible exact LeO.none _)
      | (with_reducible refine LeO.ite ?_ ?_)
      | (with_reducible refine LeO.bind ?_ (fun _ => ?_))
      | exact ih0 _ _ _
      | exact ih1 _ _ _ _
      | exact ih2 _ _ _ _ _ _ _
      | exact spec_intOrder.mono _ _ _ _ _
      | exact LeO.none _
      | refine LeO.ite ?_ ?_
      | refine LeO.bind ?_ (fun _ => ?_)
set_option maxHeartbeats 8000000 in
set_option maxRecDepth 100000 in
theorem spec_CompareNumbers.calls (k : Nat) (A0 : Option Addr) (c0 : Nat) (l0 : List (S26)) (A1 : Option Addr) (c1 : Nat) (l1 : List (S26)) (r : Int) (w : World) (hr0 : Kd.C k26 w A0 l0.length l0) (hc0 : l0.length ≤ c0) (hr1 : Kd.C k26 w A1 l1.length l1) (hc1 : l1.length ≤ c1) (h : spec_CompareNumbers.f k l0 l1 = some r) :
    Calls Tryd.prog 12 #[.slice A0 l0.length c0, .slice A1 l1.length c1] w fun e w' => e = .returned (.int .i64 r) ∧ Below w.heap.size w w' := by
  have hu26 := Tryd.underlying26
  have HR0 := Aside0.mk hr0
  have HC0 := Aside0.mk hc0
  clear hr0 hc0
  have HR1 := Aside0.mk hr1
  have HC1 := Aside0.mk hc1
  clear hr1 hc1
  have HB := Aside0.mk (Below.refl w.heap.size w)
  have H : (spec_CompareNumbers.l0 k l0 l1 0) = some r := h
  clear h
  have H' := Aside0.mk H
  clear H
  go_enter Tryd.func12, Tryd.ntmps12
  go_wp2
  go_loopg [5] k (fun kq v5 w' => ∃ (x5_1 : Int), v5 = .int .i64 x5_1 ∧ Aside0 (spec_CompareNumbers.l0 kq l0 l1 x5_1 = some r) ∧ Aside0 (kq ≤ k) ∧ Aside0 (Below w.heap.size w w'))
  case atStart => exact ⟨(0), (by first | rfl | (simp; done) | (simp [*]; done)), H', ⟨Nat.le_refl _⟩, ⟨by repeat (first | (with_reducible first | exact HB.out | apply below_alloc | apply pw_below_drewN | apply below_drew1) | exact HB.out)⟩⟩
  case round =>
    clear H'
    try clear c1
    try clear p2
    obtain ⟨x5_1, rfl, HA, HK1, HB⟩ := hrel
    cases gk with
    | zero => exact absurd HA.out (by simp [spec_CompareNumbers.l0])
    | succ k1 =>
      have H := HA.out
      clear HA
      simp only [spec_CompareNumbers.l0] at H
      have HC3 := Aside0.mk H
      clear H
      go_upto_region 2 with (fail)
      go_cut [18] (fun v18 wc => ∃ (kq : Nat) (x18_2 : Bool), v18 = .bool x18_2 ∧ Aside0 (spec_CompareNumbers.j1 kq l0 l1 x5_1 x18_2 = some r) ∧ Aside0 (kq ≤ k1) ∧ Aside0 (Below w.heap.size w wc))
      case first =>
        have H := HC3.out
        clear HC3
        by_cases c4 : x5_1 < (l0.length : Int)
        · rw [if_pos c4] at H
          have c4b0 : decide (x5_1 < (l0.length : Int)) = true := decide_eq_true c4
          clear c4
          (first | rw [c4b0] | (simp only [i64_w, i32_w]; rw [c4b0]) | skip)
          have H' := Aside0.mk H
          clear H
          go_wp2
          go_meet
          case rel => exact ⟨_, (true), (by first | rfl | (simp; done) | (simp [*]; done)), H', ⟨by have := HK1.out; first | omega | exact Nat.le_refl _⟩, ⟨by repeat (first | (with_reducible first | exact HB.out | apply below_alloc | apply pw_below_drewN | apply below_drew1) | exact HB.out)⟩⟩
        · rw [if_neg c4] at H
          have c4b0 : decide (x5_1 < (l0.length : Int)) = false := decide_eq_false c4
          clear c4
          (first | rw [c4b0] | (simp only [i64_w, i32_w]; rw [c4b0]) | skip)
          have H' := Aside0.mk H
          clear H
          go_wp2
          go_meet
          case rel => exact ⟨_, (decide (x5_1 < (l1.length : Int))), (by first | rfl | (simp; done) | (simp [*]; done)), H', ⟨by have := HK1.out; first | omega | exact Nat.le_refl _⟩, ⟨by repeat (first | (with_reducible first | exact HB.out | apply below_alloc | apply pw_below_drewN | apply below_drew1) | exact HB.out)⟩⟩
      case rest =>
        clear HC3
        try clear c1
        try clear p2
        try clear c4
        try clear c4b0
        try clear p2
        obtain ⟨kq, x18_2, rfl, HA, HJ2, HB⟩ := hcut
        cases kq with
        | zero => exact absurd HA.out (by simp [spec_CompareNumbers.j1])
        | succ kj2 =>
          have H := HA.out
          clear HA
          simp only [spec_CompareNumbers.j1] at H
          by_cases c5 : x18_2 = true
          · subst c5
            have H1 : (if x5_1 < (l0.length : Int) then (if 0 ≤ x5_1 then (spec_CompareNumbers.j2 kj2 l0 l1 x5_1 ((rd_T26 l0 x5_1).f0) ((rd_T26 l0 x5_1).f1) false (⟨#[]⟩ : ByteArray)) else (none)) else (spec_CompareNumbers.j2 kj2 l0 l1 x5_1 false (⟨#[]⟩ : ByteArray) false (⟨#[]⟩ : ByteArray))) = some r := by rw [if_pos rfl] at H; exact H
            clear H
            have H := H1
            clear H1
            have HC6 := Aside0.mk H
            clear H
            go_upto_if 24 with (first | ((with_reducible refine gate_dst (N := 6) rfl ?_); (try (refine gate_guard (by rfl) ?_; dsimp only)); refine box_event ?hg (N := 6) ?hd (cs := #[.bool false, .string (⟨#[]⟩ : ByteArray)]) (t := 26) ?hr ?_; (case hd => rfl); (case hg => rfl); (case hr => first | (go_simp; done) | (go_simp; rfl)); intro gb128 hg w7 hbox hb; have n0_ := Aside0.mk (below_step (by repeat (first | (with_reducible first | exact HB.out | apply below_alloc | apply pw_below_drewN | apply below_drew1) | exact HB.out)) hb); have n1_ := Aside0.mk (hbox); have n2_ := Aside0.mk ((by rw [hg]; exact (below_size (by repeat (first | (with_reducible first | exact HB.out | apply below_alloc | apply pw_below_drewN | apply below_drew1) | exact HB.out))) : w.heap.size ≤ gb128)); have n3_ := Aside0.mk ((by rw [hg]; exact (below_size (by repeat (first | (with_reducible first | exact HB.out | apply below_alloc | apply pw_below_drewN | apply below_drew1) | exact HB.out))) : w.heap.size ≤ gb128)); clear HB; have HB := n0_; have BK128 := n1_; have GW128 := n2_; have GE128 := n3_; clear n0_ n1_ n2_ n3_; clear hb hbox hg) | ((with_reducible refine gate_dst (N := 7) rfl ?_); (try (refine gate_guard (by rfl) ?_; dsimp only)); refine box_event ?hg (N := 7) ?hd (cs := #[.bool false, .string (⟨#[]⟩ : ByteArray)]) (t := 26) ?hr ?_; (case hd => rfl); (case hg => rfl); (case hr => first | (go_simp; done) | (go_simp; rfl)); intro gb129 hg w8 hbox hb; have n0_ := Aside0.mk (blk_below (g := gb128) (o := .cells #[.bool false, .string (⟨#[]⟩ : ByteArray)] 26 (0, 0)) (by (with_reducible repeat (first | refine blk_drewN ?_ _ | refine blk_drew ?_ | refine blk_alloc ?_ _)); exact BK128.out) hb); have n1_ := Aside0.mk (below_step (by repeat (first | (with_reducible first | exact HB.out | apply below_alloc | apply pw_below_drewN | apply below_drew1 | refine below_set ?_ GE128.out) | exact HB.out)) hb); have n2_ := Aside0.mk (hbox); have n3_ := Aside0.mk ((by rw [hg]; exact (below_size (by repeat (first | (with_reducible first | exact HB.out | apply below_alloc | apply pw_below_drewN | apply below_drew1 | refine below_set ?_ GE128.out) | exact HB.out))) : w.heap.size ≤ gb129)); have n4_ := Aside0.mk ((by rw [hg]; exact (below_size (by repeat (first | (with_reducible first | exact HB.out | apply below_alloc | apply pw_below_drewN | apply below_drew1 | refine below_set ?_ GE128.out) | exact HB.out))) : w.heap.size ≤ gb129)); have n5_ := Aside0.mk ((by rw [hg]; exact Nat.ne_of_lt (blk_lt (g := gb128) (o := .cells #[.bool false, .string (⟨#[]⟩ : ByteArray)] 26 (0, 0)) (by (with_reducible repeat (first | refine blk_drewN ?_ _ | refine blk_drew ?_ | refine blk_alloc ?_ _)); exact BK128.out)) : gb128 ≠ gb129)); have n6_ := Aside0.mk ((by rw [hg]; exact Nat.ne_of_gt (blk_lt (g := gb128) (o := .cells #[.bool false, .string (⟨#[]⟩ : ByteArray)] 26 (0, 0)) (by (with_reducible repeat (first | refine blk_drewN ?_ _ | refine blk_drew ?_ | refine blk_alloc ?_ _)); exact BK128.out)) : gb129 ≠ gb128)); clear BK128; clear HB; have BK128 := n0_; have HB := n1_; have BK129 := n2_; have GW129 := n3_; have GE129 := n4_; have NB128_129 := n5_; have NB129_128 := n6_; clear n0_ n1_ n2_ n3_ n4_ n5_ n6_; clear hb hbox hg))
            (try simp only [Act.put, List.setIfInBounds_toArray, List.set_cons_zero, List.set_cons_succ])
            go_cut [] (fun wc => ∃ (kq : Nat) (x129000_5 : Bool) (x129001_5 : ByteArray), Aside0 (spec_CompareNumbers.j2 kq l0 l1 x5_1 x129000_5 x129001_5 false (⟨#[]⟩ : ByteArray) = some r) ∧ Aside0 (kq ≤ kj2) ∧ Aside0 (wc.heap[gb128]? = some (.cells #[.bool x129000_5, .string x129001_5] 26 (0, 0))) ∧ Aside0 (wc.heap[gb129]? = some (.cells #[.bool false, .string (⟨#[]⟩ : ByteArray)] 26 (0, 0))) ∧ Aside0 (Below w.heap.size w wc))
            case first =>
              have H := HC6.out
              clear HC6
              by_cases c9 : x5_1 < (l0.length : Int)
              · rw [if_pos c9] at H
                have c9b0 : decide (x5_1 < (l0.length : Int)) = true := decide_eq_true c9
                clear c9
                (first | rw [c9b0] | (simp only [i64_w, i32_w]; rw [c9b0]) | skip)
                by_cases c10 : 0 ≤ x5_1
                · rw [if_pos c10] at H
                  have c10b0 : decide (0 ≤ x5_1) = true := decide_eq_true c10
                  clear c10
                  have H' := Aside0.mk H
                  clear H
                  have p130 : 0 ≤ (x5_1 : Int) := of_decide_eq_true (by first | (with_reducible assumption) | assumption)
                  have q130 : x5_1 < (l0.length : Int) := of_decide_eq_true (by first | (with_reducible assumption) | assumption)
                  obtain ⟨ad130, e130, hx130_0, hx130_1⟩ := at_T26 HR0.out x5_1 p130 q130
                  cases e130
                  replace hx130_0 := (HB.out.cell (World.block_lt_of_cell? w _ hx130_0)).trans hx130_0
                  replace hx130_1 := (HB.out.cell (World.block_lt_of_cell? w _ hx130_1)).trans hx130_1
                  replace p130 := eq_true p130
                  replace q130 := eq_true q130
                  have hnb11 := NB128_129.out
                  have hnc11 := NB129_128.out
                  have hcz12_0 : w8.cell? ⟨gb128, 0, none⟩ = some (.bool false) := (blk_cell BK128.out 0).trans rfl
                  have hcz12_1 : w8.cell? ⟨gb128, 1, none⟩ = some (.string (⟨#[]⟩ : ByteArray)) := (blk_cell BK128.out 1).trans rfl
                  have hfz12_0 := blk_frozen BK128.out 0
                  have hfz12_1 := blk_frozen BK128.out 1
                  go_wp2
                  go_meet
                  case rel => exact ⟨_, ((rd_T26 l0 x5_1).f0), ((rd_T26 l0 x5_1).f1), H', ⟨by have := HK1.out; have := HJ2.out; first | omega | exact Nat.le_refl _⟩, ⟨by (with_reducible repeat (first | refine blk_drewN ?_ _ | refine blk_drew ?_ | refine blk_alloc ?_ _)); refine blk_put (cs := #[.bool ((rd_T26 l0 x5_1).f0), .string (⟨#[]⟩ : ByteArray)]) ?_ 1 _ rfl; (with_reducible repeat (first | refine blk_drewN ?_ _ | refine blk_drew ?_ | refine blk_alloc ?_ _)); refine blk_put (cs := #[.bool false, .string (⟨#[]⟩ : ByteArray)]) ?_ 0 _ rfl; (with_reducible repeat (first | refine blk_drewN ?_ _ | refine blk_drew ?_ | refine blk_alloc ?_ _)); exact BK128.out⟩, ⟨by (with_reducible repeat (first | refine blk_drewN ?_ _ | refine blk_drew ?_ | refine blk_alloc ?_ _)); refine blk_far ?_ NB129_128.out _; (with_reducible repeat (first | refine blk_drewN ?_ _ | refine blk_drew ?_ | refine blk_alloc ?_ _)); refine blk_far ?_ NB129_128.out _; (with_reducible repeat (first | refine blk_drewN ?_ _ | refine blk_drew ?_ | refine blk_alloc ?_ _)); exact BK129.out⟩, ⟨by repeat (first | (with_reducible first | exact HB.out | apply below_alloc | apply pw_below_drewN | apply below_drew1 | refine below_set ?_ GE128.out | refine below_set ?_ GE129.out) | exact HB.out)⟩⟩
                · rw [if_neg c10] at H
                  exact absurd H (by simp)
              · rw [if_neg c9] at H
                have c9b0 : decide (x5_1 < (l0.length : Int)) = false := decide_eq_false c9
                clear c9
                (first | rw [c9b0] | (simp only [i64_w, i32_w]; rw [c9b0]) | skip)
                have H' := Aside0.mk H
                clear H
                go_wp2
                go_meet
                case rel => exact ⟨_, (false), ((⟨#[]⟩ : ByteArray)), H', ⟨by have := HK1.out; have := HJ2.out; first | omega | exact Nat.le_refl _⟩, ⟨by (with_reducible repeat (first | refine blk_drewN ?_ _ | refine blk_drew ?_ | refine blk_alloc ?_ _)); exact BK128.out⟩, ⟨by (with_reducible repeat (first | refine blk_drewN ?_ _ | refine blk_drew ?_ | refine blk_alloc ?_ _)); exact BK129.out⟩, ⟨by repeat (first | (with_reducible first | exact HB.out | apply below_alloc | apply pw_below_drewN | apply below_drew1 | refine below_set ?_ GE128.out | refine below_set ?_ GE129.out) | exact HB.out)⟩⟩
            case rest =>
              clear HC6
              try clear c1
              try clear p1
              try clear q1
              try clear hx1
              try clear p2
              try clear c4
              try clear c4b0
              try clear c5
              try clear c9
              try clear c9b0
              try clear c10
              try clear c10b0
              try clear c11
              try clear c12
              try clear hcz12_0
              try clear hcz12_1
              try clear hfz12_0
              try clear hfz12_1
              try clear hx130_0
              try clear hx130_1
              try clear p130
              try clear p2
              try clear q130
              obtain ⟨kq, x129000_5, x129001_5, HA, HJ5, BK128, BK129, HB⟩ := hcut
              cases kq with
              | zero => exact absurd HA.out (by simp [spec_CompareNumbers.j2])
              | succ kj5 =>
                have H := HA.out
                clear HA
                simp only [spec_CompareNumbers.j2] at H
                by_cases c13 : x5_1 < (l1.length : Int)
                · rw [if_pos c13] at H
                  have c13b0 : decide (x5_1 < (l1.length : Int)) = true := decide_eq_true c13
                  clear c13
                  by_cases c14 : 0 ≤ x5_1
                  · rw [if_pos c14] at H
                    have c14b0 : decide (0 ≤ x5_1) = true := decide_eq_true c14
                    clear c14
                    replace H := Option.bind_eq_some_iff.mp H
                    obtain ⟨t132, A150, H⟩ := H
                    replace H : (if t132 = 0 then (spec_CompareNumbers.l0 kj5 l0 l1 (wrap64 (x5_1 + 1))) else (some t132)) = some r := H
                    have A15 := Aside0.mk A150
                    clear A150
                    by_cases c16 : t132 = 0
                    · rw [if_pos c16] at H
                      have c16b0 : (t132 == 0) = true := beq_iff_eq.mpr c16
                      have c16b1 : (t132 != 0) = false := bne_eq_false_iff_eq.mpr c16
                      clear c16
                      have H' := Aside0.mk H
                      clear H
                      have p131 : 0 ≤ (x5_1 : Int) := of_decide_eq_true (by first | (with_reducible assumption) | assumption)
                      have q131 : x5_1 < (l1.length : Int) := of_decide_eq_true (by first | (with_reducible assumption) | assumption)
                      obtain ⟨ad131, e131, hx131_0, hx131_1⟩ := at_T26 HR1.out x5_1 p131 q131
                      cases e131
                      replace hx131_0 := (HB.out.cell (World.block_lt_of_cell? w _ hx131_0)).trans hx131_0
                      replace hx131_1 := (HB.out.cell (World.block_lt_of_cell? w _ hx131_1)).trans hx131_1
                      replace p131 := eq_true p131
                      replace q131 := eq_true q131
                      have hnb17 := NB129_128.out
                      have hnc17 := NB128_129.out
                      have hcz18_0 : wc.cell? ⟨gb129, 0, none⟩ = some (.bool false) := (blk_cell BK129.out 0).trans rfl
                      have hcz18_1 : wc.cell? ⟨gb129, 1, none⟩ = some (.string (⟨#[]⟩ : ByteArray)) := (blk_cell BK129.out 1).trans rfl
                      have hfz18_0 := blk_frozen BK129.out 0
                      have hfz18_1 := blk_frozen BK129.out 1
                      have hcz19_0 : wc.cell? ⟨gb128, 0, none⟩ = some (.bool x129000_5) := (blk_cell BK128.out 0).trans rfl
                      have hcz19_1 : wc.cell? ⟨gb128, 1, none⟩ = some (.string x129001_5) := (blk_cell BK128.out 1).trans rfl
                      have hfz19_0 := blk_frozen BK128.out 0
                      have hfz19_1 := blk_frozen BK128.out 1
                      go_wp2_with (first | ((with_reducible refine gate_callee (f := 24) rfl ?_); refine goesL_ (some 39) rfl rfl Tryd.func24 (by kernel_rfl) rfl #[.agg #[.bool x129000_5, .string x129001_5], .agg #[.bool ((rd_T26 l1 x5_1).f0), .string ((rd_T26 l1 x5_1).f1)]] rfl (by (try simp only [List.map_toArray, List.map_cons, List.map_nil]); first | done | rfl | (simp only [List.length_drop, List.length_take]; rfl)) ?_; (with_reducible refine (spec_intOrder.calls kj5 x129000_5 x129001_5 ((rd_T26 l1 x5_1).f0) ((rd_T26 l1 x5_1).f1) t132 _ A15.out).mono ?_); rintro e w20 ⟨rfl, hb⟩; refine ⟨_, rfl, ?_⟩; have n0_ := Aside0.mk (blk_below (g := gb128) (o := .cells #[.bool x129000_5, .string x129001_5] 26 (0, 0)) (by (with_reducible repeat (first | refine blk_drewN ?_ _ | refine blk_drew ?_ | refine blk_alloc ?_ _)); refine blk_far ?_ NB128_129.out _; (with_reducible repeat (first | refine blk_drewN ?_ _ | refine blk_drew ?_ | refine blk_alloc ?_ _)); refine blk_far ?_ NB128_129.out _; (with_reducible repeat (first | refine blk_drewN ?_ _ | refine blk_drew ?_ | refine blk_alloc ?_ _)); exact BK128.out) hb); have n1_ := Aside0.mk (blk_below (g := gb129) (o := .cells #[.bool ((rd_T26 l1 x5_1).f0), .string ((rd_T26 l1 x5_1).f1)] 26 (0, 0)) (by (with_reducible repeat (first | refine blk_drewN ?_ _ | refine blk_drew ?_ | refine blk_alloc ?_ _)); refine blk_put (cs := #[.bool ((rd_T26 l1 x5_1).f0), .string (⟨#[]⟩ : ByteArray)]) ?_ 1 _ rfl; (with_reducible repeat (first | refine blk_drewN ?_ _ | refine blk_drew ?_ | refine blk_alloc ?_ _)); refine blk_put (cs := #[.bool false, .string (⟨#[]⟩ : ByteArray)]) ?_ 0 _ rfl; (with_reducible repeat (first | refine blk_drewN ?_ _ | refine blk_drew ?_ | refine blk_alloc ?_ _)); exact BK129.out) hb); have n2_ := Aside0.mk (below_step (by repeat (first | (with_reducible first | exact HB.out | apply below_alloc | apply pw_below_drewN | apply below_drew1 | refine below_set ?_ GE128.out | refine below_set ?_ GE129.out) | exact HB.out)) hb); clear BK128; clear BK129; clear HB; have BK128 := n0_; have BK129 := n1_; have HB := n2_; clear n0_ n1_ n2_; (try clear hb); (try clear hb2); (try clear hk); (try clear hi)))
                      go_roundg kj5
                      case measure => have := HK1.out; have := HJ2.out; have := HJ5.out; omega
                      case rel => exact ⟨(wrap64 (x5_1 + 1)), (by first | rfl | (simp; done) | (simp [*]; done)), H', ⟨by have := HK1.out; have := HJ2.out; have := HJ5.out; omega⟩, ⟨by repeat (first | (with_reducible first | exact HB.out | apply below_alloc | apply pw_below_drewN | apply below_drew1 | refine below_set ?_ GE128.out | refine below_set ?_ GE129.out) | exact HB.out)⟩⟩
                    · rw [if_neg c16] at H
                      have c16b0 : (t132 == 0) = false := beq_eq_false_iff_ne.mpr c16
                      have c16b1 : (t132 != 0) = true := bne_iff_ne.mpr c16
                      obtain rfl := Option.some.inj H
                      have p131 : 0 ≤ (x5_1 : Int) := of_decide_eq_true (by first | (with_reducible assumption) | assumption)
                      have q131 : x5_1 < (l1.length : Int) := of_decide_eq_true (by first | (with_reducible assumption) | assumption)
                      obtain ⟨ad131, e131, hx131_0, hx131_1⟩ := at_T26 HR1.out x5_1 p131 q131
                      cases e131
                      replace hx131_0 := (HB.out.cell (World.block_lt_of_cell? w _ hx131_0)).trans hx131_0
                      replace hx131_1 := (HB.out.cell (World.block_lt_of_cell? w _ hx131_1)).trans hx131_1
                      replace p131 := eq_true p131
                      replace q131 := eq_true q131
                      have hnb21 := NB129_128.out
                      have hnc21 := NB128_129.out
                      have hcz22_0 : wc.cell? ⟨gb129, 0, none⟩ = some (.bool false) := (blk_cell BK129.out 0).trans rfl
                      have hcz22_1 : wc.cell? ⟨gb129, 1, none⟩ = some (.string (⟨#[]⟩ : ByteArray)) := (blk_cell BK129.out 1).trans rfl
                      have hfz22_0 := blk_frozen BK129.out 0
                      have hfz22_1 := blk_frozen BK129.out 1
                      have hcz23_0 : wc.cell? ⟨gb128, 0, none⟩ = some (.bool x129000_5) := (blk_cell BK128.out 0).trans rfl
                      have hcz23_1 : wc.cell? ⟨gb128, 1, none⟩ = some (.string x129001_5) := (blk_cell BK128.out 1).trans rfl
                      have hfz23_0 := blk_frozen BK128.out 0
                      have hfz23_1 := blk_frozen BK128.out 1
                      go_wp2_with (first | ((with_reducible refine gate_callee (f := 24) rfl ?_); refine goesL_ (some 39) rfl rfl Tryd.func24 (by kernel_rfl) rfl #[.agg #[.bool x129000_5, .string x129001_5], .agg #[.bool ((rd_T26 l1 x5_1).f0), .string ((rd_T26 l1 x5_1).f1)]] rfl (by (try simp only [List.map_toArray, List.map_cons, List.map_nil]); first | done | rfl | (simp only [List.length_drop, List.length_take]; rfl)) ?_; (with_reducible refine (spec_intOrder.calls kj5 x129000_5 x129001_5 ((rd_T26 l1 x5_1).f0) ((rd_T26 l1 x5_1).f1) t132 _ A15.out).mono ?_); rintro e w24 ⟨rfl, hb⟩; refine ⟨_, rfl, ?_⟩; have n0_ := Aside0.mk (blk_below (g := gb128) (o := .cells #[.bool x129000_5, .string x129001_5] 26 (0, 0)) (by (with_reducible repeat (first | refine blk_drewN ?_ _ | refine blk_drew ?_ | refine blk_alloc ?_ _)); refine blk_far ?_ NB128_129.out _; (with_reducible repeat (first | refine blk_drewN ?_ _ | refine blk_drew ?_ | refine blk_alloc ?_ _)); refine blk_far ?_ NB128_129.out _; (with_reducible repeat (first | refine blk_drewN ?_ _ | refine blk_drew ?_ | refine blk_alloc ?_ _)); exact BK128.out) hb); have n1_ := Aside0.mk (blk_below (g := gb129) (o := .cells #[.bool ((rd_T26 l1 x5_1).f0), .string ((rd_T26 l1 x5_1).f1)] 26 (0, 0)) (by (with_reducible repeat (first | refine blk_drewN ?_ _ | refine blk_drew ?_ | refine blk_alloc ?_ _)); refine blk_put (cs := #[.bool ((rd_T26 l1 x5_1).f0), .string (⟨#[]⟩ : ByteArray)]) ?_ 1 _ rfl; (with_reducible repeat (first | refine blk_drewN ?_ _ | refine blk_drew ?_ | refine blk_alloc ?_ _)); refine blk_put (cs := #[.bool false, .string (⟨#[]⟩ : ByteArray)]) ?_ 0 _ rfl; (with_reducible repeat (first | refine blk_drewN ?_ _ | refine blk_drew ?_ | refine blk_alloc ?_ _)); exact BK129.out) hb); have n2_ := Aside0.mk (below_step (by repeat (first | (with_reducible first | exact HB.out | apply below_alloc | apply pw_below_drewN | apply below_drew1 | refine below_set ?_ GE128.out | refine below_set ?_ GE129.out) | exact HB.out)) hb); clear BK128; clear BK129; clear HB; have BK128 := n0_; have BK129 := n1_; have HB := n2_; clear n0_ n1_ n2_; (try clear hb); (try clear hb2); (try clear hk); (try clear hi)))
                      go_ret
                      exact ⟨by first | rfl | (simp [errW_none, errW_some] <;> rfl) | (simp [*, errW_none, errW_some] <;> rfl), by repeat (first | (with_reducible first | exact HB.out | apply below_alloc | apply pw_below_drewN | apply below_drew1 | refine below_set ?_ GE128.out | refine below_set ?_ GE129.out) | exact HB.out)⟩
                  · rw [if_neg c14] at H
                    exact absurd H (by simp)
                · rw [if_neg c13] at H
                  have c13b0 : decide (x5_1 < (l1.length : Int)) = false := decide_eq_false c13
                  clear c13
                  replace H := Option.bind_eq_some_iff.mp H
                  obtain ⟨t133, A250, H⟩ := H
                  replace H : (if t133 = 0 then (spec_CompareNumbers.l0 kj5 l0 l1 (wrap64 (x5_1 + 1))) else (some t133)) = some r := H
                  have A25 := Aside0.mk A250
                  clear A250
                  by_cases c26 : t133 = 0
                  · rw [if_pos c26] at H
                    have c26b0 : (t133 == 0) = true := beq_iff_eq.mpr c26
                    have c26b1 : (t133 != 0) = false := bne_eq_false_iff_eq.mpr c26
                    clear c26
                    have H' := Aside0.mk H
                    clear H
                    have hnb27 := NB128_129.out
                    have hnc27 := NB129_128.out
                    have hcz28_0 : wc.cell? ⟨gb128, 0, none⟩ = some (.bool x129000_5) := (blk_cell BK128.out 0).trans rfl
                    have hcz28_1 : wc.cell? ⟨gb128, 1, none⟩ = some (.string x129001_5) := (blk_cell BK128.out 1).trans rfl
                    have hfz28_0 := blk_frozen BK128.out 0
                    have hfz28_1 := blk_frozen BK128.out 1
                    have hcz29_0 : wc.cell? ⟨gb129, 0, none⟩ = some (.bool false) := (blk_cell BK129.out 0).trans rfl
                    have hcz29_1 : wc.cell? ⟨gb129, 1, none⟩ = some (.string (⟨#[]⟩ : ByteArray)) := (blk_cell BK129.out 1).trans rfl
                    have hfz29_0 := blk_frozen BK129.out 0
                    have hfz29_1 := blk_frozen BK129.out 1
                    go_wp2_with (first | ((with_reducible refine gate_callee (f := 24) rfl ?_); refine goesL_ (some 39) rfl rfl Tryd.func24 (by kernel_rfl) rfl #[.agg #[.bool x129000_5, .string x129001_5], .agg #[.bool false, .string (⟨#[]⟩ : ByteArray)]] rfl (by (try simp only [List.map_toArray, List.map_cons, List.map_nil]); first | done | rfl | (simp only [List.length_drop, List.length_take]; rfl)) ?_; (with_reducible refine (spec_intOrder.calls kj5 x129000_5 x129001_5 false (⟨#[]⟩ : ByteArray) t133 _ A25.out).mono ?_); rintro e w30 ⟨rfl, hb⟩; refine ⟨_, rfl, ?_⟩; have n0_ := Aside0.mk (blk_below (g := gb128) (o := .cells #[.bool x129000_5, .string x129001_5] 26 (0, 0)) (by (with_reducible repeat (first | refine blk_drewN ?_ _ | refine blk_drew ?_ | refine blk_alloc ?_ _)); exact BK128.out) hb); have n1_ := Aside0.mk (blk_below (g := gb129) (o := .cells #[.bool false, .string (⟨#[]⟩ : ByteArray)] 26 (0, 0)) (by (with_reducible repeat (first | refine blk_drewN ?_ _ | refine blk_drew ?_ | refine blk_alloc ?_ _)); exact BK129.out) hb); have n2_ := Aside0.mk (below_step (by repeat (first | (with_reducible first | exact HB.out | apply below_alloc | apply pw_below_drewN | apply below_drew1 | refine below_set ?_ GE128.out | refine below_set ?_ GE129.out) | exact HB.out)) hb); clear BK128; clear BK129; clear HB; have BK128 := n0_; have BK129 := n1_; have HB := n2_; clear n0_ n1_ n2_; (try clear hb); (try clear hb2); (try clear hk); (try clear hi)))
                    go_roundg kj5
                    case measure => have := HK1.out; have := HJ2.out; have := HJ5.out; omega
                    case rel => exact ⟨(wrap64 (x5_1 + 1)), (by first | rfl | (simp; done) | (simp [*]; done)), H', ⟨by have := HK1.out; have := HJ2.out; have := HJ5.out; omega⟩, ⟨by repeat (first | (with_reducible first | exact HB.out | apply below_alloc | apply pw_below_drewN | apply below_drew1 | refine below_set ?_ GE128.out | refine below_set ?_ GE129.out) | exact HB.out)⟩⟩
                  · rw [if_neg c26] at H
                    have c26b0 : (t133 == 0) = false := beq_eq_false_iff_ne.mpr c26
                    have c26b1 : (t133 != 0) = true := bne_iff_ne.mpr c26
                    obtain rfl := Option.some.inj H
                    have hnb31 := NB128_129.out
                    have hnc31 := NB129_128.out
                    have hcz32_0 : wc.cell? ⟨gb128, 0, none⟩ = some (.bool x129000_5) := (blk_cell BK128.out 0).trans rfl
                    have hcz32_1 : wc.cell? ⟨gb128, 1, none⟩ = some (.string x129001_5) := (blk_cell BK128.out 1).trans rfl
                    have hfz32_0 := blk_frozen BK128.out 0
                    have hfz32_1 := blk_frozen BK128.out 1
                    have hcz33_0 : wc.cell? ⟨gb129, 0, none⟩ = some (.bool false) := (blk_cell BK129.out 0).trans rfl
                    have hcz33_1 : wc.cell? ⟨gb129, 1, none⟩ = some (.string (⟨#[]⟩ : ByteArray)) := (blk_cell BK129.out 1).trans rfl
                    have hfz33_0 := blk_frozen BK129.out 0
                    have hfz33_1 := blk_frozen BK129.out 1
                    go_wp2_with (first | ((with_reducible refine gate_callee (f := 24) rfl ?_); refine goesL_ (some 39) rfl rfl Tryd.func24 (by kernel_rfl) rfl #[.agg #[.bool x129000_5, .string x129001_5], .agg #[.bool false, .string (⟨#[]⟩ : ByteArray)]] rfl (by (try simp only [List.map_toArray, List.map_cons, List.map_nil]); first | done | rfl | (simp only [List.length_drop, List.length_take]; rfl)) ?_; (with_reducible refine (spec_intOrder.calls kj5 x129000_5 x129001_5 false (⟨#[]⟩ : ByteArray) t133 _ A25.out).mono ?_); rintro e w34 ⟨rfl, hb⟩; refine ⟨_, rfl, ?_⟩; have n0_ := Aside0.mk (blk_below (g := gb128) (o := .cells #[.bool x129000_5, .string x129001_5] 26 (0, 0)) (by (with_reducible repeat (first | refine blk_drewN ?_ _ | refine blk_drew ?_ | refine blk_alloc ?_ _)); exact BK128.out) hb); have n1_ := Aside0.mk (blk_below (g := gb129) (o := .cells #[.bool false, .string (⟨#[]⟩ : ByteArray)] 26 (0, 0)) (by (with_reducible repeat (first | refine blk_drewN ?_ _ | refine blk_drew ?_ | refine blk_alloc ?_ _)); exact BK129.out) hb); have n2_ := Aside0.mk (below_step (by repeat (first | (with_reducible first | exact HB.out | apply below_alloc | apply pw_below_drewN | apply below_drew1 | refine below_set ?_ GE128.out | refine below_set ?_ GE129.out) | exact HB.out)) hb); clear BK128; clear BK129; clear HB; have BK128 := n0_; have BK129 := n1_; have HB := n2_; clear n0_ n1_ n2_; (try clear hb); (try clear hb2); (try clear hk); (try clear hi)))
                    go_ret
                    exact ⟨by first | rfl | (simp [errW_none, errW_some] <;> rfl) | (simp [*, errW_none, errW_some] <;> rfl), by repeat (first | (with_reducible first | exact HB.out | apply below_alloc | apply pw_below_drewN | apply below_drew1 | refine below_set ?_ GE128.out | refine below_set ?_ GE129.out) | exact HB.out)⟩
          · replace c5 := Bool.eq_false_iff.mpr c5
            subst c5
            have H1 : (some 0) = some r := by rw [if_neg (show ¬ (false = true) by decide)] at H; exact H
            clear H
            have H := H1
            clear H1
            obtain rfl := Option.some.inj H
            go_wp2
            go_ret
            exact ⟨by first | rfl | (simp [errW_none, errW_some] <;> rfl) | (simp [*, errW_none, errW_some] <;> rfl), by repeat (first | (with_reducible first | exact HB.out | apply below_alloc | apply pw_below_drewN | apply below_drew1) | exact HB.out)⟩

/-! ### semantic_zzIndex: function 43 -/
def semantic_zzIndex.l0 : Nat → ByteArray → ByteArray → Int → Option (Int)
  | 0, _, _, _ => none
  | k + 1, x0, x1, x5 => if (wrap64 (x5 + (x1.size : Int))) ≤ (x0.size : Int) then (if 0 ≤ x5 then (if x5 ≤ (wrap64 (x5 + (x1.size : Int))) then (if (x0.extract (x5 : Int).toNat ((wrap64 (x5 + (x1.size : Int))) : Int).toNat).toList = x1.toList then (some x5) else (semantic_zzIndex.l0 k x0 x1 (wrap64 (x5 + 1)))) else (none)) else (none)) else (some (-1))
def semantic_zzIndex.f (k : Nat) (a0 : ByteArray) (a1 : ByteArray) : Option (Int) := semantic_zzIndex.l0 k a0 a1 0
theorem semantic_zzIndex.mono_l : ∀ k, (∀ y0 y1 y2, LeO (semantic_zzIndex.l0 k y0 y1 y2) (semantic_zzIndex.l0 (k + 1) y0 y1 y2))
  | 0 => fun _ _ _ r h => by simp [semantic_zzIndex.l0] at h
  | k + 1 => by
    have ih0 := semantic_zzIndex.mono_l k
    · intro y0 y1 y2
      unfold semantic_zzIndex.l0
      repeat' first
      | (with_reducible exact ih0 _ _ _)
      | (with_reducible exact LeO.refl _)
      | (with_reducible exact LeO.none _)
      | (with_reducible refine LeO.ite ?_ ?_)
      | (with_reducible refine LeO.bind ?_ (fun _ => ?_))
      | exact ih0 _ _ _
      | exact LeO.none _
      | refine LeO.ite ?_ ?_
      | refine LeO.bind ?_ (fun _ => ?_)
theorem semantic_zzIndex.mono : ∀ a0 a1 k, LeO (semantic_zzIndex.f k a0 a1) (semantic_zzIndex.f (k + 1) a0 a1) := by
  intro a0 a1 k
  have ih0 := semantic_zzIndex.mono_l k
  unfold semantic_zzIndex.f
  repeat' first
      | (with_reducible exact ih0 _ _ _)
      | (with_reducible exact LeO.refl _)
      | (with_reducible exact LeO.none _)
      | (with_reducible refine LeO.ite ?_ ?_)
      | (with_reducible refine LeO.bind ?_ (fun _ => ?_))
      | exact ih0 _ _ _
      | exact LeO.none _
      | refine LeO.ite ?_ ?_
      | refine LeO.bind ?_ (fun _ => ?_)
set_option maxHeartbeats 8000000 in
set_option maxRecDepth 100000 in
theorem semantic_zzIndex.calls (k : Nat) (a0 : ByteArray) (a1 : ByteArray) (r : Int) (w : World) (h : semantic_zzIndex.f k a0 a1 = some r) :
    Calls Tryd.prog 43 #[.string a0, .string a1] w fun e w' => e = .returned (.int .i64 r) ∧ Drawn0 w w' := by
  have H : (semantic_zzIndex.l0 k a0 a1 0) = some r := h
  clear h
  have H' := Aside0.mk H
  clear H
  go_enter Tryd.func43, Tryd.ntmps43
  go_wp2
  go_loopg [5] k (fun kq v5 w' => ∃ (x5_1 : Int), v5 = .int .i64 x5_1 ∧ Aside0 (semantic_zzIndex.l0 kq a0 a1 x5_1 = some r) ∧ Aside0 (kq ≤ k) ∧ Drawn0 w w')
  case atStart => exact ⟨(0), (by first | rfl | (simp; done) | (simp [*]; done)), H', ⟨Nat.le_refl _⟩, by repeat (first | exact Drawn0.refl _ | apply Drawn0.step)⟩
  case round =>
    clear H'
    try clear p2
    obtain ⟨x5_1, rfl, HA, HK1, ⟨m1, rfl⟩⟩ := hrel
    cases gk with
    | zero => exact absurd HA.out (by simp [semantic_zzIndex.l0])
    | succ k1 =>
      have H := HA.out
      clear HA
      simp only [semantic_zzIndex.l0] at H
      by_cases c3 : (wrap64 (x5_1 + (a1.size : Int))) ≤ (a0.size : Int)
      · rw [if_pos c3] at H
        have c3b0 : decide ((wrap64 (x5_1 + (a1.size : Int))) ≤ (a0.size : Int)) = true := decide_eq_true c3
        clear c3
        by_cases c4 : 0 ≤ x5_1
        · rw [if_pos c4] at H
          have c4b0 := eq_true c4
          have c4b1 : decide (0 ≤ x5_1) = true := decide_eq_true c4
          clear c4
          by_cases c5 : x5_1 ≤ (wrap64 (x5_1 + (a1.size : Int)))
          · rw [if_pos c5] at H
            have c5b0 := eq_true c5
            have c5b1 : decide (x5_1 ≤ (wrap64 (x5_1 + (a1.size : Int)))) = true := decide_eq_true c5
            have c6b0 := eq_true (of_decide_eq_true (by first | (with_reducible assumption) | assumption) : (wrap64 (x5_1 + (a1.size : Int))) ≤ (a0.size : Int))
            by_cases c7 : (a0.extract (x5_1 : Int).toNat ((wrap64 (x5_1 + (a1.size : Int))) : Int).toNat).toList = a1.toList
            · rw [if_pos c7] at H
              have c7b0 : ((a0.extract (x5_1 : Int).toNat ((wrap64 (x5_1 + (a1.size : Int))) : Int).toNat).toList == a1.toList) = true := beq_iff_eq.mpr c7
              have c7b1 : ((a0.extract (x5_1 : Int).toNat ((wrap64 (x5_1 + (a1.size : Int))) : Int).toNat).toList != a1.toList) = false := bne_eq_false_iff_eq.mpr c7
              clear c7
              obtain rfl := Option.some.inj H
              go_wp2
              go_ret
              exact ⟨by first | rfl | (simp; done) | (simp [*]; done), by repeat (first | exact Drawn0.refl _ | apply Drawn0.step)⟩
            · rw [if_neg c7] at H
              have c7b0 : ((a0.extract (x5_1 : Int).toNat ((wrap64 (x5_1 + (a1.size : Int))) : Int).toNat).toList == a1.toList) = false := beq_eq_false_iff_ne.mpr c7
              have c7b1 : ((a0.extract (x5_1 : Int).toNat ((wrap64 (x5_1 + (a1.size : Int))) : Int).toNat).toList != a1.toList) = true := bne_iff_ne.mpr c7
              have H' := Aside0.mk H
              clear H
              go_wp2
              go_roundg k1
              case measure => have := HK1.out; omega
              case rel => exact ⟨(wrap64 (x5_1 + 1)), (by first | rfl | (simp; done) | (simp [*]; done)), H', ⟨by have := HK1.out; omega⟩, by repeat (first | exact Drawn0.refl _ | apply Drawn0.step)⟩
          · rw [if_neg c5] at H
            exact absurd H (by simp)
        · rw [if_neg c4] at H
          exact absurd H (by simp)
      · rw [if_neg c3] at H
        have c3b0 : decide ((wrap64 (x5_1 + (a1.size : Int))) ≤ (a0.size : Int)) = false := decide_eq_false c3
        clear c3
        obtain rfl := Option.some.inj H
        go_wp2
        go_ret
        exact ⟨by first | rfl | (simp; done) | (simp [*]; done), by repeat (first | exact Drawn0.refl _ | apply Drawn0.step)⟩

/-! ### semantic_zzCut: function 35 -/
def semantic_zzCut.f (k : Nat) (a0 : ByteArray) (a1 : ByteArray) : Option (ByteArray × ByteArray × Bool) := (semantic_zzIndex.f k a0 a1).bind fun t134 => (if t134 ≥ 0 then (if 0 ≤ t134 then (if t134 ≤ (a0.size : Int) then (if 0 ≤ (wrap64 (t134 + (a1.size : Int))) then (if (wrap64 (t134 + (a1.size : Int))) ≤ (a0.size : Int) then (some (a0.extract 0 (t134 : Int).toNat, a0.extract ((wrap64 (t134 + (a1.size : Int))) : Int).toNat a0.size, true)) else (none)) else (none)) else (none)) else (none)) else (some (a0, (⟨#[]⟩ : ByteArray), false)))
theorem semantic_zzCut.mono : ∀ a0 a1 k, LeO (semantic_zzCut.f k a0 a1) (semantic_zzCut.f (k + 1) a0 a1) := by
  intro a0 a1 k
  unfold semantic_zzCut.f
  repeat' first
      | (with_reducible exact semantic_zzIndex.mono _ _ _)
      | (with_reducible exact LeO.refl _)
      | (with_reducible exact LeO.none _)
      | (with_reducible refine LeO.ite ?_ ?_)
      | (with_reducible refine LeO.bind ?_ (fun _ => ?_))
      | exact semantic_zzIndex.mono _ _ _
      | exact LeO.none _
      | refine LeO.ite ?_ ?_
      | refine LeO.bind ?_ (fun _ => ?_)
set_option maxHeartbeats 8000000 in
set_option maxRecDepth 100000 in
theorem semantic_zzCut.calls (k : Nat) (a0 : ByteArray) (a1 : ByteArray) (r1 : ByteArray) (r2 : ByteArray) (r3 : Bool) (w : World) (h : semantic_zzCut.f k a0 a1 = some (r1, r2, r3)) :
    Calls Tryd.prog 35 #[.string a0, .string a1] w fun e w' => e = .returned (.tuple #[.string r1, .string r2, .bool r3]) ∧ Drawn0 w w' := by
  have H : ((semantic_zzIndex.f k a0 a1).bind fun t134 => (if t134 ≥ 0 then (if 0 ≤ t134 then (if t134 ≤ (a0.size : Int) then (if 0 ≤ (wrap64 (t134 + (a1.size : Int))) then (if (wrap64 (t134 + (a1.size : Int))) ≤ (a0.size : Int) then (some (a0.extract 0 (t134 : Int).toNat, a0.extract ((wrap64 (t134 + (a1.size : Int))) : Int).toNat a0.size, true)) else (none)) else (none)) else (none)) else (none)) else (some (a0, (⟨#[]⟩ : ByteArray), false)))) = some (r1, r2, r3) := h
  clear h
  replace H := Option.bind_eq_some_iff.mp H
  obtain ⟨t134, A30, H⟩ := H
  replace H : (if t134 ≥ 0 then (if 0 ≤ t134 then (if t134 ≤ (a0.size : Int) then (if 0 ≤ (wrap64 (t134 + (a1.size : Int))) then (if (wrap64 (t134 + (a1.size : Int))) ≤ (a0.size : Int) then (some (a0.extract 0 (t134 : Int).toNat, a0.extract ((wrap64 (t134 + (a1.size : Int))) : Int).toNat a0.size, true)) else (none)) else (none)) else (none)) else (none)) else (some (a0, (⟨#[]⟩ : ByteArray), false))) = some (r1, r2, r3) := H
  have A3 := Aside0.mk A30
  clear A30
  by_cases c4 : t134 ≥ 0
  · rw [if_pos c4] at H
    have c4b0 : decide (0 ≤ t134) = true := decide_eq_true c4
    clear c4
    by_cases c5 : 0 ≤ t134
    · rw [if_pos c5] at H
      have c5b0 := eq_true c5
      have c5b1 : decide (0 ≤ t134) = true := decide_eq_true c5
      clear c5
      by_cases c6 : t134 ≤ (a0.size : Int)
      · rw [if_pos c6] at H
        have c6b0 := eq_true c6
        have c6b1 : decide (t134 ≤ (a0.size : Int)) = true := decide_eq_true c6
        clear c6
        obtain ⟨ji7, hji7⟩ : ∃ j_ : Int, (wrap64 (t134 + (a1.size : Int))) = j_ := ⟨_, rfl⟩
        replace H : (if 0 ≤ (ji7) then (if (ji7) ≤ (a0.size : Int) then (some (a0.extract 0 (t134 : Int).toNat, a0.extract ((ji7) : Int).toNat a0.size, true)) else (none)) else (none)) = some (r1, r2, r3) := by first | (rw [hji7] at H; exact H) | (simp only [hji7] at H ⊢; exact H)
        (try rw [hji7] at A3)
        have hji7w : (IntKind.i64.wrap (t134 + (a1.size : Int))) = ji7 := (i64_w _).trans hji7
        by_cases c8 : 0 ≤ (ji7)
        · rw [if_pos c8] at H
          have c8b0 := eq_true c8
          have c8b1 : decide (0 ≤ (ji7)) = true := decide_eq_true c8
          clear c8
          by_cases c9 : (ji7) ≤ (a0.size : Int)
          · rw [if_pos c9] at H
            have c9b0 := eq_true c9
            have c9b1 : decide ((ji7) ≤ (a0.size : Int)) = true := decide_eq_true c9
            clear c9
            simp only [Option.some.injEq, Prod.mk.injEq] at H
            obtain ⟨rfl, rfl, rfl⟩ := H
            go_enter Tryd.func35, Tryd.ntmps35
            go_wp2_with (first | (go_at_call 43; (with_reducible refine (semantic_zzIndex.calls k a0 a1 t134 _ A3.out).mono ?_); rintro e w' ⟨rfl, ⟨nd, rfl⟩⟩; (try first | exact ⟨rfl, _, World.drewN_drewN _ _ _⟩ | exact ⟨rfl, _, Eq.trans (World.drewN_drewN _ _ _) (congrArg (World.drewN _) (Nat.add_assoc _ _ _))⟩)))
            repeat (go_quiet (first | (go_at_call 43; (with_reducible refine (semantic_zzIndex.calls k a0 a1 t134 _ A3.out).mono ?_); rintro e w' ⟨rfl, ⟨nd, rfl⟩⟩; (try first | exact ⟨rfl, _, World.drewN_drewN _ _ _⟩ | exact ⟨rfl, _, Eq.trans (World.drewN_drewN _ _ _) (congrArg (World.drewN _) (Nat.add_assoc _ _ _))⟩))); try go_wp2_with (first | (go_at_call 43; (with_reducible refine (semantic_zzIndex.calls k a0 a1 t134 _ A3.out).mono ?_); rintro e w' ⟨rfl, ⟨nd, rfl⟩⟩; (try first | exact ⟨rfl, _, World.drewN_drewN _ _ _⟩ | exact ⟨rfl, _, Eq.trans (World.drewN_drewN _ _ _) (congrArg (World.drewN _) (Nat.add_assoc _ _ _))⟩))))
            go_ret3
            exact ⟨by first | rfl | (simp; done) | (simp only [← hji7] <;> (first | rfl | simp)) | (simp [*]; done), by repeat (first | exact Drawn0.refl _ | apply Drawn0.step)⟩
          · rw [if_neg c9] at H
            exact absurd H (by simp)
        · rw [if_neg c8] at H
          exact absurd H (by simp)
      · rw [if_neg c6] at H
        exact absurd H (by simp)
    · rw [if_neg c5] at H
      exact absurd H (by simp)
  · rw [if_neg c4] at H
    have c4b0 : decide (0 ≤ t134) = false := decide_eq_false c4
    clear c4
    simp only [Option.some.injEq, Prod.mk.injEq] at H
    obtain ⟨rfl, rfl, rfl⟩ := H
    go_enter Tryd.func35, Tryd.ntmps35
    go_wp2_with (first | (go_at_call 43; (with_reducible refine (semantic_zzIndex.calls k a0 a1 t134 _ A3.out).mono ?_); rintro e w' ⟨rfl, ⟨nd, rfl⟩⟩; (try first | exact ⟨rfl, _, World.drewN_drewN _ _ _⟩ | exact ⟨rfl, _, Eq.trans (World.drewN_drewN _ _ _) (congrArg (World.drewN _) (Nat.add_assoc _ _ _))⟩)))
    repeat (go_quiet (first | (go_at_call 43; (with_reducible refine (semantic_zzIndex.calls k a0 a1 t134 _ A3.out).mono ?_); rintro e w' ⟨rfl, ⟨nd, rfl⟩⟩; (try first | exact ⟨rfl, _, World.drewN_drewN _ _ _⟩ | exact ⟨rfl, _, Eq.trans (World.drewN_drewN _ _ _) (congrArg (World.drewN _) (Nat.add_assoc _ _ _))⟩))); try go_wp2_with (first | (go_at_call 43; (with_reducible refine (semantic_zzIndex.calls k a0 a1 t134 _ A3.out).mono ?_); rintro e w' ⟨rfl, ⟨nd, rfl⟩⟩; (try first | exact ⟨rfl, _, World.drewN_drewN _ _ _⟩ | exact ⟨rfl, _, Eq.trans (World.drewN_drewN _ _ _) (congrArg (World.drewN _) (Nat.add_assoc _ _ _))⟩))))
    go_ret3
    exact ⟨by first | rfl | (simp; done) | (simp [*]; done), by repeat (first | exact Drawn0.refl _ | apply Drawn0.step)⟩

end Go.Proofs.YtciojhhncfnagaaDoor.Z
