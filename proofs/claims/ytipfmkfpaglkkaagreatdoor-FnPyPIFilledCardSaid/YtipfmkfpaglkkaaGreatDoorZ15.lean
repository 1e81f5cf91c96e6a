-- Written by a program of this session (myprint.py).
import Derived.Test.YtipfmkfpaglkkaaGreatDoorZ0
import Derived.Test.YtipfmkfpaglkkaaGreatDoorGe
namespace Go.Proofs.YtipfmkfpaglkkaaGreatDoor.Z
open Go.Proofs.YtipfmkfpaglkkaaGreatDoor.Gw
open Go.RowKit Go.Proofs.YtipfmkfpaglkkaaGreatDoorW.PrintWords Go.Proofs.YtipfmkfpaglkkaaGreatDoorW.PrintLast Go.Proofs.YtipfmkfpaglkkaaGreatDoorW.PrintMore
attribute [local go_sem high] Go.Proofs.YtipfmkfpaglkkaaGreatDoor.Ge.gtr_str
attribute [local go_sem] max2_int min2_int max_two min_two max_three min_three max_four min_four   -- for this text's walks alone
set_option linter.unusedVariables false
set_option linter.unusedSimpArgs false

/-! ### laws_one: function 26 -/
def laws_one.f  : Option (Bool × ByteArray) := some (false, (⟨#[1]⟩ : ByteArray))
set_option maxHeartbeats 8000000 in
set_option maxRecDepth 100000 in
theorem laws_one.calls  (r1 : Bool) (r2 : ByteArray) (w : World) (h : laws_one.f  = some (r1, r2)) :
  Calls Tryz.prog 26 #[] w fun e w' => e = .returned (.agg #[.bool r1, .string r2]) ∧ Below w.heap.size w w' := by
 have hu23 := Tryz.underlying23
 have HB := Aside0.mk (Below.refl w.heap.size w)
 have H : (some (false, (⟨#[1]⟩ : ByteArray))) = some (r1, r2) := h
 clear h
 simp only [Option.some.injEq, Prod.mk.injEq] at H
 obtain ⟨rfl, rfl⟩ := H
 go_enter Tryz.func26, Tryz.ntmps26
 go_wp2_with (first | ((with_reducible refine gate_dst (N := 0) rfl ?_); refine box_event ?hg (N := 0) ?hd (cs := #[.bool false, .string (⟨#[]⟩ : ByteArray)]) (t := 23) ?hr ?_; (case hd => rfl); (case hg => rfl); (case hr => first | (go_simp; done) | (go_simp; rfl)); intro gb169 hg w1 hbox hb; have n0_ := Aside0.mk (below_step (by repeat (first | (with_reducible first | exact HB.out | apply below_alloc | apply pw_below_drewN | apply below_drew1) | exact HB.out)) hb); have n1_ := Aside0.mk (hbox); have n2_ := Aside0.mk ((by rw [hg]; exact (below_size (by repeat (first | (with_reducible first | exact HB.out | apply below_alloc | apply pw_below_drewN | apply below_drew1) | exact HB.out))) : w.heap.size ≤ gb169)); have n3_ := Aside0.mk ((by rw [hg]; exact (below_size (by repeat (first | (with_reducible first | exact HB.out | apply below_alloc | apply pw_below_drewN | apply below_drew1) | exact HB.out))) : w.heap.size ≤ gb169)); clear HB; have HB := n0_; have BK169 := n1_; have GW169 := n2_; have GE169 := n3_; clear n0_ n1_ n2_ n3_; clear hb hbox hg; have hcz2_0 : w1.cell? ⟨gb169, 0, none⟩ = some (.bool false) := (blk_cell BK169.out 0).trans rfl; have hcz2_1 : w1.cell? ⟨gb169, 1, none⟩ = some (.string (⟨#[]⟩ : ByteArray)) := (blk_cell BK169.out 1).trans rfl; have hfz2_0 := blk_frozen BK169.out 0; have hfz2_1 := blk_frozen BK169.out 1))
 refine bodyPost_ret (results_cell_row rfl _ _ gb169 23 #[.bool false, .string (⟨#[1]⟩ : ByteArray)] (0, 0) _ rfl (by (with_reducible repeat (first | refine blk_drewN ?_ _ | refine blk_drew ?_ | refine blk_alloc ?_ _)); refine blk_put (cs := #[.bool false, .string (⟨#[]⟩ : ByteArray)]) ?_ 1 _ rfl; (with_reducible repeat (first | refine blk_drewN ?_ _ | refine blk_drew ?_ | refine blk_alloc ?_ _)); refine blk_put (cs := #[.bool false, .string (⟨#[]⟩ : ByteArray)]) ?_ 0 _ rfl; (with_reducible repeat (first | refine blk_drewN ?_ _ | refine blk_drew ?_ | refine blk_alloc ?_ _)); exact BK169.out) Tryz.underlying23 rfl (by kernel_rfl)) rfl ?_
 exact ⟨by first | rfl | (simp [errW_none, errW_some] <;> rfl) | (simp [*, errW_none, errW_some] <;> rfl), by repeat (first | (with_reducible first | exact HB.out | apply below_alloc | apply pw_below_drewN | apply below_drew1 | refine below_set ?_ GE169.out) | exact HB.out)⟩

/-! ### laws_two: function 27 -/
def laws_two.f  : Option (Bool × ByteArray) := some (false, (⟨#[2]⟩ : ByteArray))
set_option maxHeartbeats 8000000 in
set_option maxRecDepth 100000 in
theorem laws_two.calls  (r1 : Bool) (r2 : ByteArray) (w : World) (h : laws_two.f  = some (r1, r2)) :
  Calls Tryz.prog 27 #[] w fun e w' => e = .returned (.agg #[.bool r1, .string r2]) ∧ Below w.heap.size w w' := by
 have hu23 := Tryz.underlying23
 have HB := Aside0.mk (Below.refl w.heap.size w)
 have H : (some (false, (⟨#[2]⟩ : ByteArray))) = some (r1, r2) := h
 clear h
 simp only [Option.some.injEq, Prod.mk.injEq] at H
 obtain ⟨rfl, rfl⟩ := H
 go_enter Tryz.func27, Tryz.ntmps27
 go_wp2_with (first | ((with_reducible refine gate_dst (N := 0) rfl ?_); refine box_event ?hg (N := 0) ?hd (cs := #[.bool false, .string (⟨#[]⟩ : ByteArray)]) (t := 23) ?hr ?_; (case hd => rfl); (case hg => rfl); (case hr => first | (go_simp; done) | (go_simp; rfl)); intro gb170 hg w1 hbox hb; have n0_ := Aside0.mk (below_step (by repeat (first | (with_reducible first | exact HB.out | apply below_alloc | apply pw_below_drewN | apply below_drew1) | exact HB.out)) hb); have n1_ := Aside0.mk (hbox); have n2_ := Aside0.mk ((by rw [hg]; exact (below_size (by repeat (first | (with_reducible first | exact HB.out | apply below_alloc | apply pw_below_drewN | apply below_drew1) | exact HB.out))) : w.heap.size ≤ gb170)); have n3_ := Aside0.mk ((by rw [hg]; exact (below_size (by repeat (first | (with_reducible first | exact HB.out | apply below_alloc | apply pw_below_drewN | apply below_drew1) | exact HB.out))) : w.heap.size ≤ gb170)); clear HB; have HB := n0_; have BK170 := n1_; have GW170 := n2_; have GE170 := n3_; clear n0_ n1_ n2_ n3_; clear hb hbox hg; have hcz2_0 : w1.cell? ⟨gb170, 0, none⟩ = some (.bool false) := (blk_cell BK170.out 0).trans rfl; have hcz2_1 : w1.cell? ⟨gb170, 1, none⟩ = some (.string (⟨#[]⟩ : ByteArray)) := (blk_cell BK170.out 1).trans rfl; have hfz2_0 := blk_frozen BK170.out 0; have hfz2_1 := blk_frozen BK170.out 1))
 refine bodyPost_ret (results_cell_row rfl _ _ gb170 23 #[.bool false, .string (⟨#[2]⟩ : ByteArray)] (0, 0) _ rfl (by (with_reducible repeat (first | refine blk_drewN ?_ _ | refine blk_drew ?_ | refine blk_alloc ?_ _)); refine blk_put (cs := #[.bool false, .string (⟨#[]⟩ : ByteArray)]) ?_ 1 _ rfl; (with_reducible repeat (first | refine blk_drewN ?_ _ | refine blk_drew ?_ | refine blk_alloc ?_ _)); refine blk_put (cs := #[.bool false, .string (⟨#[]⟩ : ByteArray)]) ?_ 0 _ rfl; (with_reducible repeat (first | refine blk_drewN ?_ _ | refine blk_drew ?_ | refine blk_alloc ?_ _)); exact BK170.out) Tryz.underlying23 rfl (by kernel_rfl)) rfl ?_
 exact ⟨by first | rfl | (simp [errW_none, errW_some] <;> rfl) | (simp [*, errW_none, errW_some] <;> rfl), by repeat (first | (with_reducible first | exact HB.out | apply below_alloc | apply pw_below_drewN | apply below_drew1 | refine below_set ?_ GE170.out) | exact HB.out)⟩

end Go.Proofs.YtipfmkfpaglkkaaGreatDoor.Z
