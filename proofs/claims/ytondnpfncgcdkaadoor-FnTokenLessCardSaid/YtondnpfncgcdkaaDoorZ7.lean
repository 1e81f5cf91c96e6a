-- Written by a program of this session (myprint.py).
import Derived.Test.YtondnpfncgcdkaaDoorZ0
import Derived.Test.YtondnpfncgcdkaaDoorZ1
import Derived.Test.YtondnpfncgcdkaaDoorZ4
import Derived.Test.YtondnpfncgcdkaaDoorZ6
import Derived.Test.YtondnpfncgcdkaaDoorGe
namespace Go.Proofs.YtondnpfncgcdkaaDoor.Z
open Go.Proofs.YtondnpfncgcdkaaDoor.Gw
open Go.RowKit Go.Proofs.YtondnpfncgcdkaaDoorW.PrintWords Go.Proofs.YtondnpfncgcdkaaDoorW.PrintLast Go.Proofs.YtondnpfncgcdkaaDoorW.PrintMore
attribute [local go_sem high] Go.Proofs.YtondnpfncgcdkaaDoor.Ge.gtr_str
attribute [local go_sem] max2_int min2_int max_two min_two max_three min_three max_four min_four   -- for this text's walks alone
set_option linter.unusedVariables false
set_option linter.unusedSimpArgs false

/-! ### laws_FnTokenLess: function 3 -/
mutual
def laws_FnTokenLess.j0 : Nat → Bool → ByteArray → ByteArray → Bool → ByteArray → ByteArray → Bool → Option (Bool)
  | 0, _, _, _, _, _, _, _ => none
  | k + 1, x18, x150000, x150001, x150002, x151000, x151001, x151002 => if x18 = true then (some true) else ((laws_short.f k (([x150000, x150001, x151000, x151001] : List ByteArray))).bind fun t156 => (if t156 = true then ((spec_TokenKnown.f k x150000 x150001 x150002).bind fun t157 => (if t157 = true then ((spec_TokenKnown.f k x151000 x151001 x151002).bind fun t158 => (laws_FnTokenLess.j1 k (!t158) x150000 x150001 x150002 x151000 x151001 x151002)) else (laws_FnTokenLess.j1 k true x150000 x150001 x150002 x151000 x151001 x151002))) else (laws_FnTokenLess.j1 k true x150000 x150001 x150002 x151000 x151001 x151002)))
def laws_FnTokenLess.j1 : Nat → Bool → ByteArray → ByteArray → Bool → ByteArray → ByteArray → Bool → Option (Bool)
  | 0, _, _, _, _, _, _, _ => none
  | k + 1, x39, x150000, x150001, x150002, x151000, x151001, x151002 => if x39 = true then (some true) else ((impl_TokenLess.f x150000 x150001 x150002 x151000 x151001 x151002).bind fun bt159 => ((spec_TokenLess.f k x150000 x150001 x150002 x151000 x151001 x151002).bind fun bt161 => ((impl_TokenLess.f x151000 x151001 x151002 x150000 x150001 x150002).bind fun bt163 => (if (bt159.1 == bt161.1) = true then (if (bt159.2 == bt161.2) = true then (if (bt163.2 == bt161.2) = true then (if bt159.1 = true then (some (!bt163.1)) else (some (!false))) else (some false)) else (some false)) else (some false)))))
end
def laws_FnTokenLess.f (k : Nat) (a0_0 : ByteArray) (a0_1 : ByteArray) (a0_2 : Bool) (a1_0 : ByteArray) (a1_1 : ByteArray) (a1_2 : Bool) : Option (Bool) := (laws_zzFits11.f a0_0 a0_1 a0_2).bind fun t151 => (if t151 = true then ((laws_zzFits11.f a1_0 a1_1 a1_2).bind fun t152 => (laws_FnTokenLess.j0 k (!t152) a0_0 a0_1 a0_2 a1_0 a1_1 a1_2)) else (laws_FnTokenLess.j0 k true a0_0 a0_1 a0_2 a1_0 a1_1 a1_2))
theorem laws_FnTokenLess.mono_l : ∀ k, (∀ y0 y1 y2 y3 y4 y5 y6, LeO (laws_FnTokenLess.j0 k y0 y1 y2 y3 y4 y5 y6) (laws_FnTokenLess.j0 (k + 1) y0 y1 y2 y3 y4 y5 y6)) ∧ (∀ y0 y1 y2 y3 y4 y5 y6, LeO (laws_FnTokenLess.j1 k y0 y1 y2 y3 y4 y5 y6) (laws_FnTokenLess.j1 (k + 1) y0 y1 y2 y3 y4 y5 y6))
  | 0 => ⟨fun _ _ _ _ _ _ _ r h => by simp [laws_FnTokenLess.j0] at h, fun _ _ _ _ _ _ _ r h => by simp [laws_FnTokenLess.j1] at h⟩
  | k + 1 => by
    obtain ⟨ih0, ih1⟩ := laws_FnTokenLess.mono_l k
    refine ⟨?_, ?_⟩
    · intro y0 y1 y2 y3 y4 y5 y6
      unfold laws_FnTokenLess.j0
      repeat' first
      | (with_reducible exact ih0 _ _ _ _ _ _ _)
      | (with_reducible exact ih1 _ _ _ _ _ _ _)
      | (with_reducible exact laws_short.mono _ _)
      | (with_reducible exact spec_TokenKnown.mono _ _ _ _)
      | (with_reducible exact spec_TokenLess.mono _ _ _ _ _ _ _)
      | (with_reducible exact LeO.refl _)
      | (with_reducible exact LeO.none _)
      | (with_reducible refine LeO.ite ?_ ?_)
      | (with_reducible refine LeO.bind ?_ (fun _ => ?_))
      | exact ih0 _ _ _ _ _ _ _
      | exact ih1 _ _ _ _ _ _ _
      | exact laws_short.mono _ _
      | exact spec_TokenKnown.mono _ _ _ _
      | exact spec_TokenLess.mono _ _ _ _ _ _ _
      | exact LeO.none _
      | refine LeO.ite ?_ ?_
      | refine LeO.bind ?_ (fun _ => ?_)
    · intro y0 y1 y2 y3 y4 y5 y6
      unfold laws_FnTokenLess.j1
      repeat' first
      | (with_reducible exact ih0 _ _ _ _ _ _ _)
      | (with_reducible exact ih1 _ _ _ _ _ _ _)
      | (with_reducible exact laws_short.mono _ _)
      | (with_reducible exact spec_TokenKnown.mono _ _ _ _)
      | (with_reducible exact spec_TokenLess.mono _ _ _ _ _ _ _)
      | (with_reducible exact LeO.refl _)
      | (with_reducible exact LeO.none _)
      | (with_reducible refine LeO.ite ?_ ?_)
      | (with_reducible refine LeO.bind ?_ (fun _ => ?_))
      | exact ih0 _ _ _ _ _ _ _
      | exact ih1 _ _ _ _ _ _ _
      | exact laws_short.mono _ _
      | exact spec_TokenKnown.mono _ _ _ _
      | exact spec_TokenLess.mono _ _ _ _ _ _ _
      | exact LeO.none _
      | refine LeO.ite ?_ ?_
      | refine LeO.bind ?_ (fun _ => ?_)
theorem laws_FnTokenLess.mono : ∀ a0 a1 a2 a3 a4 a5 k, LeO (laws_FnTokenLess.f k a0 a1 a2 a3 a4 a5) (laws_FnTokenLess.f (k + 1) a0 a1 a2 a3 a4 a5) := by
  intro a0 a1 a2 a3 a4 a5 k
  obtain ⟨ih0, ih1⟩ := laws_FnTokenLess.mono_l k
  unfold laws_FnTokenLess.f
  repeat' first
      | (with_reducible exact ih0 _ _ _ _ _ _ _)
      | (with_reducible exact ih1 _ _ _ _ _ _ _)
      | (with_reducible exact laws_short.mono _ _)
      | (with_reducible exact spec_TokenKnown.mono _ _ _ _)
      | (with_reducible exact spec_TokenLess.mono _ _ _ _ _ _ _)
      | (with_reducible exact LeO.refl _)
      | (with_reducible exact LeO.none _)
      | (with_reducible refine LeO.ite ?_ ?_)
      | (with_reducible refine LeO.bind ?_ (fun _ => ?_))
      | exact ih0 _ _ _ _ _ _ _
      | exact ih1 _ _ _ _ _ _ _
      | exact laws_short.mono _ _
      | exact spec_TokenKnown.mono _ _ _ _
      | exact spec_TokenLess.mono _ _ _ _ _ _ _
      | exact LeO.none _
      | refine LeO.ite ?_ ?_
      | refine LeO.bind ?_ (fun _ => ?_)
set_option maxHeartbeats 8000000 in
set_option maxRecDepth 100000 in
theorem laws_FnTokenLess.calls (k : Nat) (a0_0 : ByteArray) (a0_1 : ByteArray) (a0_2 : Bool) (a1_0 : ByteArray) (a1_1 : ByteArray) (a1_2 : Bool) (r : Bool) (w : World) (hG : GW w) (h : laws_FnTokenLess.f k a0_0 a0_1 a0_2 a1_0 a1_1 a1_2 = some r) :
    Calls Tryd.prog 3 #[.agg #[.string a0_0, .string a0_1, .bool a0_2], .agg #[.string a1_0, .string a1_1, .bool a1_2]] w fun e w' => e = .returned (.bool r) ∧ Below w.heap.size w w' := by
  have HG := Aside0.mk hG
  clear hG
  have hu23 := Tryd.underlying23
  have HB := Aside0.mk (Below.refl w.heap.size w)
  have H : ((laws_zzFits11.f a0_0 a0_1 a0_2).bind fun t151 => (if t151 = true then ((laws_zzFits11.f a1_0 a1_1 a1_2).bind fun t152 => (laws_FnTokenLess.j0 k (!t152) a0_0 a0_1 a0_2 a1_0 a1_1 a1_2)) else (laws_FnTokenLess.j0 k true a0_0 a0_1 a0_2 a1_0 a1_1 a1_2))) = some r := h
  clear h
  have HC3 := Aside0.mk H
  clear H
  go_enter Tryd.func3, Tryd.ntmps3
  go_upto_region 1 with (first | ((with_reducible refine gate_dst (N := 2) rfl ?_); refine box_event ?hg (N := 2) ?hd (cs := #[.string a0_0, .string a0_1, .bool a0_2]) (t := 23) ?hr ?_; (case hd => rfl); (case hg => rfl); (case hr => first | (go_simp; done) | (go_simp; rfl)); intro gb149 hg w4 hbox hb; have n0_ := Aside0.mk (below_step (by repeat (first | (with_reducible first | exact HB.out | apply below_alloc | apply pw_below_drewN | apply below_drew1) | exact HB.out)) hb); have n1_ := Aside0.mk (hbox); have n2_ := Aside0.mk ((by rw [hg]; exact (below_size (by repeat (first | (with_reducible first | exact HB.out | apply below_alloc | apply pw_below_drewN | apply below_drew1) | exact HB.out))) : w.heap.size ≤ gb149)); have n3_ := Aside0.mk ((by rw [hg]; exact (below_size (by repeat (first | (with_reducible first | exact HB.out | apply below_alloc | apply pw_below_drewN | apply below_drew1) | exact HB.out))) : w.heap.size ≤ gb149)); clear HB; have HB := n0_; have BK149 := n1_; have GW149 := n2_; have GE149 := n3_; clear n0_ n1_ n2_ n3_; clear hb hbox hg) | ((with_reducible refine gate_dst (N := 3) rfl ?_); refine box_event ?hg (N := 3) ?hd (cs := #[.string a1_0, .string a1_1, .bool a1_2]) (t := 23) ?hr ?_; (case hd => rfl); (case hg => rfl); (case hr => first | (go_simp; done) | (go_simp; rfl)); intro gb150 hg w5 hbox hb; have n0_ := Aside0.mk (blk_below (g := gb149) (o := .cells #[.string a0_0, .string a0_1, .bool a0_2] 23 (0, 0)) (by (with_reducible repeat (first | refine blk_drewN ?_ _ | refine blk_drew ?_ | refine blk_alloc ?_ _)); exact BK149.out) hb); have n1_ := Aside0.mk (below_step (by repeat (first | (with_reducible first | exact HB.out | apply below_alloc | apply pw_below_drewN | apply below_drew1 | refine below_set ?_ GE149.out) | exact HB.out)) hb); have n2_ := Aside0.mk (hbox); have n3_ := Aside0.mk ((by rw [hg]; exact (below_size (by repeat (first | (with_reducible first | exact HB.out | apply below_alloc | apply pw_below_drewN | apply below_drew1 | refine below_set ?_ GE149.out) | exact HB.out))) : w.heap.size ≤ gb150)); have n4_ := Aside0.mk ((by rw [hg]; exact (below_size (by repeat (first | (with_reducible first | exact HB.out | apply below_alloc | apply pw_below_drewN | apply below_drew1 | refine below_set ?_ GE149.out) | exact HB.out))) : w.heap.size ≤ gb150)); have n5_ := Aside0.mk ((by rw [hg]; exact Nat.ne_of_lt (blk_lt (g := gb149) (o := .cells #[.string a0_0, .string a0_1, .bool a0_2] 23 (0, 0)) (by (with_reducible repeat (first | refine blk_drewN ?_ _ | refine blk_drew ?_ | refine blk_alloc ?_ _)); exact BK149.out)) : gb149 ≠ gb150)); have n6_ := Aside0.mk ((by rw [hg]; exact Nat.ne_of_gt (blk_lt (g := gb149) (o := .cells #[.string a0_0, .string a0_1, .bool a0_2] 23 (0, 0)) (by (with_reducible repeat (first | refine blk_drewN ?_ _ | refine blk_drew ?_ | refine blk_alloc ?_ _)); exact BK149.out)) : gb150 ≠ gb149)); clear BK149; clear HB; have BK149 := n0_; have HB := n1_; have BK150 := n2_; have GW150 := n3_; have GE150 := n4_; have NB149_150 := n5_; have NB150_149 := n6_; clear n0_ n1_ n2_ n3_ n4_ n5_ n6_; clear hb hbox hg))
  (try simp only [Act.put, List.setIfInBounds_toArray, List.set_cons_zero, List.set_cons_succ])
  go_cut [18] (fun v18 wc => ∃ (kq : Nat) (x18_2 : Bool), v18 = .bool x18_2 ∧ Aside0 (laws_FnTokenLess.j0 kq x18_2 a0_0 a0_1 a0_2 a1_0 a1_1 a1_2 = some r) ∧ Aside0 (kq ≤ k) ∧ Aside0 (wc.heap[gb149]? = some (.cells #[.string a0_0, .string a0_1, .bool a0_2] 23 (0, 0))) ∧ Aside0 (wc.heap[gb150]? = some (.cells #[.string a1_0, .string a1_1, .bool a1_2] 23 (0, 0))) ∧ Aside0 (Below w.heap.size w wc))
  case first =>
    have H := HC3.out
    clear HC3
    replace H := Option.bind_eq_some_iff.mp H
    obtain ⟨t151, A60, H⟩ := H
    replace H : (if t151 = true then ((laws_zzFits11.f a1_0 a1_1 a1_2).bind fun t152 => (laws_FnTokenLess.j0 k (!t152) a0_0 a0_1 a0_2 a1_0 a1_1 a1_2)) else (laws_FnTokenLess.j0 k true a0_0 a0_1 a0_2 a1_0 a1_1 a1_2)) = some r := H
    have A6 := Aside0.mk A60
    clear A60
    by_cases c7 : t151 = true
    · subst c7
      have H1 : ((laws_zzFits11.f a1_0 a1_1 a1_2).bind fun t152 => (laws_FnTokenLess.j0 k (!t152) a0_0 a0_1 a0_2 a1_0 a1_1 a1_2)) = some r := by rw [if_pos rfl] at H; exact H
      clear H
      have H := H1
      clear H1
      replace H := Option.bind_eq_some_iff.mp H
      obtain ⟨t152, A80, H⟩ := H
      replace H : (laws_FnTokenLess.j0 k (!t152) a0_0 a0_1 a0_2 a1_0 a1_1 a1_2) = some r := H
      have A8 := Aside0.mk A80
      clear A80
      have H' := Aside0.mk H
      clear H
      have hnb9 := NB149_150.out
      have hnc9 := NB150_149.out
      have hcz10_0 : w5.cell? ⟨gb149, 0, none⟩ = some (.string a0_0) := (blk_cell BK149.out 0).trans rfl
      have hcz10_1 : w5.cell? ⟨gb149, 1, none⟩ = some (.string a0_1) := (blk_cell BK149.out 1).trans rfl
      have hcz10_2 : w5.cell? ⟨gb149, 2, none⟩ = some (.bool a0_2) := (blk_cell BK149.out 2).trans rfl
      have hfz10_0 := blk_frozen BK149.out 0
      have hfz10_1 := blk_frozen BK149.out 1
      have hfz10_2 := blk_frozen BK149.out 2
      go_wp2_with (first | ((with_reducible refine gate_callee (f := 6) rfl ?_); refine goesL_ (some 12) rfl rfl Tryd.func6 (by kernel_rfl) rfl #[.agg #[.string a0_0, .string a0_1, .bool a0_2]] rfl (by (try simp only [List.map_toArray, List.map_cons, List.map_nil]); first | done | rfl | (simp only [List.length_drop, List.length_take]; rfl)) ?_; (with_reducible refine (laws_zzFits11.calls a0_0 a0_1 a0_2 true _ A6.out).mono ?_); rintro e w11 ⟨rfl, hb⟩; refine ⟨_, rfl, ?_⟩; have n0_ := Aside0.mk (blk_below (g := gb149) (o := .cells #[.string a0_0, .string a0_1, .bool a0_2] 23 (0, 0)) (by (with_reducible repeat (first | refine blk_drewN ?_ _ | refine blk_drew ?_ | refine blk_alloc ?_ _)); exact BK149.out) hb); have n1_ := Aside0.mk (blk_below (g := gb150) (o := .cells #[.string a1_0, .string a1_1, .bool a1_2] 23 (0, 0)) (by (with_reducible repeat (first | refine blk_drewN ?_ _ | refine blk_drew ?_ | refine blk_alloc ?_ _)); exact BK150.out) hb); have n2_ := Aside0.mk (below_step (by repeat (first | (with_reducible first | exact HB.out | apply below_alloc | apply pw_below_drewN | apply below_drew1 | refine below_set ?_ GE149.out | refine below_set ?_ GE150.out) | exact HB.out)) hb); clear BK149; clear BK150; clear HB; have BK149 := n0_; have BK150 := n1_; have HB := n2_; clear n0_ n1_ n2_; (try clear hb); (try clear hb2); (try clear hk); (try clear hi); have hcz12_0 : w11.cell? ⟨gb150, 0, none⟩ = some (.string a1_0) := (blk_cell BK150.out 0).trans rfl; have hcz12_1 : w11.cell? ⟨gb150, 1, none⟩ = some (.string a1_1) := (blk_cell BK150.out 1).trans rfl; have hcz12_2 : w11.cell? ⟨gb150, 2, none⟩ = some (.bool a1_2) := (blk_cell BK150.out 2).trans rfl; have hfz12_0 := blk_frozen BK150.out 0; have hfz12_1 := blk_frozen BK150.out 1; have hfz12_2 := blk_frozen BK150.out 2) | (go_at_call 6; (with_reducible refine (laws_zzFits11.calls a1_0 a1_1 a1_2 t152 _ A8.out).mono ?_); rintro e w13 ⟨rfl, hb⟩; have n0_ := Aside0.mk (blk_below (g := gb149) (o := .cells #[.string a0_0, .string a0_1, .bool a0_2] 23 (0, 0)) (by (with_reducible repeat (first | refine blk_drewN ?_ _ | refine blk_drew ?_ | refine blk_alloc ?_ _)); exact BK149.out) hb); have n1_ := Aside0.mk (blk_below (g := gb150) (o := .cells #[.string a1_0, .string a1_1, .bool a1_2] 23 (0, 0)) (by (with_reducible repeat (first | refine blk_drewN ?_ _ | refine blk_drew ?_ | refine blk_alloc ?_ _)); exact BK150.out) hb); have n2_ := Aside0.mk (below_step (by repeat (first | (with_reducible first | exact HB.out | apply below_alloc | apply pw_below_drewN | apply below_drew1 | refine below_set ?_ GE149.out | refine below_set ?_ GE150.out) | exact HB.out)) hb); clear BK149; clear BK150; clear HB; have BK149 := n0_; have BK150 := n1_; have HB := n2_; clear n0_ n1_ n2_; (try clear hb); (try clear hb2); (try clear hk); (try clear hi)))
      go_meet
      case rel => exact ⟨_, (!t152), (by first | rfl | (simp; done) | (simp [*]; done)), H', ⟨by first | omega | exact Nat.le_refl _⟩, ⟨by (with_reducible repeat (first | refine blk_drewN ?_ _ | refine blk_drew ?_ | refine blk_alloc ?_ _)); exact BK149.out⟩, ⟨by (with_reducible repeat (first | refine blk_drewN ?_ _ | refine blk_drew ?_ | refine blk_alloc ?_ _)); exact BK150.out⟩, ⟨by repeat (first | (with_reducible first | exact HB.out | apply below_alloc | apply pw_below_drewN | apply below_drew1 | refine below_set ?_ GE149.out | refine below_set ?_ GE150.out) | exact HB.out)⟩⟩
    · replace c7 := Bool.eq_false_iff.mpr c7
      subst c7
      have H1 : (laws_FnTokenLess.j0 k true a0_0 a0_1 a0_2 a1_0 a1_1 a1_2) = some r := by rw [if_neg (show ¬ (false = true) by decide)] at H; exact H
      clear H
      have H := H1
      clear H1
      have H' := Aside0.mk H
      clear H
      have hnb14 := NB149_150.out
      have hnc14 := NB150_149.out
      have hcz15_0 : w5.cell? ⟨gb149, 0, none⟩ = some (.string a0_0) := (blk_cell BK149.out 0).trans rfl
      have hcz15_1 : w5.cell? ⟨gb149, 1, none⟩ = some (.string a0_1) := (blk_cell BK149.out 1).trans rfl
      have hcz15_2 : w5.cell? ⟨gb149, 2, none⟩ = some (.bool a0_2) := (blk_cell BK149.out 2).trans rfl
      have hfz15_0 := blk_frozen BK149.out 0
      have hfz15_1 := blk_frozen BK149.out 1
      have hfz15_2 := blk_frozen BK149.out 2
      go_wp2_with (first | ((with_reducible refine gate_callee (f := 6) rfl ?_); refine goesL_ (some 12) rfl rfl Tryd.func6 (by kernel_rfl) rfl #[.agg #[.string a0_0, .string a0_1, .bool a0_2]] rfl (by (try simp only [List.map_toArray, List.map_cons, List.map_nil]); first | done | rfl | (simp only [List.length_drop, List.length_take]; rfl)) ?_; (with_reducible refine (laws_zzFits11.calls a0_0 a0_1 a0_2 false _ A6.out).mono ?_); rintro e w16 ⟨rfl, hb⟩; refine ⟨_, rfl, ?_⟩; have n0_ := Aside0.mk (blk_below (g := gb149) (o := .cells #[.string a0_0, .string a0_1, .bool a0_2] 23 (0, 0)) (by (with_reducible repeat (first | refine blk_drewN ?_ _ | refine blk_drew ?_ | refine blk_alloc ?_ _)); exact BK149.out) hb); have n1_ := Aside0.mk (blk_below (g := gb150) (o := .cells #[.string a1_0, .string a1_1, .bool a1_2] 23 (0, 0)) (by (with_reducible repeat (first | refine blk_drewN ?_ _ | refine blk_drew ?_ | refine blk_alloc ?_ _)); exact BK150.out) hb); have n2_ := Aside0.mk (below_step (by repeat (first | (with_reducible first | exact HB.out | apply below_alloc | apply pw_below_drewN | apply below_drew1 | refine below_set ?_ GE149.out | refine below_set ?_ GE150.out) | exact HB.out)) hb); clear BK149; clear BK150; clear HB; have BK149 := n0_; have BK150 := n1_; have HB := n2_; clear n0_ n1_ n2_; (try clear hb); (try clear hb2); (try clear hk); (try clear hi)))
      go_meet
      case rel => exact ⟨_, (true), (by first | rfl | (simp; done) | (simp [*]; done)), H', ⟨by first | omega | exact Nat.le_refl _⟩, ⟨by (with_reducible repeat (first | refine blk_drewN ?_ _ | refine blk_drew ?_ | refine blk_alloc ?_ _)); exact BK149.out⟩, ⟨by (with_reducible repeat (first | refine blk_drewN ?_ _ | refine blk_drew ?_ | refine blk_alloc ?_ _)); exact BK150.out⟩, ⟨by repeat (first | (with_reducible first | exact HB.out | apply below_alloc | apply pw_below_drewN | apply below_drew1 | refine below_set ?_ GE149.out | refine below_set ?_ GE150.out) | exact HB.out)⟩⟩
  case rest =>
    clear HC3
    try clear c1
    try clear p2
    try clear c3
    try clear c6
    try clear c7
    try clear c9
    try clear c14
    try clear hcz10_0
    try clear hcz10_1
    try clear hcz10_2
    try clear hcz12_0
    try clear hcz12_1
    try clear hcz12_2
    try clear hcz15_0
    try clear hcz15_1
    try clear hcz15_2
    try clear hfz10_0
    try clear hfz10_1
    try clear hfz10_2
    try clear hfz12_0
    try clear hfz12_1
    try clear hfz12_2
    try clear hfz15_0
    try clear hfz15_1
    try clear hfz15_2
    obtain ⟨kq, x18_2, rfl, HA, HJ2, BK149, BK150, HB⟩ := hcut
    cases kq with
    | zero => exact absurd HA.out (by simp [laws_FnTokenLess.j0])
    | succ kj2 =>
      have H := HA.out
      clear HA
      simp only [laws_FnTokenLess.j0] at H
      by_cases c17 : x18_2 = true
      · subst c17
        have H1 : (some true) = some r := by rw [if_pos rfl] at H; exact H
        clear H
        have H := H1
        clear H1
        obtain rfl := Option.some.inj H
        go_wp2
        go_ret
        exact ⟨by first | rfl | (simp [errW_none, errW_some] <;> rfl) | (simp [*, errW_none, errW_some] <;> rfl), by repeat (first | (with_reducible first | exact HB.out | apply below_alloc | apply pw_below_drewN | apply below_drew1 | refine below_set ?_ GE149.out | refine below_set ?_ GE150.out) | exact HB.out)⟩
      · replace c17 := Bool.eq_false_iff.mpr c17
        subst c17
        have H1 : ((laws_short.f kj2 (([a0_0, a0_1, a1_0, a1_1] : List ByteArray))).bind fun t156 => (if t156 = true then ((spec_TokenKnown.f kj2 a0_0 a0_1 a0_2).bind fun t157 => (if t157 = true then ((spec_TokenKnown.f kj2 a1_0 a1_1 a1_2).bind fun t158 => (laws_FnTokenLess.j1 kj2 (!t158) a0_0 a0_1 a0_2 a1_0 a1_1 a1_2)) else (laws_FnTokenLess.j1 kj2 true a0_0 a0_1 a0_2 a1_0 a1_1 a1_2))) else (laws_FnTokenLess.j1 kj2 true a0_0 a0_1 a0_2 a1_0 a1_1 a1_2))) = some r := by rw [if_neg (show ¬ (false = true) by decide)] at H; exact H
        clear H
        have H := H1
        clear H1
        have HC18 := Aside0.mk H
        clear H
        go_upto_region 3 with (fail)
        go_cut [39] (fun v39 wc => ∃ (kq : Nat) (x39_17 : Bool), v39 = .bool x39_17 ∧ Aside0 (laws_FnTokenLess.j1 kq x39_17 a0_0 a0_1 a0_2 a1_0 a1_1 a1_2 = some r) ∧ Aside0 (kq ≤ kj2) ∧ Aside0 (wc.heap[gb149]? = some (.cells #[.string a0_0, .string a0_1, .bool a0_2] 23 (0, 0))) ∧ Aside0 (wc.heap[gb150]? = some (.cells #[.string a1_0, .string a1_1, .bool a1_2] 23 (0, 0))) ∧ Aside0 (Below w.heap.size w wc))
        case first =>
          have H := HC18.out
          clear HC18
          obtain ⟨y153, hy153⟩ : ∃ y_ : List ByteArray, y_ = (([a0_0, a0_1, a1_0, a1_1] : List ByteArray)) := ⟨_, rfl⟩
          replace H : ((laws_short.f kj2 y153).bind fun t156 => (if t156 = true then ((spec_TokenKnown.f kj2 a0_0 a0_1 a0_2).bind fun t157 => (if t157 = true then ((spec_TokenKnown.f kj2 a1_0 a1_1 a1_2).bind fun t158 => (laws_FnTokenLess.j1 kj2 (!t158) a0_0 a0_1 a0_2 a1_0 a1_1 a1_2)) else (laws_FnTokenLess.j1 kj2 true a0_0 a0_1 a0_2 a1_0 a1_1 a1_2))) else (laws_FnTokenLess.j1 kj2 true a0_0 a0_1 a0_2 a1_0 a1_1 a1_2))) = some r := by first | (rw [hy153]; with_reducible exact H) | (have H2_ := (Option.bind_some _ _).symm.trans H; rw [hy153]; with_reducible exact H2_) | (have H2_ := (Option.bind_some _ _).symm.trans H; with_reducible exact H2_) | with_reducible exact H | (rw [hy153]; exact H) | exact H
          have Ny153 := Aside0.mk hy153
          clear hy153
          replace H := Option.bind_eq_some_iff.mp H
          obtain ⟨t156, A190, H⟩ := H
          replace H : (if t156 = true then ((spec_TokenKnown.f kj2 a0_0 a0_1 a0_2).bind fun t157 => (if t157 = true then ((spec_TokenKnown.f kj2 a1_0 a1_1 a1_2).bind fun t158 => (laws_FnTokenLess.j1 kj2 (!t158) a0_0 a0_1 a0_2 a1_0 a1_1 a1_2)) else (laws_FnTokenLess.j1 kj2 true a0_0 a0_1 a0_2 a1_0 a1_1 a1_2))) else (laws_FnTokenLess.j1 kj2 true a0_0 a0_1 a0_2 a1_0 a1_1 a1_2)) = some r := H
          have A19 := Aside0.mk A190
          clear A190
          by_cases c20 : t156 = true
          · subst c20
            have H1 : ((spec_TokenKnown.f kj2 a0_0 a0_1 a0_2).bind fun t157 => (if t157 = true then ((spec_TokenKnown.f kj2 a1_0 a1_1 a1_2).bind fun t158 => (laws_FnTokenLess.j1 kj2 (!t158) a0_0 a0_1 a0_2 a1_0 a1_1 a1_2)) else (laws_FnTokenLess.j1 kj2 true a0_0 a0_1 a0_2 a1_0 a1_1 a1_2))) = some r := by rw [if_pos rfl] at H; exact H
            clear H
            have H := H1
            clear H1
            replace H := Option.bind_eq_some_iff.mp H
            obtain ⟨t157, A210, H⟩ := H
            replace H : (if t157 = true then ((spec_TokenKnown.f kj2 a1_0 a1_1 a1_2).bind fun t158 => (laws_FnTokenLess.j1 kj2 (!t158) a0_0 a0_1 a0_2 a1_0 a1_1 a1_2)) else (laws_FnTokenLess.j1 kj2 true a0_0 a0_1 a0_2 a1_0 a1_1 a1_2)) = some r := H
            have A21 := Aside0.mk A210
            clear A210
            by_cases c22 : t157 = true
            · subst c22
              have H1 : ((spec_TokenKnown.f kj2 a1_0 a1_1 a1_2).bind fun t158 => (laws_FnTokenLess.j1 kj2 (!t158) a0_0 a0_1 a0_2 a1_0 a1_1 a1_2)) = some r := by rw [if_pos rfl] at H; exact H
              clear H
              have H := H1
              clear H1
              replace H := Option.bind_eq_some_iff.mp H
              obtain ⟨t158, A230, H⟩ := H
              replace H : (laws_FnTokenLess.j1 kj2 (!t158) a0_0 a0_1 a0_2 a1_0 a1_1 a1_2) = some r := H
              have A23 := Aside0.mk A230
              clear A230
              have H' := Aside0.mk H
              clear H
              have hnb24 := NB149_150.out
              have hnc24 := NB150_149.out
              have hcz25_0 : wc.cell? ⟨gb149, 0, none⟩ = some (.string a0_0) := (blk_cell BK149.out 0).trans rfl
              have hcz25_1 : wc.cell? ⟨gb149, 1, none⟩ = some (.string a0_1) := (blk_cell BK149.out 1).trans rfl
              have hcz25_2 : wc.cell? ⟨gb149, 2, none⟩ = some (.bool a0_2) := (blk_cell BK149.out 2).trans rfl
              have hfz25_0 := blk_frozen BK149.out 0
              have hfz25_1 := blk_frozen BK149.out 1
              have hfz25_2 := blk_frozen BK149.out 2
              have hcz26_0 : wc.cell? ⟨gb150, 0, none⟩ = some (.string a1_0) := (blk_cell BK150.out 0).trans rfl
              have hcz26_1 : wc.cell? ⟨gb150, 1, none⟩ = some (.string a1_1) := (blk_cell BK150.out 1).trans rfl
              have hcz26_2 : wc.cell? ⟨gb150, 2, none⟩ = some (.bool a1_2) := (blk_cell BK150.out 2).trans rfl
              have hfz26_0 := blk_frozen BK150.out 0
              have hfz26_1 := blk_frozen BK150.out 1
              have hfz26_2 := blk_frozen BK150.out 2
              go_wp2_with (first | ((with_reducible refine gate_dst (N := 27) rfl ?_); refine Kd.R_lit Kd.string _ 9 ?hg (N := 27) ?hd (xs := ([a0_0, a0_1, a1_0, a1_1] : List ByteArray)) (inner := [.string a0_0, .string a0_1, .string a1_0, .string a1_1]) (ok := fun _ => True) (okp := fun _ => True) ?hr ?hp (fun _ hk => hk) trivial (Below.refl _ _) (Nat.le_refl _) (by simp) ?_; (case hd => rfl); (case hg => rfl); (case hr => first | (go_simp; done) | (go_simp; rfl)); (case hp => exact (Reps.one (show Kd.M Kd.string _ _ _ a0_0 [.string a0_0] from rfl) (Reps.one (show Kd.M Kd.string _ _ _ a0_1 [.string a0_1] from rfl) (Reps.one (show Kd.M Kd.string _ _ _ a1_0 [.string a1_0] from rfl) (Reps.one (show Kd.M Kd.string _ _ _ a1_1 [.string a1_1] from rfl) (Reps.none _ _)))))); intro v154 w27 ho28 hb hg_ hnew_; clear hg_ hnew_; (first | rw [← Ny153.out] at ho28 | (simp only [Int.reduceToNat] at ho28; rw [← Ny153.out] at ho28)); have n0_ := Aside0.mk (Kd.R_lower ho28 (below_size (by repeat (first | (with_reducible first | exact HB.out | apply below_alloc | apply pw_below_drewN | apply below_drew1 | refine below_set ?_ GE149.out | refine below_set ?_ GE150.out) | exact HB.out)))); have n1_ := Aside0.mk (blk_below (g := gb149) (o := .cells #[.string a0_0, .string a0_1, .bool a0_2] 23 (0, 0)) (by (with_reducible repeat (first | refine blk_drewN ?_ _ | refine blk_drew ?_ | refine blk_alloc ?_ _)); exact BK149.out) hb); have n2_ := Aside0.mk (blk_below (g := gb150) (o := .cells #[.string a1_0, .string a1_1, .bool a1_2] 23 (0, 0)) (by (with_reducible repeat (first | refine blk_drewN ?_ _ | refine blk_drew ?_ | refine blk_alloc ?_ _)); exact BK150.out) hb); have n3_ := Aside0.mk (below_step (by repeat (first | (with_reducible first | exact HB.out | apply below_alloc | apply pw_below_drewN | apply below_drew1 | refine below_set ?_ GE149.out | refine below_set ?_ GE150.out) | exact HB.out)) hb); clear BK149; clear BK150; clear HB; have HO155 := n0_; have BK149 := n1_; have BK150 := n2_; have HB := n3_; clear n0_ n1_ n2_ n3_; clear hb ho28; obtain ⟨Ao29, co29, eo29⟩ := Kd.R_slice HO155.out; subst eo29) | ((with_reducible refine gate_callee (f := 7) rfl ?_); refine goesL_ (some 28) rfl rfl Tryd.func7 (by kernel_rfl) rfl #[.slice Ao29 y153.length co29] rfl (by (try simp only [List.map_toArray, List.map_cons, List.map_nil]); first | done | rfl | (simp only [List.length_drop, List.length_take]; rfl)) ?_; (with_reducible refine (laws_short.calls kj2 _ _ y153 true _ ?side1 ?side2 A19.out).mono ?_); (case side1 => repeat (first | exact (Kd.R_reads' HO155.out).2.2 | (with_reducible refine Kd.C_alloc ?_ _) | (with_reducible refine Kd.C_drewN ?_ _) | (with_reducible refine Kd.C_drew ?_))); (case side2 => exact (Kd.R_reads' HO155.out).2.1); rintro e w' ⟨rfl, ⟨nd, rfl⟩⟩; refine ⟨_, rfl, ?_⟩; have hcz30_0 : w27.cell? ⟨gb149, 0, none⟩ = some (.string a0_0) := (blk_cell BK149.out 0).trans rfl; have hcz30_1 : w27.cell? ⟨gb149, 1, none⟩ = some (.string a0_1) := (blk_cell BK149.out 1).trans rfl; have hcz30_2 : w27.cell? ⟨gb149, 2, none⟩ = some (.bool a0_2) := (blk_cell BK149.out 2).trans rfl; have hfz30_0 := blk_frozen BK149.out 0; have hfz30_1 := blk_frozen BK149.out 1; have hfz30_2 := blk_frozen BK149.out 2) | (go_at_call 8; (with_reducible refine (spec_TokenKnown.calls kj2 a0_0 a0_1 a0_2 true _ A21.out).mono ?_); rintro e w31 ⟨rfl, hb⟩; have n0_ := Aside0.mk (Kd.R_below (by (with_reducible repeat (first | apply Kd.R_alloc | apply Kd.R_drewN | apply Kd.R_drew)); exact HO155.out) hb); have n1_ := Aside0.mk (blk_below (g := gb149) (o := .cells #[.string a0_0, .string a0_1, .bool a0_2] 23 (0, 0)) (by (with_reducible repeat (first | refine blk_drewN ?_ _ | refine blk_drew ?_ | refine blk_alloc ?_ _)); exact BK149.out) hb); have n2_ := Aside0.mk (blk_below (g := gb150) (o := .cells #[.string a1_0, .string a1_1, .bool a1_2] 23 (0, 0)) (by (with_reducible repeat (first | refine blk_drewN ?_ _ | refine blk_drew ?_ | refine blk_alloc ?_ _)); exact BK150.out) hb); have n3_ := Aside0.mk (below_step (by repeat (first | (with_reducible first | exact HB.out | apply below_alloc | apply pw_below_drewN | apply below_drew1 | refine below_set ?_ GE149.out | refine below_set ?_ GE150.out) | exact HB.out)) hb); clear HO155; clear BK149; clear BK150; clear HB; have HO155 := n0_; have BK149 := n1_; have BK150 := n2_; have HB := n3_; clear n0_ n1_ n2_ n3_; (try clear hb); (try clear hb2); (try clear hk); (try clear hi); have hcz32_0 : w31.cell? ⟨gb150, 0, none⟩ = some (.string a1_0) := (blk_cell BK150.out 0).trans rfl; have hcz32_1 : w31.cell? ⟨gb150, 1, none⟩ = some (.string a1_1) := (blk_cell BK150.out 1).trans rfl; have hcz32_2 : w31.cell? ⟨gb150, 2, none⟩ = some (.bool a1_2) := (blk_cell BK150.out 2).trans rfl; have hfz32_0 := blk_frozen BK150.out 0; have hfz32_1 := blk_frozen BK150.out 1; have hfz32_2 := blk_frozen BK150.out 2) | (go_at_call 8; (with_reducible refine (spec_TokenKnown.calls kj2 a1_0 a1_1 a1_2 t158 _ A23.out).mono ?_); rintro e w33 ⟨rfl, hb⟩; have n0_ := Aside0.mk (Kd.R_below (by (with_reducible repeat (first | apply Kd.R_alloc | apply Kd.R_drewN | apply Kd.R_drew)); exact HO155.out) hb); have n1_ := Aside0.mk (blk_below (g := gb149) (o := .cells #[.string a0_0, .string a0_1, .bool a0_2] 23 (0, 0)) (by (with_reducible repeat (first | refine blk_drewN ?_ _ | refine blk_drew ?_ | refine blk_alloc ?_ _)); exact BK149.out) hb); have n2_ := Aside0.mk (blk_below (g := gb150) (o := .cells #[.string a1_0, .string a1_1, .bool a1_2] 23 (0, 0)) (by (with_reducible repeat (first | refine blk_drewN ?_ _ | refine blk_drew ?_ | refine blk_alloc ?_ _)); exact BK150.out) hb); have n3_ := Aside0.mk (below_step (by repeat (first | (with_reducible first | exact HB.out | apply below_alloc | apply pw_below_drewN | apply below_drew1 | refine below_set ?_ GE149.out | refine below_set ?_ GE150.out) | exact HB.out)) hb); clear HO155; clear BK149; clear BK150; clear HB; have HO155 := n0_; have BK149 := n1_; have BK150 := n2_; have HB := n3_; clear n0_ n1_ n2_ n3_; (try clear hb); (try clear hb2); (try clear hk); (try clear hi)))
              go_meet
              case rel => exact ⟨_, (!t158), (by first | rfl | (simp; done) | (simp [*]; done)), H', ⟨by have := HJ2.out; first | omega | exact Nat.le_refl _⟩, ⟨by (with_reducible repeat (first | refine blk_drewN ?_ _ | refine blk_drew ?_ | refine blk_alloc ?_ _)); exact BK149.out⟩, ⟨by (with_reducible repeat (first | refine blk_drewN ?_ _ | refine blk_drew ?_ | refine blk_alloc ?_ _)); exact BK150.out⟩, ⟨by repeat (first | (with_reducible first | exact HB.out | apply below_alloc | apply pw_below_drewN | apply below_drew1 | refine below_set ?_ GE149.out | refine below_set ?_ GE150.out) | exact HB.out)⟩⟩
            · replace c22 := Bool.eq_false_iff.mpr c22
              subst c22
              have H1 : (laws_FnTokenLess.j1 kj2 true a0_0 a0_1 a0_2 a1_0 a1_1 a1_2) = some r := by rw [if_neg (show ¬ (false = true) by decide)] at H; exact H
              clear H
              have H := H1
              clear H1
              have H' := Aside0.mk H
              clear H
              have hnb34 := NB149_150.out
              have hnc34 := NB150_149.out
              have hcz35_0 : wc.cell? ⟨gb149, 0, none⟩ = some (.string a0_0) := (blk_cell BK149.out 0).trans rfl
              have hcz35_1 : wc.cell? ⟨gb149, 1, none⟩ = some (.string a0_1) := (blk_cell BK149.out 1).trans rfl
              have hcz35_2 : wc.cell? ⟨gb149, 2, none⟩ = some (.bool a0_2) := (blk_cell BK149.out 2).trans rfl
              have hfz35_0 := blk_frozen BK149.out 0
              have hfz35_1 := blk_frozen BK149.out 1
              have hfz35_2 := blk_frozen BK149.out 2
              have hcz36_0 : wc.cell? ⟨gb150, 0, none⟩ = some (.string a1_0) := (blk_cell BK150.out 0).trans rfl
              have hcz36_1 : wc.cell? ⟨gb150, 1, none⟩ = some (.string a1_1) := (blk_cell BK150.out 1).trans rfl
              have hcz36_2 : wc.cell? ⟨gb150, 2, none⟩ = some (.bool a1_2) := (blk_cell BK150.out 2).trans rfl
              have hfz36_0 := blk_frozen BK150.out 0
              have hfz36_1 := blk_frozen BK150.out 1
              have hfz36_2 := blk_frozen BK150.out 2
              go_wp2_with (first | ((with_reducible refine gate_dst (N := 27) rfl ?_); refine Kd.R_lit Kd.string _ 9 ?hg (N := 27) ?hd (xs := ([a0_0, a0_1, a1_0, a1_1] : List ByteArray)) (inner := [.string a0_0, .string a0_1, .string a1_0, .string a1_1]) (ok := fun _ => True) (okp := fun _ => True) ?hr ?hp (fun _ hk => hk) trivial (Below.refl _ _) (Nat.le_refl _) (by simp) ?_; (case hd => rfl); (case hg => rfl); (case hr => first | (go_simp; done) | (go_simp; rfl)); (case hp => exact (Reps.one (show Kd.M Kd.string _ _ _ a0_0 [.string a0_0] from rfl) (Reps.one (show Kd.M Kd.string _ _ _ a0_1 [.string a0_1] from rfl) (Reps.one (show Kd.M Kd.string _ _ _ a1_0 [.string a1_0] from rfl) (Reps.one (show Kd.M Kd.string _ _ _ a1_1 [.string a1_1] from rfl) (Reps.none _ _)))))); intro v154 w37 ho38 hb hg_ hnew_; clear hg_ hnew_; (first | rw [← Ny153.out] at ho38 | (simp only [Int.reduceToNat] at ho38; rw [← Ny153.out] at ho38)); have n0_ := Aside0.mk (Kd.R_lower ho38 (below_size (by repeat (first | (with_reducible first | exact HB.out | apply below_alloc | apply pw_below_drewN | apply below_drew1 | refine below_set ?_ GE149.out | refine below_set ?_ GE150.out) | exact HB.out)))); have n1_ := Aside0.mk (blk_below (g := gb149) (o := .cells #[.string a0_0, .string a0_1, .bool a0_2] 23 (0, 0)) (by (with_reducible repeat (first | refine blk_drewN ?_ _ | refine blk_drew ?_ | refine blk_alloc ?_ _)); exact BK149.out) hb); have n2_ := Aside0.mk (blk_below (g := gb150) (o := .cells #[.string a1_0, .string a1_1, .bool a1_2] 23 (0, 0)) (by (with_reducible repeat (first | refine blk_drewN ?_ _ | refine blk_drew ?_ | refine blk_alloc ?_ _)); exact BK150.out) hb); have n3_ := Aside0.mk (below_step (by repeat (first | (with_reducible first | exact HB.out | apply below_alloc | apply pw_below_drewN | apply below_drew1 | refine below_set ?_ GE149.out | refine below_set ?_ GE150.out) | exact HB.out)) hb); clear BK149; clear BK150; clear HB; have HO155 := n0_; have BK149 := n1_; have BK150 := n2_; have HB := n3_; clear n0_ n1_ n2_ n3_; clear hb ho38; obtain ⟨Ao39, co39, eo39⟩ := Kd.R_slice HO155.out; subst eo39) | ((with_reducible refine gate_callee (f := 7) rfl ?_); refine goesL_ (some 28) rfl rfl Tryd.func7 (by kernel_rfl) rfl #[.slice Ao39 y153.length co39] rfl (by (try simp only [List.map_toArray, List.map_cons, List.map_nil]); first | done | rfl | (simp only [List.length_drop, List.length_take]; rfl)) ?_; (with_reducible refine (laws_short.calls kj2 _ _ y153 true _ ?side1 ?side2 A19.out).mono ?_); (case side1 => repeat (first | exact (Kd.R_reads' HO155.out).2.2 | (with_reducible refine Kd.C_alloc ?_ _) | (with_reducible refine Kd.C_drewN ?_ _) | (with_reducible refine Kd.C_drew ?_))); (case side2 => exact (Kd.R_reads' HO155.out).2.1); rintro e w' ⟨rfl, ⟨nd, rfl⟩⟩; refine ⟨_, rfl, ?_⟩; have hcz40_0 : w37.cell? ⟨gb149, 0, none⟩ = some (.string a0_0) := (blk_cell BK149.out 0).trans rfl; have hcz40_1 : w37.cell? ⟨gb149, 1, none⟩ = some (.string a0_1) := (blk_cell BK149.out 1).trans rfl; have hcz40_2 : w37.cell? ⟨gb149, 2, none⟩ = some (.bool a0_2) := (blk_cell BK149.out 2).trans rfl; have hfz40_0 := blk_frozen BK149.out 0; have hfz40_1 := blk_frozen BK149.out 1; have hfz40_2 := blk_frozen BK149.out 2) | (go_at_call 8; (with_reducible refine (spec_TokenKnown.calls kj2 a0_0 a0_1 a0_2 false _ A21.out).mono ?_); rintro e w41 ⟨rfl, hb⟩; have n0_ := Aside0.mk (Kd.R_below (by (with_reducible repeat (first | apply Kd.R_alloc | apply Kd.R_drewN | apply Kd.R_drew)); exact HO155.out) hb); have n1_ := Aside0.mk (blk_below (g := gb149) (o := .cells #[.string a0_0, .string a0_1, .bool a0_2] 23 (0, 0)) (by (with_reducible repeat (first | refine blk_drewN ?_ _ | refine blk_drew ?_ | refine blk_alloc ?_ _)); exact BK149.out) hb); have n2_ := Aside0.mk (blk_below (g := gb150) (o := .cells #[.string a1_0, .string a1_1, .bool a1_2] 23 (0, 0)) (by (with_reducible repeat (first | refine blk_drewN ?_ _ | refine blk_drew ?_ | refine blk_alloc ?_ _)); exact BK150.out) hb); have n3_ := Aside0.mk (below_step (by repeat (first | (with_reducible first | exact HB.out | apply below_alloc | apply pw_below_drewN | apply below_drew1 | refine below_set ?_ GE149.out | refine below_set ?_ GE150.out) | exact HB.out)) hb); clear HO155; clear BK149; clear BK150; clear HB; have HO155 := n0_; have BK149 := n1_; have BK150 := n2_; have HB := n3_; clear n0_ n1_ n2_ n3_; (try clear hb); (try clear hb2); (try clear hk); (try clear hi)))
              go_meet
              case rel => exact ⟨_, (true), (by first | rfl | (simp; done) | (simp [*]; done)), H', ⟨by have := HJ2.out; first | omega | exact Nat.le_refl _⟩, ⟨by (with_reducible repeat (first | refine blk_drewN ?_ _ | refine blk_drew ?_ | refine blk_alloc ?_ _)); exact BK149.out⟩, ⟨by (with_reducible repeat (first | refine blk_drewN ?_ _ | refine blk_drew ?_ | refine blk_alloc ?_ _)); exact BK150.out⟩, ⟨by repeat (first | (with_reducible first | exact HB.out | apply below_alloc | apply pw_below_drewN | apply below_drew1 | refine below_set ?_ GE149.out | refine below_set ?_ GE150.out) | exact HB.out)⟩⟩
          · replace c20 := Bool.eq_false_iff.mpr c20
            subst c20
            have H1 : (laws_FnTokenLess.j1 kj2 true a0_0 a0_1 a0_2 a1_0 a1_1 a1_2) = some r := by rw [if_neg (show ¬ (false = true) by decide)] at H; exact H
            clear H
            have H := H1
            clear H1
            have H' := Aside0.mk H
            clear H
            have hnb42 := NB149_150.out
            have hnc42 := NB150_149.out
            have hcz43_0 : wc.cell? ⟨gb149, 0, none⟩ = some (.string a0_0) := (blk_cell BK149.out 0).trans rfl
            have hcz43_1 : wc.cell? ⟨gb149, 1, none⟩ = some (.string a0_1) := (blk_cell BK149.out 1).trans rfl
            have hcz43_2 : wc.cell? ⟨gb149, 2, none⟩ = some (.bool a0_2) := (blk_cell BK149.out 2).trans rfl
            have hfz43_0 := blk_frozen BK149.out 0
            have hfz43_1 := blk_frozen BK149.out 1
            have hfz43_2 := blk_frozen BK149.out 2
            have hcz44_0 : wc.cell? ⟨gb150, 0, none⟩ = some (.string a1_0) := (blk_cell BK150.out 0).trans rfl
            have hcz44_1 : wc.cell? ⟨gb150, 1, none⟩ = some (.string a1_1) := (blk_cell BK150.out 1).trans rfl
            have hcz44_2 : wc.cell? ⟨gb150, 2, none⟩ = some (.bool a1_2) := (blk_cell BK150.out 2).trans rfl
            have hfz44_0 := blk_frozen BK150.out 0
            have hfz44_1 := blk_frozen BK150.out 1
            have hfz44_2 := blk_frozen BK150.out 2
            go_wp2_with (first | ((with_reducible refine gate_dst (N := 27) rfl ?_); refine Kd.R_lit Kd.string _ 9 ?hg (N := 27) ?hd (xs := ([a0_0, a0_1, a1_0, a1_1] : List ByteArray)) (inner := [.string a0_0, .string a0_1, .string a1_0, .string a1_1]) (ok := fun _ => True) (okp := fun _ => True) ?hr ?hp (fun _ hk => hk) trivial (Below.refl _ _) (Nat.le_refl _) (by simp) ?_; (case hd => rfl); (case hg => rfl); (case hr => first | (go_simp; done) | (go_simp; rfl)); (case hp => exact (Reps.one (show Kd.M Kd.string _ _ _ a0_0 [.string a0_0] from rfl) (Reps.one (show Kd.M Kd.string _ _ _ a0_1 [.string a0_1] from rfl) (Reps.one (show Kd.M Kd.string _ _ _ a1_0 [.string a1_0] from rfl) (Reps.one (show Kd.M Kd.string _ _ _ a1_1 [.string a1_1] from rfl) (Reps.none _ _)))))); intro v154 w45 ho46 hb hg_ hnew_; clear hg_ hnew_; (first | rw [← Ny153.out] at ho46 | (simp only [Int.reduceToNat] at ho46; rw [← Ny153.out] at ho46)); have n0_ := Aside0.mk (Kd.R_lower ho46 (below_size (by repeat (first | (with_reducible first | exact HB.out | apply below_alloc | apply pw_below_drewN | apply below_drew1 | refine below_set ?_ GE149.out | refine below_set ?_ GE150.out) | exact HB.out)))); have n1_ := Aside0.mk (blk_below (g := gb149) (o := .cells #[.string a0_0, .string a0_1, .bool a0_2] 23 (0, 0)) (by (with_reducible repeat (first | refine blk_drewN ?_ _ | refine blk_drew ?_ | refine blk_alloc ?_ _)); exact BK149.out) hb); have n2_ := Aside0.mk (blk_below (g := gb150) (o := .cells #[.string a1_0, .string a1_1, .bool a1_2] 23 (0, 0)) (by (with_reducible repeat (first | refine blk_drewN ?_ _ | refine blk_drew ?_ | refine blk_alloc ?_ _)); exact BK150.out) hb); have n3_ := Aside0.mk (below_step (by repeat (first | (with_reducible first | exact HB.out | apply below_alloc | apply pw_below_drewN | apply below_drew1 | refine below_set ?_ GE149.out | refine below_set ?_ GE150.out) | exact HB.out)) hb); clear BK149; clear BK150; clear HB; have HO155 := n0_; have BK149 := n1_; have BK150 := n2_; have HB := n3_; clear n0_ n1_ n2_ n3_; clear hb ho46; obtain ⟨Ao47, co47, eo47⟩ := Kd.R_slice HO155.out; subst eo47) | ((with_reducible refine gate_callee (f := 7) rfl ?_); refine goesL_ (some 28) rfl rfl Tryd.func7 (by kernel_rfl) rfl #[.slice Ao47 y153.length co47] rfl (by (try simp only [List.map_toArray, List.map_cons, List.map_nil]); first | done | rfl | (simp only [List.length_drop, List.length_take]; rfl)) ?_; (with_reducible refine (laws_short.calls kj2 _ _ y153 false _ ?side1 ?side2 A19.out).mono ?_); (case side1 => repeat (first | exact (Kd.R_reads' HO155.out).2.2 | (with_reducible refine Kd.C_alloc ?_ _) | (with_reducible refine Kd.C_drewN ?_ _) | (with_reducible refine Kd.C_drew ?_))); (case side2 => exact (Kd.R_reads' HO155.out).2.1); rintro e w' ⟨rfl, ⟨nd, rfl⟩⟩; refine ⟨_, rfl, ?_⟩))
            go_meet
            case rel => exact ⟨_, (true), (by first | rfl | (simp; done) | (simp [*]; done)), H', ⟨by have := HJ2.out; first | omega | exact Nat.le_refl _⟩, ⟨by (with_reducible repeat (first | refine blk_drewN ?_ _ | refine blk_drew ?_ | refine blk_alloc ?_ _)); exact BK149.out⟩, ⟨by (with_reducible repeat (first | refine blk_drewN ?_ _ | refine blk_drew ?_ | refine blk_alloc ?_ _)); exact BK150.out⟩, ⟨by repeat (first | (with_reducible first | exact HB.out | apply below_alloc | apply pw_below_drewN | apply below_drew1 | refine below_set ?_ GE149.out | refine below_set ?_ GE150.out) | exact HB.out)⟩⟩
        case rest =>
          clear HC18
          try clear c1
          try clear c2
          try clear p2
          try clear c3
          try clear c4
          try clear c6
          try clear c7
          try clear c9
          try clear c14
          try clear c17
          try clear c20
          try clear c22
          try clear c24
          try clear c34
          try clear c42
          try clear hcz10_0
          try clear hcz10_1
          try clear hcz10_2
          try clear hcz12_0
          try clear hcz12_1
          try clear hcz12_2
          try clear hcz15_0
          try clear hcz15_1
          try clear hcz15_2
          try clear hcz25_0
          try clear hcz25_1
          try clear hcz25_2
          try clear hcz26_0
          try clear hcz26_1
          try clear hcz26_2
          try clear hcz30_0
          try clear hcz30_1
          try clear hcz30_2
          try clear hcz32_0
          try clear hcz32_1
          try clear hcz32_2
          try clear hcz35_0
          try clear hcz35_1
          try clear hcz35_2
          try clear hcz36_0
          try clear hcz36_1
          try clear hcz36_2
          try clear hcz40_0
          try clear hcz40_1
          try clear hcz40_2
          try clear hcz43_0
          try clear hcz43_1
          try clear hcz43_2
          try clear hcz44_0
          try clear hcz44_1
          try clear hcz44_2
          try clear hfz10_0
          try clear hfz10_1
          try clear hfz10_2
          try clear hfz12_0
          try clear hfz12_1
          try clear hfz12_2
          try clear hfz15_0
          try clear hfz15_1
          try clear hfz15_2
          try clear hfz25_0
          try clear hfz25_1
          try clear hfz25_2
          try clear hfz26_0
          try clear hfz26_1
          try clear hfz26_2
          try clear hfz30_0
          try clear hfz30_1
          try clear hfz30_2
          try clear hfz32_0
          try clear hfz32_1
          try clear hfz32_2
          try clear hfz35_0
          try clear hfz35_1
          try clear hfz35_2
          try clear hfz36_0
          try clear hfz36_1
          try clear hfz36_2
          try clear hfz40_0
          try clear hfz40_1
          try clear hfz40_2
          try clear hfz43_0
          try clear hfz43_1
          try clear hfz43_2
          try clear hfz44_0
          try clear hfz44_1
          try clear hfz44_2
          try clear p2
          obtain ⟨kq, x39_17, rfl, HA, HJ17, BK149, BK150, HB⟩ := hcut
          cases kq with
          | zero => exact absurd HA.out (by simp [laws_FnTokenLess.j1])
          | succ kj17 =>
            have H := HA.out
            clear HA
            simp only [laws_FnTokenLess.j1] at H
            by_cases c48 : x39_17 = true
            · subst c48
              have H1 : (some true) = some r := by rw [if_pos rfl] at H; exact H
              clear H
              have H := H1
              clear H1
              obtain rfl := Option.some.inj H
              go_wp2
              go_ret
              exact ⟨by first | rfl | (simp [errW_none, errW_some] <;> rfl) | (simp [*, errW_none, errW_some] <;> rfl), by repeat (first | (with_reducible first | exact HB.out | apply below_alloc | apply pw_below_drewN | apply below_drew1 | refine below_set ?_ GE149.out | refine below_set ?_ GE150.out) | exact HB.out)⟩
            · replace c48 := Bool.eq_false_iff.mpr c48
              subst c48
              have H1 : ((impl_TokenLess.f a0_0 a0_1 a0_2 a1_0 a1_1 a1_2).bind fun bt159 => ((spec_TokenLess.f kj17 a0_0 a0_1 a0_2 a1_0 a1_1 a1_2).bind fun bt161 => ((impl_TokenLess.f a1_0 a1_1 a1_2 a0_0 a0_1 a0_2).bind fun bt163 => (if (bt159.1 == bt161.1) = true then (if (bt159.2 == bt161.2) = true then (if (bt163.2 == bt161.2) = true then (if bt159.1 = true then (some (!bt163.1)) else (some (!false))) else (some false)) else (some false)) else (some false))))) = some r := by rw [if_neg (show ¬ (false = true) by decide)] at H; exact H
              clear H
              have H := H1
              clear H1
              replace H := Option.bind_eq_some_iff.mp H
              obtain ⟨⟨t159, t160⟩, A490, H⟩ := H
              replace H : ((spec_TokenLess.f kj17 a0_0 a0_1 a0_2 a1_0 a1_1 a1_2).bind fun bt161 => ((impl_TokenLess.f a1_0 a1_1 a1_2 a0_0 a0_1 a0_2).bind fun bt163 => (if (t159 == bt161.1) = true then (if (t160 == bt161.2) = true then (if (bt163.2 == bt161.2) = true then (if t159 = true then (some (!bt163.1)) else (some (!false))) else (some false)) else (some false)) else (some false)))) = some r := H
              have A49 := Aside0.mk A490
              clear A490
              replace H := Option.bind_eq_some_iff.mp H
              obtain ⟨⟨t161, t162⟩, A500, H⟩ := H
              replace H : ((impl_TokenLess.f a1_0 a1_1 a1_2 a0_0 a0_1 a0_2).bind fun bt163 => (if (t159 == t161) = true then (if (t160 == t162) = true then (if (bt163.2 == t162) = true then (if t159 = true then (some (!bt163.1)) else (some (!false))) else (some false)) else (some false)) else (some false))) = some r := H
              have A50 := Aside0.mk A500
              clear A500
              replace H := Option.bind_eq_some_iff.mp H
              obtain ⟨⟨t163, t164⟩, A510, H⟩ := H
              replace H : (if (t159 == t161) = true then (if (t160 == t162) = true then (if (t164 == t162) = true then (if t159 = true then (some (!t163)) else (some (!false))) else (some false)) else (some false)) else (some false)) = some r := H
              have A51 := Aside0.mk A510
              clear A510
              by_cases c52 : (t159 == t161) = true
              · rw [if_pos c52] at H
                have c52b0 : (t159 == t161) = true := c52
                (try (have c52b1 : decide (t159 = t161) = true := by simpa using c52))
                (try (have c52b2 : (t159 == t161) = true := by simpa using c52))
                clear c52
                by_cases c53 : (t160 == t162) = true
                · rw [if_pos c53] at H
                  have c53b0 : (t160 == t162) = true := c53
                  (try (have c53b1 : decide (t160 = t162) = true := by simpa using c53))
                  (try (have c53b2 : (t160 == t162) = true := by simpa using c53))
                  clear c53
                  by_cases c54 : (t164 == t162) = true
                  · rw [if_pos c54] at H
                    have c54b0 : (t164 == t162) = true := c54
                    (try (have c54b1 : decide (t164 = t162) = true := by simpa using c54))
                    (try (have c54b2 : (t164 == t162) = true := by simpa using c54))
                    clear c54
                    by_cases c55 : t159 = true
                    · subst c55
                      have H1 : (some (!t163)) = some r := by rw [if_pos rfl] at H; exact H
                      clear H
                      have H := H1
                      clear H1
                      obtain rfl := Option.some.inj H
                      have hnb56 := NB149_150.out
                      have hnc56 := NB150_149.out
                      have hcz57_0 : wc.cell? ⟨gb149, 0, none⟩ = some (.string a0_0) := (blk_cell BK149.out 0).trans rfl
                      have hcz57_1 : wc.cell? ⟨gb149, 1, none⟩ = some (.string a0_1) := (blk_cell BK149.out 1).trans rfl
                      have hcz57_2 : wc.cell? ⟨gb149, 2, none⟩ = some (.bool a0_2) := (blk_cell BK149.out 2).trans rfl
                      have hfz57_0 := blk_frozen BK149.out 0
                      have hfz57_1 := blk_frozen BK149.out 1
                      have hfz57_2 := blk_frozen BK149.out 2
                      have hcz58_0 : wc.cell? ⟨gb150, 0, none⟩ = some (.string a1_0) := (blk_cell BK150.out 0).trans rfl
                      have hcz58_1 : wc.cell? ⟨gb150, 1, none⟩ = some (.string a1_1) := (blk_cell BK150.out 1).trans rfl
                      have hcz58_2 : wc.cell? ⟨gb150, 2, none⟩ = some (.bool a1_2) := (blk_cell BK150.out 2).trans rfl
                      have hfz58_0 := blk_frozen BK150.out 0
                      have hfz58_1 := blk_frozen BK150.out 1
                      have hfz58_2 := blk_frozen BK150.out 2
                      go_wp2_with (first | ((with_reducible refine gate_callee (f := 9) rfl ?_); refine goesL_ (some 43) rfl rfl Tryd.func9 (by kernel_rfl) rfl #[.agg #[.string a0_0, .string a0_1, .bool a0_2], .agg #[.string a1_0, .string a1_1, .bool a1_2]] rfl (by (try simp only [List.map_toArray, List.map_cons, List.map_nil]); first | done | rfl | (simp only [List.length_drop, List.length_take]; rfl)) ?_; (with_reducible refine (impl_TokenLess.calls a0_0 a0_1 a0_2 a1_0 a1_1 a1_2 true t160 _ ?side1 A49.out).mono ?_); (case side1 => first | exact HG.out | exact GW.below HG.out (by repeat (first | (with_reducible first | exact HB.out | exact Below.refl _ _ | apply below_alloc | apply pw_below_drewN | apply below_drew1 | apply below_drew | refine below_set ?_ (Aside0.out (by assumption))) | exact HB.out))); rintro e w59 ⟨rfl, hb⟩; refine ⟨_, rfl, ?_⟩; have n0_ := Aside0.mk (blk_below (g := gb149) (o := .cells #[.string a0_0, .string a0_1, .bool a0_2] 23 (0, 0)) (by (with_reducible repeat (first | refine blk_drewN ?_ _ | refine blk_drew ?_ | refine blk_alloc ?_ _)); exact BK149.out) hb); have n1_ := Aside0.mk (blk_below (g := gb150) (o := .cells #[.string a1_0, .string a1_1, .bool a1_2] 23 (0, 0)) (by (with_reducible repeat (first | refine blk_drewN ?_ _ | refine blk_drew ?_ | refine blk_alloc ?_ _)); exact BK150.out) hb); have n2_ := Aside0.mk (below_step (by repeat (first | (with_reducible first | exact HB.out | apply below_alloc | apply pw_below_drewN | apply below_drew1 | refine below_set ?_ GE149.out | refine below_set ?_ GE150.out) | exact HB.out)) hb); clear BK149; clear BK150; clear HB; have BK149 := n0_; have BK150 := n1_; have HB := n2_; clear n0_ n1_ n2_; (try clear hb); (try clear hb2); (try clear hk); (try clear hi); have hcz60_0 : w59.cell? ⟨gb149, 0, none⟩ = some (.string a0_0) := (blk_cell BK149.out 0).trans rfl; have hcz60_1 : w59.cell? ⟨gb149, 1, none⟩ = some (.string a0_1) := (blk_cell BK149.out 1).trans rfl; have hcz60_2 : w59.cell? ⟨gb149, 2, none⟩ = some (.bool a0_2) := (blk_cell BK149.out 2).trans rfl; have hfz60_0 := blk_frozen BK149.out 0; have hfz60_1 := blk_frozen BK149.out 1; have hfz60_2 := blk_frozen BK149.out 2; have hcz61_0 : w59.cell? ⟨gb150, 0, none⟩ = some (.string a1_0) := (blk_cell BK150.out 0).trans rfl; have hcz61_1 : w59.cell? ⟨gb150, 1, none⟩ = some (.string a1_1) := (blk_cell BK150.out 1).trans rfl; have hcz61_2 : w59.cell? ⟨gb150, 2, none⟩ = some (.bool a1_2) := (blk_cell BK150.out 2).trans rfl; have hfz61_0 := blk_frozen BK150.out 0; have hfz61_1 := blk_frozen BK150.out 1; have hfz61_2 := blk_frozen BK150.out 2) | ((with_reducible refine gate_callee (f := 10) rfl ?_); refine goesL_ (some 49) rfl rfl Tryd.func10 (by kernel_rfl) rfl #[.agg #[.string a0_0, .string a0_1, .bool a0_2], .agg #[.string a1_0, .string a1_1, .bool a1_2]] rfl (by (try simp only [List.map_toArray, List.map_cons, List.map_nil]); first | done | rfl | (simp only [List.length_drop, List.length_take]; rfl)) ?_; (with_reducible refine (spec_TokenLess.calls kj17 a0_0 a0_1 a0_2 a1_0 a1_1 a1_2 t161 t162 _ A50.out).mono ?_); rintro e w62 ⟨rfl, hb⟩; refine ⟨_, rfl, ?_⟩; have n0_ := Aside0.mk (blk_below (g := gb149) (o := .cells #[.string a0_0, .string a0_1, .bool a0_2] 23 (0, 0)) (by (with_reducible repeat (first | refine blk_drewN ?_ _ | refine blk_drew ?_ | refine blk_alloc ?_ _)); exact BK149.out) hb); have n1_ := Aside0.mk (blk_below (g := gb150) (o := .cells #[.string a1_0, .string a1_1, .bool a1_2] 23 (0, 0)) (by (with_reducible repeat (first | refine blk_drewN ?_ _ | refine blk_drew ?_ | refine blk_alloc ?_ _)); exact BK150.out) hb); have n2_ := Aside0.mk (below_step (by repeat (first | (with_reducible first | exact HB.out | apply below_alloc | apply pw_below_drewN | apply below_drew1 | refine below_set ?_ GE149.out | refine below_set ?_ GE150.out) | exact HB.out)) hb); clear BK149; clear BK150; clear HB; have BK149 := n0_; have BK150 := n1_; have HB := n2_; clear n0_ n1_ n2_; (try clear hb); (try clear hb2); (try clear hk); (try clear hi); have hcz63_0 : w62.cell? ⟨gb150, 0, none⟩ = some (.string a1_0) := (blk_cell BK150.out 0).trans rfl; have hcz63_1 : w62.cell? ⟨gb150, 1, none⟩ = some (.string a1_1) := (blk_cell BK150.out 1).trans rfl; have hcz63_2 : w62.cell? ⟨gb150, 2, none⟩ = some (.bool a1_2) := (blk_cell BK150.out 2).trans rfl; have hfz63_0 := blk_frozen BK150.out 0; have hfz63_1 := blk_frozen BK150.out 1; have hfz63_2 := blk_frozen BK150.out 2; have hcz64_0 : w62.cell? ⟨gb149, 0, none⟩ = some (.string a0_0) := (blk_cell BK149.out 0).trans rfl; have hcz64_1 : w62.cell? ⟨gb149, 1, none⟩ = some (.string a0_1) := (blk_cell BK149.out 1).trans rfl; have hcz64_2 : w62.cell? ⟨gb149, 2, none⟩ = some (.bool a0_2) := (blk_cell BK149.out 2).trans rfl; have hfz64_0 := blk_frozen BK149.out 0; have hfz64_1 := blk_frozen BK149.out 1; have hfz64_2 := blk_frozen BK149.out 2) | ((with_reducible refine gate_callee (f := 9) rfl ?_); refine goesL_ (some 55) rfl rfl Tryd.func9 (by kernel_rfl) rfl #[.agg #[.string a1_0, .string a1_1, .bool a1_2], .agg #[.string a0_0, .string a0_1, .bool a0_2]] rfl (by (try simp only [List.map_toArray, List.map_cons, List.map_nil]); first | done | rfl | (simp only [List.length_drop, List.length_take]; rfl)) ?_; (with_reducible refine (impl_TokenLess.calls a1_0 a1_1 a1_2 a0_0 a0_1 a0_2 t163 t164 _ ?side1 A51.out).mono ?_); (case side1 => first | exact HG.out | exact GW.below HG.out (by repeat (first | (with_reducible first | exact HB.out | exact Below.refl _ _ | apply below_alloc | apply pw_below_drewN | apply below_drew1 | apply below_drew | refine below_set ?_ (Aside0.out (by assumption))) | exact HB.out))); rintro e w65 ⟨rfl, hb⟩; refine ⟨_, rfl, ?_⟩; have n0_ := Aside0.mk (blk_below (g := gb149) (o := .cells #[.string a0_0, .string a0_1, .bool a0_2] 23 (0, 0)) (by (with_reducible repeat (first | refine blk_drewN ?_ _ | refine blk_drew ?_ | refine blk_alloc ?_ _)); exact BK149.out) hb); have n1_ := Aside0.mk (blk_below (g := gb150) (o := .cells #[.string a1_0, .string a1_1, .bool a1_2] 23 (0, 0)) (by (with_reducible repeat (first | refine blk_drewN ?_ _ | refine blk_drew ?_ | refine blk_alloc ?_ _)); exact BK150.out) hb); have n2_ := Aside0.mk (below_step (by repeat (first | (with_reducible first | exact HB.out | apply below_alloc | apply pw_below_drewN | apply below_drew1 | refine below_set ?_ GE149.out | refine below_set ?_ GE150.out) | exact HB.out)) hb); clear BK149; clear BK150; clear HB; have BK149 := n0_; have BK150 := n1_; have HB := n2_; clear n0_ n1_ n2_; (try clear hb); (try clear hb2); (try clear hk); (try clear hi)))
                      go_ret
                      exact ⟨by first | rfl | (simp [errW_none, errW_some] <;> rfl) | (simp [*, errW_none, errW_some] <;> rfl), by repeat (first | (with_reducible first | exact HB.out | apply below_alloc | apply pw_below_drewN | apply below_drew1 | refine below_set ?_ GE149.out | refine below_set ?_ GE150.out) | exact HB.out)⟩
                    · replace c55 := Bool.eq_false_iff.mpr c55
                      subst c55
                      have H1 : (some (!false)) = some r := by rw [if_neg (show ¬ (false = true) by decide)] at H; exact H
                      clear H
                      have H := H1
                      clear H1
                      obtain rfl := Option.some.inj H
                      have hnb66 := NB149_150.out
                      have hnc66 := NB150_149.out
                      have hcz67_0 : wc.cell? ⟨gb149, 0, none⟩ = some (.string a0_0) := (blk_cell BK149.out 0).trans rfl
                      have hcz67_1 : wc.cell? ⟨gb149, 1, none⟩ = some (.string a0_1) := (blk_cell BK149.out 1).trans rfl
                      have hcz67_2 : wc.cell? ⟨gb149, 2, none⟩ = some (.bool a0_2) := (blk_cell BK149.out 2).trans rfl
                      have hfz67_0 := blk_frozen BK149.out 0
                      have hfz67_1 := blk_frozen BK149.out 1
                      have hfz67_2 := blk_frozen BK149.out 2
                      have hcz68_0 : wc.cell? ⟨gb150, 0, none⟩ = some (.string a1_0) := (blk_cell BK150.out 0).trans rfl
                      have hcz68_1 : wc.cell? ⟨gb150, 1, none⟩ = some (.string a1_1) := (blk_cell BK150.out 1).trans rfl
                      have hcz68_2 : wc.cell? ⟨gb150, 2, none⟩ = some (.bool a1_2) := (blk_cell BK150.out 2).trans rfl
                      have hfz68_0 := blk_frozen BK150.out 0
                      have hfz68_1 := blk_frozen BK150.out 1
                      have hfz68_2 := blk_frozen BK150.out 2
                      go_wp2_with (first | ((with_reducible refine gate_callee (f := 9) rfl ?_); refine goesL_ (some 43) rfl rfl Tryd.func9 (by kernel_rfl) rfl #[.agg #[.string a0_0, .string a0_1, .bool a0_2], .agg #[.string a1_0, .string a1_1, .bool a1_2]] rfl (by (try simp only [List.map_toArray, List.map_cons, List.map_nil]); first | done | rfl | (simp only [List.length_drop, List.length_take]; rfl)) ?_; (with_reducible refine (impl_TokenLess.calls a0_0 a0_1 a0_2 a1_0 a1_1 a1_2 false t160 _ ?side1 A49.out).mono ?_); (case side1 => first | exact HG.out | exact GW.below HG.out (by repeat (first | (with_reducible first | exact HB.out | exact Below.refl _ _ | apply below_alloc | apply pw_below_drewN | apply below_drew1 | apply below_drew | refine below_set ?_ (Aside0.out (by assumption))) | exact HB.out))); rintro e w69 ⟨rfl, hb⟩; refine ⟨_, rfl, ?_⟩; have n0_ := Aside0.mk (blk_below (g := gb149) (o := .cells #[.string a0_0, .string a0_1, .bool a0_2] 23 (0, 0)) (by (with_reducible repeat (first | refine blk_drewN ?_ _ | refine blk_drew ?_ | refine blk_alloc ?_ _)); exact BK149.out) hb); have n1_ := Aside0.mk (blk_below (g := gb150) (o := .cells #[.string a1_0, .string a1_1, .bool a1_2] 23 (0, 0)) (by (with_reducible repeat (first | refine blk_drewN ?_ _ | refine blk_drew ?_ | refine blk_alloc ?_ _)); exact BK150.out) hb); have n2_ := Aside0.mk (below_step (by repeat (first | (with_reducible first | exact HB.out | apply below_alloc | apply pw_below_drewN | apply below_drew1 | refine below_set ?_ GE149.out | refine below_set ?_ GE150.out) | exact HB.out)) hb); clear BK149; clear BK150; clear HB; have BK149 := n0_; have BK150 := n1_; have HB := n2_; clear n0_ n1_ n2_; (try clear hb); (try clear hb2); (try clear hk); (try clear hi); have hcz70_0 : w69.cell? ⟨gb149, 0, none⟩ = some (.string a0_0) := (blk_cell BK149.out 0).trans rfl; have hcz70_1 : w69.cell? ⟨gb149, 1, none⟩ = some (.string a0_1) := (blk_cell BK149.out 1).trans rfl; have hcz70_2 : w69.cell? ⟨gb149, 2, none⟩ = some (.bool a0_2) := (blk_cell BK149.out 2).trans rfl; have hfz70_0 := blk_frozen BK149.out 0; have hfz70_1 := blk_frozen BK149.out 1; have hfz70_2 := blk_frozen BK149.out 2; have hcz71_0 : w69.cell? ⟨gb150, 0, none⟩ = some (.string a1_0) := (blk_cell BK150.out 0).trans rfl; have hcz71_1 : w69.cell? ⟨gb150, 1, none⟩ = some (.string a1_1) := (blk_cell BK150.out 1).trans rfl; have hcz71_2 : w69.cell? ⟨gb150, 2, none⟩ = some (.bool a1_2) := (blk_cell BK150.out 2).trans rfl; have hfz71_0 := blk_frozen BK150.out 0; have hfz71_1 := blk_frozen BK150.out 1; have hfz71_2 := blk_frozen BK150.out 2) | ((with_reducible refine gate_callee (f := 10) rfl ?_); refine goesL_ (some 49) rfl rfl Tryd.func10 (by kernel_rfl) rfl #[.agg #[.string a0_0, .string a0_1, .bool a0_2], .agg #[.string a1_0, .string a1_1, .bool a1_2]] rfl (by (try simp only [List.map_toArray, List.map_cons, List.map_nil]); first | done | rfl | (simp only [List.length_drop, List.length_take]; rfl)) ?_; (with_reducible refine (spec_TokenLess.calls kj17 a0_0 a0_1 a0_2 a1_0 a1_1 a1_2 t161 t162 _ A50.out).mono ?_); rintro e w72 ⟨rfl, hb⟩; refine ⟨_, rfl, ?_⟩; have n0_ := Aside0.mk (blk_below (g := gb149) (o := .cells #[.string a0_0, .string a0_1, .bool a0_2] 23 (0, 0)) (by (with_reducible repeat (first | refine blk_drewN ?_ _ | refine blk_drew ?_ | refine blk_alloc ?_ _)); exact BK149.out) hb); have n1_ := Aside0.mk (blk_below (g := gb150) (o := .cells #[.string a1_0, .string a1_1, .bool a1_2] 23 (0, 0)) (by (with_reducible repeat (first | refine blk_drewN ?_ _ | refine blk_drew ?_ | refine blk_alloc ?_ _)); exact BK150.out) hb); have n2_ := Aside0.mk (below_step (by repeat (first | (with_reducible first | exact HB.out | apply below_alloc | apply pw_below_drewN | apply below_drew1 | refine below_set ?_ GE149.out | refine below_set ?_ GE150.out) | exact HB.out)) hb); clear BK149; clear BK150; clear HB; have BK149 := n0_; have BK150 := n1_; have HB := n2_; clear n0_ n1_ n2_; (try clear hb); (try clear hb2); (try clear hk); (try clear hi); have hcz73_0 : w72.cell? ⟨gb150, 0, none⟩ = some (.string a1_0) := (blk_cell BK150.out 0).trans rfl; have hcz73_1 : w72.cell? ⟨gb150, 1, none⟩ = some (.string a1_1) := (blk_cell BK150.out 1).trans rfl; have hcz73_2 : w72.cell? ⟨gb150, 2, none⟩ = some (.bool a1_2) := (blk_cell BK150.out 2).trans rfl; have hfz73_0 := blk_frozen BK150.out 0; have hfz73_1 := blk_frozen BK150.out 1; have hfz73_2 := blk_frozen BK150.out 2; have hcz74_0 : w72.cell? ⟨gb149, 0, none⟩ = some (.string a0_0) := (blk_cell BK149.out 0).trans rfl; have hcz74_1 : w72.cell? ⟨gb149, 1, none⟩ = some (.string a0_1) := (blk_cell BK149.out 1).trans rfl; have hcz74_2 : w72.cell? ⟨gb149, 2, none⟩ = some (.bool a0_2) := (blk_cell BK149.out 2).trans rfl; have hfz74_0 := blk_frozen BK149.out 0; have hfz74_1 := blk_frozen BK149.out 1; have hfz74_2 := blk_frozen BK149.out 2) | ((with_reducible refine gate_callee (f := 9) rfl ?_); refine goesL_ (some 55) rfl rfl Tryd.func9 (by kernel_rfl) rfl #[.agg #[.string a1_0, .string a1_1, .bool a1_2], .agg #[.string a0_0, .string a0_1, .bool a0_2]] rfl (by (try simp only [List.map_toArray, List.map_cons, List.map_nil]); first | done | rfl | (simp only [List.length_drop, List.length_take]; rfl)) ?_; (with_reducible refine (impl_TokenLess.calls a1_0 a1_1 a1_2 a0_0 a0_1 a0_2 t163 t164 _ ?side1 A51.out).mono ?_); (case side1 => first | exact HG.out | exact GW.below HG.out (by repeat (first | (with_reducible first | exact HB.out | exact Below.refl _ _ | apply below_alloc | apply pw_below_drewN | apply below_drew1 | apply below_drew | refine below_set ?_ (Aside0.out (by assumption))) | exact HB.out))); rintro e w75 ⟨rfl, hb⟩; refine ⟨_, rfl, ?_⟩; have n0_ := Aside0.mk (blk_below (g := gb149) (o := .cells #[.string a0_0, .string a0_1, .bool a0_2] 23 (0, 0)) (by (with_reducible repeat (first | refine blk_drewN ?_ _ | refine blk_drew ?_ | refine blk_alloc ?_ _)); exact BK149.out) hb); have n1_ := Aside0.mk (blk_below (g := gb150) (o := .cells #[.string a1_0, .string a1_1, .bool a1_2] 23 (0, 0)) (by (with_reducible repeat (first | refine blk_drewN ?_ _ | refine blk_drew ?_ | refine blk_alloc ?_ _)); exact BK150.out) hb); have n2_ := Aside0.mk (below_step (by repeat (first | (with_reducible first | exact HB.out | apply below_alloc | apply pw_below_drewN | apply below_drew1 | refine below_set ?_ GE149.out | refine below_set ?_ GE150.out) | exact HB.out)) hb); clear BK149; clear BK150; clear HB; have BK149 := n0_; have BK150 := n1_; have HB := n2_; clear n0_ n1_ n2_; (try clear hb); (try clear hb2); (try clear hk); (try clear hi)))
                      go_ret
                      exact ⟨by first | rfl | (simp [errW_none, errW_some] <;> rfl) | (simp [*, errW_none, errW_some] <;> rfl), by repeat (first | (with_reducible first | exact HB.out | apply below_alloc | apply pw_below_drewN | apply below_drew1 | refine below_set ?_ GE149.out | refine below_set ?_ GE150.out) | exact HB.out)⟩
                  · rw [if_neg c54] at H
                    have c54b0 : (t164 == t162) = false := by simpa using c54
                    (try (have c54b1 : decide (t164 = t162) = false := by simpa using c54))
                    (try (have c54b2 : (t164 == t162) = false := by simpa using c54))
                    (try (have c54b3 : ¬ (t164 = t162) := by simpa using c54))
                    clear c54
                    obtain rfl := Option.some.inj H
                    have hnb76 := NB149_150.out
                    have hnc76 := NB150_149.out
                    have hcz77_0 : wc.cell? ⟨gb149, 0, none⟩ = some (.string a0_0) := (blk_cell BK149.out 0).trans rfl
                    have hcz77_1 : wc.cell? ⟨gb149, 1, none⟩ = some (.string a0_1) := (blk_cell BK149.out 1).trans rfl
                    have hcz77_2 : wc.cell? ⟨gb149, 2, none⟩ = some (.bool a0_2) := (blk_cell BK149.out 2).trans rfl
                    have hfz77_0 := blk_frozen BK149.out 0
                    have hfz77_1 := blk_frozen BK149.out 1
                    have hfz77_2 := blk_frozen BK149.out 2
                    have hcz78_0 : wc.cell? ⟨gb150, 0, none⟩ = some (.string a1_0) := (blk_cell BK150.out 0).trans rfl
                    have hcz78_1 : wc.cell? ⟨gb150, 1, none⟩ = some (.string a1_1) := (blk_cell BK150.out 1).trans rfl
                    have hcz78_2 : wc.cell? ⟨gb150, 2, none⟩ = some (.bool a1_2) := (blk_cell BK150.out 2).trans rfl
                    have hfz78_0 := blk_frozen BK150.out 0
                    have hfz78_1 := blk_frozen BK150.out 1
                    have hfz78_2 := blk_frozen BK150.out 2
                    go_wp2_with (first | ((with_reducible refine gate_callee (f := 9) rfl ?_); refine goesL_ (some 43) rfl rfl Tryd.func9 (by kernel_rfl) rfl #[.agg #[.string a0_0, .string a0_1, .bool a0_2], .agg #[.string a1_0, .string a1_1, .bool a1_2]] rfl (by (try simp only [List.map_toArray, List.map_cons, List.map_nil]); first | done | rfl | (simp only [List.length_drop, List.length_take]; rfl)) ?_; (with_reducible refine (impl_TokenLess.calls a0_0 a0_1 a0_2 a1_0 a1_1 a1_2 t159 t160 _ ?side1 A49.out).mono ?_); (case side1 => first | exact HG.out | exact GW.below HG.out (by repeat (first | (with_reducible first | exact HB.out | exact Below.refl _ _ | apply below_alloc | apply pw_below_drewN | apply below_drew1 | apply below_drew | refine below_set ?_ (Aside0.out (by assumption))) | exact HB.out))); rintro e w79 ⟨rfl, hb⟩; refine ⟨_, rfl, ?_⟩; have n0_ := Aside0.mk (blk_below (g := gb149) (o := .cells #[.string a0_0, .string a0_1, .bool a0_2] 23 (0, 0)) (by (with_reducible repeat (first | refine blk_drewN ?_ _ | refine blk_drew ?_ | refine blk_alloc ?_ _)); exact BK149.out) hb); have n1_ := Aside0.mk (blk_below (g := gb150) (o := .cells #[.string a1_0, .string a1_1, .bool a1_2] 23 (0, 0)) (by (with_reducible repeat (first | refine blk_drewN ?_ _ | refine blk_drew ?_ | refine blk_alloc ?_ _)); exact BK150.out) hb); have n2_ := Aside0.mk (below_step (by repeat (first | (with_reducible first | exact HB.out | apply below_alloc | apply pw_below_drewN | apply below_drew1 | refine below_set ?_ GE149.out | refine below_set ?_ GE150.out) | exact HB.out)) hb); clear BK149; clear BK150; clear HB; have BK149 := n0_; have BK150 := n1_; have HB := n2_; clear n0_ n1_ n2_; (try clear hb); (try clear hb2); (try clear hk); (try clear hi); have hcz80_0 : w79.cell? ⟨gb149, 0, none⟩ = some (.string a0_0) := (blk_cell BK149.out 0).trans rfl; have hcz80_1 : w79.cell? ⟨gb149, 1, none⟩ = some (.string a0_1) := (blk_cell BK149.out 1).trans rfl; have hcz80_2 : w79.cell? ⟨gb149, 2, none⟩ = some (.bool a0_2) := (blk_cell BK149.out 2).trans rfl; have hfz80_0 := blk_frozen BK149.out 0; have hfz80_1 := blk_frozen BK149.out 1; have hfz80_2 := blk_frozen BK149.out 2; have hcz81_0 : w79.cell? ⟨gb150, 0, none⟩ = some (.string a1_0) := (blk_cell BK150.out 0).trans rfl; have hcz81_1 : w79.cell? ⟨gb150, 1, none⟩ = some (.string a1_1) := (blk_cell BK150.out 1).trans rfl; have hcz81_2 : w79.cell? ⟨gb150, 2, none⟩ = some (.bool a1_2) := (blk_cell BK150.out 2).trans rfl; have hfz81_0 := blk_frozen BK150.out 0; have hfz81_1 := blk_frozen BK150.out 1; have hfz81_2 := blk_frozen BK150.out 2) | ((with_reducible refine gate_callee (f := 10) rfl ?_); refine goesL_ (some 49) rfl rfl Tryd.func10 (by kernel_rfl) rfl #[.agg #[.string a0_0, .string a0_1, .bool a0_2], .agg #[.string a1_0, .string a1_1, .bool a1_2]] rfl (by (try simp only [List.map_toArray, List.map_cons, List.map_nil]); first | done | rfl | (simp only [List.length_drop, List.length_take]; rfl)) ?_; (with_reducible refine (spec_TokenLess.calls kj17 a0_0 a0_1 a0_2 a1_0 a1_1 a1_2 t161 t162 _ A50.out).mono ?_); rintro e w82 ⟨rfl, hb⟩; refine ⟨_, rfl, ?_⟩; have n0_ := Aside0.mk (blk_below (g := gb149) (o := .cells #[.string a0_0, .string a0_1, .bool a0_2] 23 (0, 0)) (by (with_reducible repeat (first | refine blk_drewN ?_ _ | refine blk_drew ?_ | refine blk_alloc ?_ _)); exact BK149.out) hb); have n1_ := Aside0.mk (blk_below (g := gb150) (o := .cells #[.string a1_0, .string a1_1, .bool a1_2] 23 (0, 0)) (by (with_reducible repeat (first | refine blk_drewN ?_ _ | refine blk_drew ?_ | refine blk_alloc ?_ _)); exact BK150.out) hb); have n2_ := Aside0.mk (below_step (by repeat (first | (with_reducible first | exact HB.out | apply below_alloc | apply pw_below_drewN | apply below_drew1 | refine below_set ?_ GE149.out | refine below_set ?_ GE150.out) | exact HB.out)) hb); clear BK149; clear BK150; clear HB; have BK149 := n0_; have BK150 := n1_; have HB := n2_; clear n0_ n1_ n2_; (try clear hb); (try clear hb2); (try clear hk); (try clear hi); have hcz83_0 : w82.cell? ⟨gb150, 0, none⟩ = some (.string a1_0) := (blk_cell BK150.out 0).trans rfl; have hcz83_1 : w82.cell? ⟨gb150, 1, none⟩ = some (.string a1_1) := (blk_cell BK150.out 1).trans rfl; have hcz83_2 : w82.cell? ⟨gb150, 2, none⟩ = some (.bool a1_2) := (blk_cell BK150.out 2).trans rfl; have hfz83_0 := blk_frozen BK150.out 0; have hfz83_1 := blk_frozen BK150.out 1; have hfz83_2 := blk_frozen BK150.out 2; have hcz84_0 : w82.cell? ⟨gb149, 0, none⟩ = some (.string a0_0) := (blk_cell BK149.out 0).trans rfl; have hcz84_1 : w82.cell? ⟨gb149, 1, none⟩ = some (.string a0_1) := (blk_cell BK149.out 1).trans rfl; have hcz84_2 : w82.cell? ⟨gb149, 2, none⟩ = some (.bool a0_2) := (blk_cell BK149.out 2).trans rfl; have hfz84_0 := blk_frozen BK149.out 0; have hfz84_1 := blk_frozen BK149.out 1; have hfz84_2 := blk_frozen BK149.out 2) | ((with_reducible refine gate_callee (f := 9) rfl ?_); refine goesL_ (some 55) rfl rfl Tryd.func9 (by kernel_rfl) rfl #[.agg #[.string a1_0, .string a1_1, .bool a1_2], .agg #[.string a0_0, .string a0_1, .bool a0_2]] rfl (by (try simp only [List.map_toArray, List.map_cons, List.map_nil]); first | done | rfl | (simp only [List.length_drop, List.length_take]; rfl)) ?_; (with_reducible refine (impl_TokenLess.calls a1_0 a1_1 a1_2 a0_0 a0_1 a0_2 t163 t164 _ ?side1 A51.out).mono ?_); (case side1 => first | exact HG.out | exact GW.below HG.out (by repeat (first | (with_reducible first | exact HB.out | exact Below.refl _ _ | apply below_alloc | apply pw_below_drewN | apply below_drew1 | apply below_drew | refine below_set ?_ (Aside0.out (by assumption))) | exact HB.out))); rintro e w85 ⟨rfl, hb⟩; refine ⟨_, rfl, ?_⟩; have n0_ := Aside0.mk (blk_below (g := gb149) (o := .cells #[.string a0_0, .string a0_1, .bool a0_2] 23 (0, 0)) (by (with_reducible repeat (first | refine blk_drewN ?_ _ | refine blk_drew ?_ | refine blk_alloc ?_ _)); exact BK149.out) hb); have n1_ := Aside0.mk (blk_below (g := gb150) (o := .cells #[.string a1_0, .string a1_1, .bool a1_2] 23 (0, 0)) (by (with_reducible repeat (first | refine blk_drewN ?_ _ | refine blk_drew ?_ | refine blk_alloc ?_ _)); exact BK150.out) hb); have n2_ := Aside0.mk (below_step (by repeat (first | (with_reducible first | exact HB.out | apply below_alloc | apply pw_below_drewN | apply below_drew1 | refine below_set ?_ GE149.out | refine below_set ?_ GE150.out) | exact HB.out)) hb); clear BK149; clear BK150; clear HB; have BK149 := n0_; have BK150 := n1_; have HB := n2_; clear n0_ n1_ n2_; (try clear hb); (try clear hb2); (try clear hk); (try clear hi)))
                    go_ret
                    exact ⟨by first | rfl | (simp [errW_none, errW_some] <;> rfl) | (simp [*, errW_none, errW_some] <;> rfl), by repeat (first | (with_reducible first | exact HB.out | apply below_alloc | apply pw_below_drewN | apply below_drew1 | refine below_set ?_ GE149.out | refine below_set ?_ GE150.out) | exact HB.out)⟩
                · rw [if_neg c53] at H
                  have c53b0 : (t160 == t162) = false := by simpa using c53
                  (try (have c53b1 : decide (t160 = t162) = false := by simpa using c53))
                  (try (have c53b2 : (t160 == t162) = false := by simpa using c53))
                  (try (have c53b3 : ¬ (t160 = t162) := by simpa using c53))
                  clear c53
                  obtain rfl := Option.some.inj H
                  have hnb86 := NB149_150.out
                  have hnc86 := NB150_149.out
                  have hcz87_0 : wc.cell? ⟨gb149, 0, none⟩ = some (.string a0_0) := (blk_cell BK149.out 0).trans rfl
                  have hcz87_1 : wc.cell? ⟨gb149, 1, none⟩ = some (.string a0_1) := (blk_cell BK149.out 1).trans rfl
                  have hcz87_2 : wc.cell? ⟨gb149, 2, none⟩ = some (.bool a0_2) := (blk_cell BK149.out 2).trans rfl
                  have hfz87_0 := blk_frozen BK149.out 0
                  have hfz87_1 := blk_frozen BK149.out 1
                  have hfz87_2 := blk_frozen BK149.out 2
                  have hcz88_0 : wc.cell? ⟨gb150, 0, none⟩ = some (.string a1_0) := (blk_cell BK150.out 0).trans rfl
                  have hcz88_1 : wc.cell? ⟨gb150, 1, none⟩ = some (.string a1_1) := (blk_cell BK150.out 1).trans rfl
                  have hcz88_2 : wc.cell? ⟨gb150, 2, none⟩ = some (.bool a1_2) := (blk_cell BK150.out 2).trans rfl
                  have hfz88_0 := blk_frozen BK150.out 0
                  have hfz88_1 := blk_frozen BK150.out 1
                  have hfz88_2 := blk_frozen BK150.out 2
                  go_wp2_with (first | ((with_reducible refine gate_callee (f := 9) rfl ?_); refine goesL_ (some 43) rfl rfl Tryd.func9 (by kernel_rfl) rfl #[.agg #[.string a0_0, .string a0_1, .bool a0_2], .agg #[.string a1_0, .string a1_1, .bool a1_2]] rfl (by (try simp only [List.map_toArray, List.map_cons, List.map_nil]); first | done | rfl | (simp only [List.length_drop, List.length_take]; rfl)) ?_; (with_reducible refine (impl_TokenLess.calls a0_0 a0_1 a0_2 a1_0 a1_1 a1_2 t159 t160 _ ?side1 A49.out).mono ?_); (case side1 => first | exact HG.out | exact GW.below HG.out (by repeat (first | (with_reducible first | exact HB.out | exact Below.refl _ _ | apply below_alloc | apply pw_below_drewN | apply below_drew1 | apply below_drew | refine below_set ?_ (Aside0.out (by assumption))) | exact HB.out))); rintro e w89 ⟨rfl, hb⟩; refine ⟨_, rfl, ?_⟩; have n0_ := Aside0.mk (blk_below (g := gb149) (o := .cells #[.string a0_0, .string a0_1, .bool a0_2] 23 (0, 0)) (by (with_reducible repeat (first | refine blk_drewN ?_ _ | refine blk_drew ?_ | refine blk_alloc ?_ _)); exact BK149.out) hb); have n1_ := Aside0.mk (blk_below (g := gb150) (o := .cells #[.string a1_0, .string a1_1, .bool a1_2] 23 (0, 0)) (by (with_reducible repeat (first | refine blk_drewN ?_ _ | refine blk_drew ?_ | refine blk_alloc ?_ _)); exact BK150.out) hb); have n2_ := Aside0.mk (below_step (by repeat (first | (with_reducible first | exact HB.out | apply below_alloc | apply pw_below_drewN | apply below_drew1 | refine below_set ?_ GE149.out | refine below_set ?_ GE150.out) | exact HB.out)) hb); clear BK149; clear BK150; clear HB; have BK149 := n0_; have BK150 := n1_; have HB := n2_; clear n0_ n1_ n2_; (try clear hb); (try clear hb2); (try clear hk); (try clear hi); have hcz90_0 : w89.cell? ⟨gb149, 0, none⟩ = some (.string a0_0) := (blk_cell BK149.out 0).trans rfl; have hcz90_1 : w89.cell? ⟨gb149, 1, none⟩ = some (.string a0_1) := (blk_cell BK149.out 1).trans rfl; have hcz90_2 : w89.cell? ⟨gb149, 2, none⟩ = some (.bool a0_2) := (blk_cell BK149.out 2).trans rfl; have hfz90_0 := blk_frozen BK149.out 0; have hfz90_1 := blk_frozen BK149.out 1; have hfz90_2 := blk_frozen BK149.out 2; have hcz91_0 : w89.cell? ⟨gb150, 0, none⟩ = some (.string a1_0) := (blk_cell BK150.out 0).trans rfl; have hcz91_1 : w89.cell? ⟨gb150, 1, none⟩ = some (.string a1_1) := (blk_cell BK150.out 1).trans rfl; have hcz91_2 : w89.cell? ⟨gb150, 2, none⟩ = some (.bool a1_2) := (blk_cell BK150.out 2).trans rfl; have hfz91_0 := blk_frozen BK150.out 0; have hfz91_1 := blk_frozen BK150.out 1; have hfz91_2 := blk_frozen BK150.out 2) | ((with_reducible refine gate_callee (f := 10) rfl ?_); refine goesL_ (some 49) rfl rfl Tryd.func10 (by kernel_rfl) rfl #[.agg #[.string a0_0, .string a0_1, .bool a0_2], .agg #[.string a1_0, .string a1_1, .bool a1_2]] rfl (by (try simp only [List.map_toArray, List.map_cons, List.map_nil]); first | done | rfl | (simp only [List.length_drop, List.length_take]; rfl)) ?_; (with_reducible refine (spec_TokenLess.calls kj17 a0_0 a0_1 a0_2 a1_0 a1_1 a1_2 t161 t162 _ A50.out).mono ?_); rintro e w92 ⟨rfl, hb⟩; refine ⟨_, rfl, ?_⟩; have n0_ := Aside0.mk (blk_below (g := gb149) (o := .cells #[.string a0_0, .string a0_1, .bool a0_2] 23 (0, 0)) (by (with_reducible repeat (first | refine blk_drewN ?_ _ | refine blk_drew ?_ | refine blk_alloc ?_ _)); exact BK149.out) hb); have n1_ := Aside0.mk (blk_below (g := gb150) (o := .cells #[.string a1_0, .string a1_1, .bool a1_2] 23 (0, 0)) (by (with_reducible repeat (first | refine blk_drewN ?_ _ | refine blk_drew ?_ | refine blk_alloc ?_ _)); exact BK150.out) hb); have n2_ := Aside0.mk (below_step (by repeat (first | (with_reducible first | exact HB.out | apply below_alloc | apply pw_below_drewN | apply below_drew1 | refine below_set ?_ GE149.out | refine below_set ?_ GE150.out) | exact HB.out)) hb); clear BK149; clear BK150; clear HB; have BK149 := n0_; have BK150 := n1_; have HB := n2_; clear n0_ n1_ n2_; (try clear hb); (try clear hb2); (try clear hk); (try clear hi); have hcz93_0 : w92.cell? ⟨gb150, 0, none⟩ = some (.string a1_0) := (blk_cell BK150.out 0).trans rfl; have hcz93_1 : w92.cell? ⟨gb150, 1, none⟩ = some (.string a1_1) := (blk_cell BK150.out 1).trans rfl; have hcz93_2 : w92.cell? ⟨gb150, 2, none⟩ = some (.bool a1_2) := (blk_cell BK150.out 2).trans rfl; have hfz93_0 := blk_frozen BK150.out 0; have hfz93_1 := blk_frozen BK150.out 1; have hfz93_2 := blk_frozen BK150.out 2; have hcz94_0 : w92.cell? ⟨gb149, 0, none⟩ = some (.string a0_0) := (blk_cell BK149.out 0).trans rfl; have hcz94_1 : w92.cell? ⟨gb149, 1, none⟩ = some (.string a0_1) := (blk_cell BK149.out 1).trans rfl; have hcz94_2 : w92.cell? ⟨gb149, 2, none⟩ = some (.bool a0_2) := (blk_cell BK149.out 2).trans rfl; have hfz94_0 := blk_frozen BK149.out 0; have hfz94_1 := blk_frozen BK149.out 1; have hfz94_2 := blk_frozen BK149.out 2) | ((with_reducible refine gate_callee (f := 9) rfl ?_); refine goesL_ (some 55) rfl rfl Tryd.func9 (by kernel_rfl) rfl #[.agg #[.string a1_0, .string a1_1, .bool a1_2], .agg #[.string a0_0, .string a0_1, .bool a0_2]] rfl (by (try simp only [List.map_toArray, List.map_cons, List.map_nil]); first | done | rfl | (simp only [List.length_drop, List.length_take]; rfl)) ?_; (with_reducible refine (impl_TokenLess.calls a1_0 a1_1 a1_2 a0_0 a0_1 a0_2 t163 t164 _ ?side1 A51.out).mono ?_); (case side1 => first | exact HG.out | exact GW.below HG.out (by repeat (first | (with_reducible first | exact HB.out | exact Below.refl _ _ | apply below_alloc | apply pw_below_drewN | apply below_drew1 | apply below_drew | refine below_set ?_ (Aside0.out (by assumption))) | exact HB.out))); rintro e w95 ⟨rfl, hb⟩; refine ⟨_, rfl, ?_⟩; have n0_ := Aside0.mk (blk_below (g := gb149) (o := .cells #[.string a0_0, .string a0_1, .bool a0_2] 23 (0, 0)) (by (with_reducible repeat (first | refine blk_drewN ?_ _ | refine blk_drew ?_ | refine blk_alloc ?_ _)); exact BK149.out) hb); have n1_ := Aside0.mk (blk_below (g := gb150) (o := .cells #[.string a1_0, .string a1_1, .bool a1_2] 23 (0, 0)) (by (with_reducible repeat (first | refine blk_drewN ?_ _ | refine blk_drew ?_ | refine blk_alloc ?_ _)); exact BK150.out) hb); have n2_ := Aside0.mk (below_step (by repeat (first | (with_reducible first | exact HB.out | apply below_alloc | apply pw_below_drewN | apply below_drew1 | refine below_set ?_ GE149.out | refine below_set ?_ GE150.out) | exact HB.out)) hb); clear BK149; clear BK150; clear HB; have BK149 := n0_; have BK150 := n1_; have HB := n2_; clear n0_ n1_ n2_; (try clear hb); (try clear hb2); (try clear hk); (try clear hi)))
                  go_ret
                  exact ⟨by first | rfl | (simp [errW_none, errW_some] <;> rfl) | (simp [*, errW_none, errW_some] <;> rfl), by repeat (first | (with_reducible first | exact HB.out | apply below_alloc | apply pw_below_drewN | apply below_drew1 | refine below_set ?_ GE149.out | refine below_set ?_ GE150.out) | exact HB.out)⟩
              · rw [if_neg c52] at H
                have c52b0 : (t159 == t161) = false := by simpa using c52
                (try (have c52b1 : decide (t159 = t161) = false := by simpa using c52))
                (try (have c52b2 : (t159 == t161) = false := by simpa using c52))
                (try (have c52b3 : ¬ (t159 = t161) := by simpa using c52))
                clear c52
                obtain rfl := Option.some.inj H
                have hnb96 := NB149_150.out
                have hnc96 := NB150_149.out
                have hcz97_0 : wc.cell? ⟨gb149, 0, none⟩ = some (.string a0_0) := (blk_cell BK149.out 0).trans rfl
                have hcz97_1 : wc.cell? ⟨gb149, 1, none⟩ = some (.string a0_1) := (blk_cell BK149.out 1).trans rfl
                have hcz97_2 : wc.cell? ⟨gb149, 2, none⟩ = some (.bool a0_2) := (blk_cell BK149.out 2).trans rfl
                have hfz97_0 := blk_frozen BK149.out 0
                have hfz97_1 := blk_frozen BK149.out 1
                have hfz97_2 := blk_frozen BK149.out 2
                have hcz98_0 : wc.cell? ⟨gb150, 0, none⟩ = some (.string a1_0) := (blk_cell BK150.out 0).trans rfl
                have hcz98_1 : wc.cell? ⟨gb150, 1, none⟩ = some (.string a1_1) := (blk_cell BK150.out 1).trans rfl
                have hcz98_2 : wc.cell? ⟨gb150, 2, none⟩ = some (.bool a1_2) := (blk_cell BK150.out 2).trans rfl
                have hfz98_0 := blk_frozen BK150.out 0
                have hfz98_1 := blk_frozen BK150.out 1
                have hfz98_2 := blk_frozen BK150.out 2
                go_wp2_with (first | ((with_reducible refine gate_callee (f := 9) rfl ?_); refine goesL_ (some 43) rfl rfl Tryd.func9 (by kernel_rfl) rfl #[.agg #[.string a0_0, .string a0_1, .bool a0_2], .agg #[.string a1_0, .string a1_1, .bool a1_2]] rfl (by (try simp only [List.map_toArray, List.map_cons, List.map_nil]); first | done | rfl | (simp only [List.length_drop, List.length_take]; rfl)) ?_; (with_reducible refine (impl_TokenLess.calls a0_0 a0_1 a0_2 a1_0 a1_1 a1_2 t159 t160 _ ?side1 A49.out).mono ?_); (case side1 => first | exact HG.out | exact GW.below HG.out (by repeat (first | (with_reducible first | exact HB.out | exact Below.refl _ _ | apply below_alloc | apply pw_below_drewN | apply below_drew1 | apply below_drew | refine below_set ?_ (Aside0.out (by assumption))) | exact HB.out))); rintro e w99 ⟨rfl, hb⟩; refine ⟨_, rfl, ?_⟩; have n0_ := Aside0.mk (blk_below (g := gb149) (o := .cells #[.string a0_0, .string a0_1, .bool a0_2] 23 (0, 0)) (by (with_reducible repeat (first | refine blk_drewN ?_ _ | refine blk_drew ?_ | refine blk_alloc ?_ _)); exact BK149.out) hb); have n1_ := Aside0.mk (blk_below (g := gb150) (o := .cells #[.string a1_0, .string a1_1, .bool a1_2] 23 (0, 0)) (by (with_reducible repeat (first | refine blk_drewN ?_ _ | refine blk_drew ?_ | refine blk_alloc ?_ _)); exact BK150.out) hb); have n2_ := Aside0.mk (below_step (by repeat (first | (with_reducible first | exact HB.out | apply below_alloc | apply pw_below_drewN | apply below_drew1 | refine below_set ?_ GE149.out | refine below_set ?_ GE150.out) | exact HB.out)) hb); clear BK149; clear BK150; clear HB; have BK149 := n0_; have BK150 := n1_; have HB := n2_; clear n0_ n1_ n2_; (try clear hb); (try clear hb2); (try clear hk); (try clear hi); have hcz100_0 : w99.cell? ⟨gb149, 0, none⟩ = some (.string a0_0) := (blk_cell BK149.out 0).trans rfl; have hcz100_1 : w99.cell? ⟨gb149, 1, none⟩ = some (.string a0_1) := (blk_cell BK149.out 1).trans rfl; have hcz100_2 : w99.cell? ⟨gb149, 2, none⟩ = some (.bool a0_2) := (blk_cell BK149.out 2).trans rfl; have hfz100_0 := blk_frozen BK149.out 0; have hfz100_1 := blk_frozen BK149.out 1; have hfz100_2 := blk_frozen BK149.out 2; have hcz101_0 : w99.cell? ⟨gb150, 0, none⟩ = some (.string a1_0) := (blk_cell BK150.out 0).trans rfl; have hcz101_1 : w99.cell? ⟨gb150, 1, none⟩ = some (.string a1_1) := (blk_cell BK150.out 1).trans rfl; have hcz101_2 : w99.cell? ⟨gb150, 2, none⟩ = some (.bool a1_2) := (blk_cell BK150.out 2).trans rfl; have hfz101_0 := blk_frozen BK150.out 0; have hfz101_1 := blk_frozen BK150.out 1; have hfz101_2 := blk_frozen BK150.out 2) | ((with_reducible refine gate_callee (f := 10) rfl ?_); refine goesL_ (some 49) rfl rfl Tryd.func10 (by kernel_rfl) rfl #[.agg #[.string a0_0, .string a0_1, .bool a0_2], .agg #[.string a1_0, .string a1_1, .bool a1_2]] rfl (by (try simp only [List.map_toArray, List.map_cons, List.map_nil]); first | done | rfl | (simp only [List.length_drop, List.length_take]; rfl)) ?_; (with_reducible refine (spec_TokenLess.calls kj17 a0_0 a0_1 a0_2 a1_0 a1_1 a1_2 t161 t162 _ A50.out).mono ?_); rintro e w102 ⟨rfl, hb⟩; refine ⟨_, rfl, ?_⟩; have n0_ := Aside0.mk (blk_below (g := gb149) (o := .cells #[.string a0_0, .string a0_1, .bool a0_2] 23 (0, 0)) (by (with_reducible repeat (first | refine blk_drewN ?_ _ | refine blk_drew ?_ | refine blk_alloc ?_ _)); exact BK149.out) hb); have n1_ := Aside0.mk (blk_below (g := gb150) (o := .cells #[.string a1_0, .string a1_1, .bool a1_2] 23 (0, 0)) (by (with_reducible repeat (first | refine blk_drewN ?_ _ | refine blk_drew ?_ | refine blk_alloc ?_ _)); exact BK150.out) hb); have n2_ := Aside0.mk (below_step (by repeat (first | (with_reducible first | exact HB.out | apply below_alloc | apply pw_below_drewN | apply below_drew1 | refine below_set ?_ GE149.out | refine below_set ?_ GE150.out) | exact HB.out)) hb); clear BK149; clear BK150; clear HB; have BK149 := n0_; have BK150 := n1_; have HB := n2_; clear n0_ n1_ n2_; (try clear hb); (try clear hb2); (try clear hk); (try clear hi); have hcz103_0 : w102.cell? ⟨gb150, 0, none⟩ = some (.string a1_0) := (blk_cell BK150.out 0).trans rfl; have hcz103_1 : w102.cell? ⟨gb150, 1, none⟩ = some (.string a1_1) := (blk_cell BK150.out 1).trans rfl; have hcz103_2 : w102.cell? ⟨gb150, 2, none⟩ = some (.bool a1_2) := (blk_cell BK150.out 2).trans rfl; have hfz103_0 := blk_frozen BK150.out 0; have hfz103_1 := blk_frozen BK150.out 1; have hfz103_2 := blk_frozen BK150.out 2; have hcz104_0 : w102.cell? ⟨gb149, 0, none⟩ = some (.string a0_0) := (blk_cell BK149.out 0).trans rfl; have hcz104_1 : w102.cell? ⟨gb149, 1, none⟩ = some (.string a0_1) := (blk_cell BK149.out 1).trans rfl; have hcz104_2 : w102.cell? ⟨gb149, 2, none⟩ = some (.bool a0_2) := (blk_cell BK149.out 2).trans rfl; have hfz104_0 := blk_frozen BK149.out 0; have hfz104_1 := blk_frozen BK149.out 1; have hfz104_2 := blk_frozen BK149.out 2) | ((with_reducible refine gate_callee (f := 9) rfl ?_); refine goesL_ (some 55) rfl rfl Tryd.func9 (by kernel_rfl) rfl #[.agg #[.string a1_0, .string a1_1, .bool a1_2], .agg #[.string a0_0, .string a0_1, .bool a0_2]] rfl (by (try simp only [List.map_toArray, List.map_cons, List.map_nil]); first | done | rfl | (simp only [List.length_drop, List.length_take]; rfl)) ?_; (with_reducible refine (impl_TokenLess.calls a1_0 a1_1 a1_2 a0_0 a0_1 a0_2 t163 t164 _ ?side1 A51.out).mono ?_); (case side1 => first | exact HG.out | exact GW.below HG.out (by repeat (first | (with_reducible first | exact HB.out | exact Below.refl _ _ | apply below_alloc | apply pw_below_drewN | apply below_drew1 | apply below_drew | refine below_set ?_ (Aside0.out (by assumption))) | exact HB.out))); rintro e w105 ⟨rfl, hb⟩; refine ⟨_, rfl, ?_⟩; have n0_ := Aside0.mk (blk_below (g := gb149) (o := .cells #[.string a0_0, .string a0_1, .bool a0_2] 23 (0, 0)) (by (with_reducible repeat (first | refine blk_drewN ?_ _ | refine blk_drew ?_ | refine blk_alloc ?_ _)); exact BK149.out) hb); have n1_ := Aside0.mk (blk_below (g := gb150) (o := .cells #[.string a1_0, .string a1_1, .bool a1_2] 23 (0, 0)) (by (with_reducible repeat (first | refine blk_drewN ?_ _ | refine blk_drew ?_ | refine blk_alloc ?_ _)); exact BK150.out) hb); have n2_ := Aside0.mk (below_step (by repeat (first | (with_reducible first | exact HB.out | apply below_alloc | apply pw_below_drewN | apply below_drew1 | refine below_set ?_ GE149.out | refine below_set ?_ GE150.out) | exact HB.out)) hb); clear BK149; clear BK150; clear HB; have BK149 := n0_; have BK150 := n1_; have HB := n2_; clear n0_ n1_ n2_; (try clear hb); (try clear hb2); (try clear hk); (try clear hi)))
                go_ret
                exact ⟨by first | rfl | (simp [errW_none, errW_some] <;> rfl) | (simp [*, errW_none, errW_some] <;> rfl), by repeat (first | (with_reducible first | exact HB.out | apply below_alloc | apply pw_below_drewN | apply below_drew1 | refine below_set ?_ GE149.out | refine below_set ?_ GE150.out) | exact HB.out)⟩

/-- THE ONE PURE STATEMENT of laws_FnTokenLess. -/
def laws_FnTokenLess.Pure : Prop := ∀ (a0_0 : ByteArray) (a0_1 : ByteArray) (a0_2 : Bool) (a1_0 : ByteArray) (a1_1 : ByteArray) (a1_2 : Bool), ∃ k, laws_FnTokenLess.f k a0_0 a0_1 a0_2 a1_0 a1_1 a1_2 = some true
theorem laws_FnTokenLess.walk (P : laws_FnTokenLess.Pure) (a0_0 : ByteArray) (a0_1 : ByteArray) (a0_2 : Bool) (a1_0 : ByteArray) (a1_1 : ByteArray) (a1_2 : Bool) (w : World)  (hG : GW w) :
    Calls Tryd.prog 3 #[.agg #[.string a0_0, .string a0_1, .bool a0_2], .agg #[.string a1_0, .string a1_1, .bool a1_2]] w fun e w' => e = .returned (.bool true) ∧ Below w.heap.size w w' := by
  obtain ⟨k, h⟩ := P a0_0 a0_1 a0_2 a1_0 a1_1 a1_2 
  refine (laws_FnTokenLess.calls k a0_0 a0_1 a0_2 a1_0 a1_1 a1_2 true w hG h).mono ?_
  rintro e w' ⟨rfl, hd⟩
  exact ⟨rfl, hd⟩

end Go.Proofs.YtondnpfncgcdkaaDoor.Z
