-- Written by a program of this session (myprint.py).
import Derived.Test.YtipfmkfpaglkkaaGreatDoorZ0
import Derived.Test.YtipfmkfpaglkkaaGreatDoorGe
namespace Go.Proofs.YtipfmkfpaglkkaaGreatDoor.Z
open Go.Proofs.YtipfmkfpaglkkaaGreatDoor.Gw
open Go.RowKit Go.Proofs.YtipfmkfpaglkkaaGreatDoorW.PrintWords Go.Proofs.YtipfmkfpaglkkaaGreatDoorW.PrintLast Go.Proofs.YtipfmkfpaglkkaaGreatDoorW.PrintMore
attribute [local go_sem high] Go.Proofs.YtipfmkfpaglkkaaGreatDoor.Ge.gtr_str
attribute [local go_sem] max2_int min2_int max_two min_two max_three min_three max_four min_four   -- for this text's walks alone
set_option linter.unusedVariables false
set_option linter.unusedSimpArgs false

/-! ### impl_bigs: function 36 -/
def impl_bigs.l0 : Nat → List (S60) → List (S23) → Int → Int → Option ((List (S60)))
 | 0, _, _, _, _ => none
 | k + 1, x3, x6, x7, x8 => if x8 < x7 then (if 0 ≤ x8 then (if x8 < (x6.length : Int) then (if x3.length < 5864062014805 then (impl_bigs.l0 k (x3 ++ [(⟨(rd_T23 x6 x8).f0, (rd_T23 x6 x8).f1⟩ : S60)]) x6 x7 (wrap64 (x8 + 1))) else (none)) else (none)) else (none)) else (some x3)
def impl_bigs.f (k : Nat) (l0 : List (S23)) : Option ((List (S60))) := impl_bigs.l0 k ([] : List (S60)) l0 (l0.length : Int) 0
theorem impl_bigs.mono_l : ∀ k, (∀ y0 y1 y2 y3, LeO (impl_bigs.l0 k y0 y1 y2 y3) (impl_bigs.l0 (k + 1) y0 y1 y2 y3))
 | 0 => fun _ _ _ _ r h => by simp [impl_bigs.l0] at h
 | k + 1 => by
  have ih0 := impl_bigs.mono_l k
  ·intro y0 y1 y2 y3
   unfold impl_bigs.l0
   repeat' first
   | (with_reducible exact ih0 _ _ _ _)
   | (with_reducible exact LeO.refl _)
   | (with_reducible exact LeO.none _)
   | (with_reducible refine LeO.ite ?_ ?_)
   | (with_reducible refine LeO.bind ?_ (fun _ => ?_))
   | exact ih0 _ _ _ _
   | exact LeO.none _
   | refine LeO.ite ?_ ?_
   | refine LeO.bind ?_ (fun _ => ?_)
theorem impl_bigs.mono : ∀ a0 k, LeO (impl_bigs.f k a0) (impl_bigs.f (k + 1) a0) := by
 intro a0 k
 have ih0 := impl_bigs.mono_l k
 unfold impl_bigs.f
 repeat' first
   | (with_reducible exact ih0 _ _ _ _)
   | (with_reducible exact LeO.refl _)
   | (with_reducible exact LeO.none _)
   | (with_reducible refine LeO.ite ?_ ?_)
   | (with_reducible refine LeO.bind ?_ (fun _ => ?_))
   | exact ih0 _ _ _ _
   | exact LeO.none _
   | refine LeO.ite ?_ ?_
   | refine LeO.bind ?_ (fun _ => ?_)
set_option maxHeartbeats 8000000 in
set_option maxRecDepth 100000 in
theorem impl_bigs.calls (k : Nat) (A0 : Option Addr) (c0 : Nat) (l0 : List (S23)) (r : List (S60)) (w : World) (hr0 : Kd.C k23 w A0 l0.length l0) (hc0 : l0.length ≤ c0) (h : impl_bigs.f k l0 = some r) :
  Calls Tryz.prog 36 #[.slice A0 l0.length c0] w fun e w' => ∃ v0_ : Value, e = .returned (v0_) ∧ Kd.R k60 60 w' w.heap.size (fun _ => True) v0_ r ∧ Below w.heap.size w w' := by
 have hu23 := Tryz.underlying23
 have HR0 := Aside0.mk hr0
 have HC0 := Aside0.mk hc0
 clear hr0 hc0
 have HB := Aside0.mk (Below.refl w.heap.size w)
 have H : (impl_bigs.l0 k ([] : List (S60)) l0 (l0.length : Int) 0) = some r := h
 clear h
 have H' := Aside0.mk H
 clear H
 go_enter Tryz.func36, Tryz.ntmps36
 go_wp2
 go_loopg [3, 8] k (fun kq v3 v8 w' => ∃ (x3_1 : List (S60)) (x8_1 : Int), v8 = .int .i64 x8_1 ∧ Aside0 (impl_bigs.l0 kq x3_1 l0 (l0.length : Int) x8_1 = some r) ∧ Aside0 (kq ≤ k) ∧ Aside0 (Kd.R k60 60 w' w.heap.size (fun _ => True) v3 x3_1) ∧ Aside0 (Below w.heap.size w w'))
 case atStart => exact ⟨(([] : List (S60))), (0), (by first | rfl | (simp; done) | (simp [*]; done)), H', ⟨Nat.le_refl _⟩, ⟨by first | exact Kd.R_nil _ _ _ _ _ | exact Kd.N_nil _ _ _ _ _ | exact Kd.V_nil _ _ _ _ _ | exact Kd.Q_nil _ _ _ _ _ | exact Kd.S_nil _ _ _ _ _⟩, ⟨by repeat (first | (with_reducible first | exact HB.out | apply below_alloc | apply pw_below_drewN | apply below_drew1) | exact HB.out)⟩⟩
 case round =>
  clear H'
  obtain ⟨x3_1, x8_1, rfl, HA, HK1, HO_3, HB⟩ := hrel
  cases gk with
  | zero => exact absurd HA.out (by simp [impl_bigs.l0])
  | succ k1 =>
   have H := HA.out
   clear HA
   simp only [impl_bigs.l0] at H
   by_cases c2 : x8_1 < (l0.length : Int)
   ·rw [if_pos c2] at H
    have c2b0 : decide (x8_1 < (l0.length : Int)) = true := decide_eq_true c2
    clear c2
    by_cases c3 : 0 ≤ x8_1
    ·rw [if_pos c3] at H
     have c3b0 : decide (0 ≤ x8_1) = true := decide_eq_true c3
     clear c3
     by_cases c4 : x8_1 < (l0.length : Int)
     ·rw [if_pos c4] at H
      have c4b0 : decide (x8_1 < (l0.length : Int)) = true := decide_eq_true c4
      clear c4
      by_cases c5 : x3_1.length < 5864062014805
      ·rw [if_pos c5] at H
       have LMc5 := Aside0.mk c5
       clear c5
       obtain ⟨y148, hy148⟩ : ∃ y_ : List (S60), y_ = (x3_1 ++ [(⟨(rd_T23 l0 x8_1).f0, (rd_T23 l0 x8_1).f1⟩ : S60)]) := ⟨_, rfl⟩
       replace H : (impl_bigs.l0 k1 y148 l0 (l0.length : Int) (wrap64 (x8_1 + 1))) = some r := by first | (rw [hy148]; with_reducible exact H) | (have H2_ := (Option.bind_some _ _).symm.trans H; rw [hy148]; with_reducible exact H2_) | (have H2_ := (Option.bind_some _ _).symm.trans H; with_reducible exact H2_) | with_reducible exact H | (rw [hy148]; exact H) | exact H
       have Ny148 := Aside0.mk hy148
       clear hy148
       have H' := Aside0.mk H
       clear H
       have p146 : 0 ≤ (x8_1 : Int) := of_decide_eq_true (by first | (with_reducible assumption) | assumption)
       have q146 : x8_1 < (l0.length : Int) := of_decide_eq_true (by first | (with_reducible assumption) | assumption)
       obtain ⟨ad146, e146, hx146_0, hx146_1⟩ := at_T23 HR0.out x8_1 p146 q146
       cases e146
       replace hx146_0 := (HB.out.cell (World.block_lt_of_cell? w _ hx146_0)).trans hx146_0
       replace hx146_1 := (HB.out.cell (World.block_lt_of_cell? w _ hx146_1)).trans hx146_1
       replace p146 := eq_true p146
       replace q146 := eq_true q146
       go_wp2_with (first | ((with_reducible refine gate_dst (N := 5) rfl ?_); refine box_event ?hg (N := 5) ?hd (cs := #[.bool false, .string (⟨#[]⟩ : ByteArray)]) (t := 23) ?hr ?_; (case hd => rfl); (case hg => rfl); (case hr => first | (go_simp; done) | (go_simp; rfl)); intro gb147 hg w6 hbox hb; have n0_ := Aside0.mk (Kd.R_below (by (with_reducible repeat (first | apply Kd.R_alloc | apply Kd.R_drewN | apply Kd.R_drew)); exact HO_3.out) hb); have n1_ := Aside0.mk (below_step (by repeat (first | (with_reducible first | exact HB.out | apply below_alloc | apply pw_below_drewN | apply below_drew1) | exact HB.out)) hb); have n2_ := Aside0.mk (hbox); have n3_ := Aside0.mk ((by rw [hg]; exact (below_size (by repeat (first | (with_reducible first | exact HB.out | apply below_alloc | apply pw_below_drewN | apply below_drew1) | exact HB.out))) : w.heap.size ≤ gb147)); have n4_ := Aside0.mk ((by rw [hg]; exact (below_size (by repeat (first | (with_reducible first | exact HB.out | apply below_alloc | apply pw_below_drewN | apply below_drew1) | exact HB.out))) : w.heap.size ≤ gb147)); clear HO_3; clear HB; have HO_3 := n0_; have HB := n1_; have BK147 := n2_; have GW147 := n3_; have GE147 := n4_; clear n0_ n1_ n2_ n3_ n4_; clear hb hbox hg; have hcz7_0 : w6.cell? ⟨gb147, 0, none⟩ = some (.bool false) := (blk_cell BK147.out 0).trans rfl; have hcz7_1 : w6.cell? ⟨gb147, 1, none⟩ = some (.string (⟨#[]⟩ : ByteArray)) := (blk_cell BK147.out 1).trans rfl; have hfz7_0 := blk_frozen BK147.out 0; have hfz7_1 := blk_frozen BK147.out 1) | ((with_reducible refine gate_builtin (b := .append) (xs := #[.tmp 12, .tmp 14]) rfl ?_); at_builtin; refine Kd.R_append k60 (w0 := w) w.heap.size rfl (.tmp 12) (.tmp 14) 61 60 (.agg #[(.bool false), (.string ⟨#[]⟩)]) 24 rfl Tryz.underlying61 info60 rfl (by decide) (by omega) u3 x3_1 (⟨(rd_T23 l0 x8_1).f0, (rd_T23 l0 x8_1).f1⟩ : S60) [.bool ((rd_T23 l0 x8_1).f0), .string ((rd_T23 l0 x8_1).f1)] (fun _ => True) (fun _ => False) rfl (by first | (go_simp; done) | (go_simp; rfl)) ?aP (fun _ hk => hk.elim) ?aF ?aO ?aB ?aS ?aL ?_; (case aP => exact k60_mkM _ _ _ (⟨(rd_T23 l0 x8_1).f0, (rd_T23 l0 x8_1).f1⟩ : S60)); (case aB => exact (by repeat (first | (with_reducible first | exact HB.out | apply below_alloc | apply pw_below_drewN | apply below_drew1 | refine below_set ?_ GE147.out) | exact HB.out))); (case aF => exact (fun _ _ => trivial)); (case aO => exact (by (with_reducible repeat (first | apply Kd.R_alloc | apply Kd.R_drewN | apply Kd.R_drew)); exact Kd.R_mono (Kd.R_far (p := ⟨gb147, 1, none⟩) (Kd.R_far (p := ⟨gb147, 0, none⟩) (Kd.R_types HO_3.out BK147.out (by decide)) (fun _ hk => hk.2) (.bool ((rd_T23 l0 x8_1).f0))) (fun _ hk => hk.2) (.string ((rd_T23 l0 x8_1).f1))) (fun _ hk => trivial))); (case aS => exact (below_size (by repeat (first | (with_reducible first | exact HB.out | apply below_alloc | apply pw_below_drewN | apply below_drew1 | refine below_set ?_ GE147.out) | exact HB.out)))); (case aL => have := LMc5.out; omega); intro v149 w8 ho hb hg hat; rw [← Ny148.out] at ho; have n0_ := Aside0.mk (blk_grown (g := gb147) (o := .cells #[.bool ((rd_T23 l0 x8_1).f0), .string ((rd_T23 l0 x8_1).f1)] 23 (0, 0)) (by (with_reducible repeat (first | refine blk_drewN ?_ _ | refine blk_drew ?_ | refine blk_alloc ?_ _)); refine blk_put (cs := #[.bool ((rd_T23 l0 x8_1).f0), .string (⟨#[]⟩ : ByteArray)]) ?_ 1 _ rfl; (with_reducible repeat (first | refine blk_drewN ?_ _ | refine blk_drew ?_ | refine blk_alloc ?_ _)); refine blk_put (cs := #[.bool false, .string (⟨#[]⟩ : ByteArray)]) ?_ 0 _ rfl; (with_reducible repeat (first | refine blk_drewN ?_ _ | refine blk_drew ?_ | refine blk_alloc ?_ _)); exact BK147.out) hg (Kd.R_ne HO_3.out BK147.out (by decide))); have n1_ := Aside0.mk (hb); have n2_ := Aside0.mk (ho); clear BK147; clear HB; clear HO_3; have BK147 := n0_; have HB := n1_; have HO150 := n2_; clear n0_ n1_ n2_; clear ho hb hg hat))
       go_roundg k1
       case measure => have := HK1.out; omega
       case rel => exact ⟨(y148), (wrap64 (x8_1 + 1)), (by first | rfl | (simp; done) | (simp [*]; done)), H', ⟨by have := HK1.out; omega⟩, ⟨by (with_reducible repeat (first | apply Kd.R_alloc | apply Kd.R_drewN | apply Kd.R_drew)); exact HO150.out⟩, ⟨by repeat (first | (with_reducible first | exact HB.out | apply below_alloc | apply pw_below_drewN | apply below_drew1 | refine below_set ?_ GE147.out) | exact HB.out)⟩⟩
      ·rw [if_neg c5] at H
       exact absurd H (by simp)
     ·rw [if_neg c4] at H
      exact absurd H (by simp)
    ·rw [if_neg c3] at H
     exact absurd H (by simp)
   ·rw [if_neg c2] at H
    have c2b0 : decide (x8_1 < (l0.length : Int)) = false := decide_eq_false c2
    clear c2
    obtain rfl := Option.some.inj H
    go_wp2
    go_ret
    exact ⟨_, by first | rfl | (simp [errW_none, errW_some] <;> rfl) | (simp [*, errW_none, errW_some] <;> rfl), by (with_reducible repeat (first | apply Kd.R_alloc | apply Kd.R_drewN | apply Kd.R_drew)); exact HO_3.out, by repeat (first | (with_reducible first | exact HB.out | apply below_alloc | apply pw_below_drewN | apply below_drew1) | exact HB.out)⟩

/-! ### impl_letter: function 37 -/
def impl_letter.f (a0_0 : Bool) (a0_1 : ByteArray) (a0_2 : Bool) (a0_3 : ByteArray) : Option (Bool × ByteArray × Bool × ByteArray) := some (a0_0, a0_1, a0_2, a0_3)
set_option maxHeartbeats 8000000 in
set_option maxRecDepth 100000 in
theorem impl_letter.calls (a0_0 : Bool) (a0_1 : ByteArray) (a0_2 : Bool) (a0_3 : ByteArray) (r1 : Bool) (r2 : ByteArray) (r3 : Bool) (r4 : ByteArray) (w : World) (h : impl_letter.f a0_0 a0_1 a0_2 a0_3 = some (r1, r2, r3, r4)) :
  Calls Tryz.prog 37 #[.agg #[.bool a0_0, .string a0_1, .bool a0_2, .string a0_3]] w fun e w' => e = .returned (.agg #[.bool r1, .string r2, .bool r3, .string r4]) ∧ Below w.heap.size w w' := by
 have hu26 := Tryz.underlying26
 have hu64 := Tryz.underlying64
 have hu23 := Tryz.underlying23
 have HB := Aside0.mk (Below.refl w.heap.size w)
 have H : (some (a0_0, a0_1, a0_2, a0_3)) = some (r1, r2, r3, r4) := h
 clear h
 simp only [Option.some.injEq, Prod.mk.injEq] at H
 obtain ⟨rfl, rfl, rfl, rfl⟩ := H
 go_enter Tryz.func37, Tryz.ntmps37
 go_wp2_with (first | ((with_reducible refine gate_dst (N := 1) rfl ?_); refine box_event ?hg (N := 1) ?hd (cs := #[.bool a0_0, .string a0_1, .bool a0_2, .string a0_3]) (t := 26) ?hr ?_; (case hd => rfl); (case hg => rfl); (case hr => first | (go_simp; done) | (go_simp; rfl)); intro gb151 hg w2 hbox hb; have n0_ := Aside0.mk (below_step (by repeat (first | (with_reducible first | exact HB.out | apply below_alloc | apply pw_below_drewN | apply below_drew1) | exact HB.out)) hb); have n1_ := Aside0.mk (hbox); have n2_ := Aside0.mk ((by rw [hg]; exact (below_size (by repeat (first | (with_reducible first | exact HB.out | apply below_alloc | apply pw_below_drewN | apply below_drew1) | exact HB.out))) : w.heap.size ≤ gb151)); have n3_ := Aside0.mk ((by rw [hg]; exact (below_size (by repeat (first | (with_reducible first | exact HB.out | apply below_alloc | apply pw_below_drewN | apply below_drew1) | exact HB.out))) : w.heap.size ≤ gb151)); clear HB; have HB := n0_; have BK151 := n1_; have GW151 := n2_; have GE151 := n3_; clear n0_ n1_ n2_ n3_; clear hb hbox hg) | ((with_reducible refine gate_dst (N := 2) rfl ?_); refine box_event ?hg (N := 2) ?hd (cs := #[.bool false, .string (⟨#[]⟩ : ByteArray), .bool false, .string (⟨#[]⟩ : ByteArray)]) (t := 64) ?hr ?_; (case hd => rfl); (case hg => rfl); (case hr => first | (go_simp; done) | (go_simp; rfl)); intro gb152 hg w3 hbox hb; have n0_ := Aside0.mk (blk_below (g := gb151) (o := .cells #[.bool a0_0, .string a0_1, .bool a0_2, .string a0_3] 26 (0, 0)) (by (with_reducible repeat (first | refine blk_drewN ?_ _ | refine blk_drew ?_ | refine blk_alloc ?_ _)); exact BK151.out) hb); have n1_ := Aside0.mk (below_step (by repeat (first | (with_reducible first | exact HB.out | apply below_alloc | apply pw_below_drewN | apply below_drew1 | refine below_set ?_ GE151.out) | exact HB.out)) hb); have n2_ := Aside0.mk (hbox); have n3_ := Aside0.mk ((by rw [hg]; exact (below_size (by repeat (first | (with_reducible first | exact HB.out | apply below_alloc | apply pw_below_drewN | apply below_drew1 | refine below_set ?_ GE151.out) | exact HB.out))) : w.heap.size ≤ gb152)); have n4_ := Aside0.mk ((by rw [hg]; exact (below_size (by repeat (first | (with_reducible first | exact HB.out | apply below_alloc | apply pw_below_drewN | apply below_drew1 | refine below_set ?_ GE151.out) | exact HB.out))) : w.heap.size ≤ gb152)); have n5_ := Aside0.mk ((by rw [hg]; exact Nat.ne_of_lt (blk_lt (g := gb151) (o := .cells #[.bool a0_0, .string a0_1, .bool a0_2, .string a0_3] 26 (0, 0)) (by (with_reducible repeat (first | refine blk_drewN ?_ _ | refine blk_drew ?_ | refine blk_alloc ?_ _)); exact BK151.out)) : gb151 ≠ gb152)); have n6_ := Aside0.mk ((by rw [hg]; exact Nat.ne_of_gt (blk_lt (g := gb151) (o := .cells #[.bool a0_0, .string a0_1, .bool a0_2, .string a0_3] 26 (0, 0)) (by (with_reducible repeat (first | refine blk_drewN ?_ _ | refine blk_drew ?_ | refine blk_alloc ?_ _)); exact BK151.out)) : gb152 ≠ gb151)); clear BK151; clear HB; have BK151 := n0_; have HB := n1_; have BK152 := n2_; have GW152 := n3_; have GE152 := n4_; have NB151_152 := n5_; have NB152_151 := n6_; clear n0_ n1_ n2_ n3_ n4_ n5_ n6_; clear hb hbox hg; have hnb4 := NB151_152.out; have hnc4 := NB152_151.out; have hcz5_0 : w3.cell? ⟨gb151, 0, none⟩ = some (.bool a0_0) := (blk_cell BK151.out 0).trans rfl; have hcz5_1 : w3.cell? ⟨gb151, 1, none⟩ = some (.string a0_1) := (blk_cell BK151.out 1).trans rfl; have hcz5_2 : w3.cell? ⟨gb151, 2, none⟩ = some (.bool a0_2) := (blk_cell BK151.out 2).trans rfl; have hcz5_3 : w3.cell? ⟨gb151, 3, none⟩ = some (.string a0_3) := (blk_cell BK151.out 3).trans rfl; have hfz5_0 := blk_frozen BK151.out 0; have hfz5_1 := blk_frozen BK151.out 1; have hfz5_2 := blk_frozen BK151.out 2; have hfz5_3 := blk_frozen BK151.out 3; have hcz6_0 : w3.cell? ⟨gb152, 0, none⟩ = some (.bool false) := (blk_cell BK152.out 0).trans rfl; have hcz6_1 : w3.cell? ⟨gb152, 1, none⟩ = some (.string (⟨#[]⟩ : ByteArray)) := (blk_cell BK152.out 1).trans rfl; have hcz6_2 : w3.cell? ⟨gb152, 2, none⟩ = some (.bool false) := (blk_cell BK152.out 2).trans rfl; have hcz6_3 : w3.cell? ⟨gb152, 3, none⟩ = some (.string (⟨#[]⟩ : ByteArray)) := (blk_cell BK152.out 3).trans rfl; have hfz6_0 := blk_frozen BK152.out 0; have hfz6_1 := blk_frozen BK152.out 1; have hfz6_2 := blk_frozen BK152.out 2; have hfz6_3 := blk_frozen BK152.out 3))
 refine bodyPost_ret (results_cell_row rfl _ _ gb152 64 #[.bool a0_0, .string a0_1, .bool a0_2, .string a0_3] (0, 0) _ rfl (by (with_reducible repeat (first | refine blk_drewN ?_ _ | refine blk_drew ?_ | refine blk_alloc ?_ _)); refine blk_put (cs := #[.bool a0_0, .string a0_1, .bool a0_2, .string (⟨#[]⟩ : ByteArray)]) ?_ 3 _ rfl; (with_reducible repeat (first | refine blk_drewN ?_ _ | refine blk_drew ?_ | refine blk_alloc ?_ _)); refine blk_put (cs := #[.bool a0_0, .string a0_1, .bool false, .string (⟨#[]⟩ : ByteArray)]) ?_ 2 _ rfl; (with_reducible repeat (first | refine blk_drewN ?_ _ | refine blk_drew ?_ | refine blk_alloc ?_ _)); refine blk_put (cs := #[.bool a0_0, .string (⟨#[]⟩ : ByteArray), .bool false, .string (⟨#[]⟩ : ByteArray)]) ?_ 1 _ rfl; (with_reducible repeat (first | refine blk_drewN ?_ _ | refine blk_drew ?_ | refine blk_alloc ?_ _)); refine blk_put (cs := #[.bool false, .string (⟨#[]⟩ : ByteArray), .bool false, .string (⟨#[]⟩ : ByteArray)]) ?_ 0 _ rfl; (with_reducible repeat (first | refine blk_drewN ?_ _ | refine blk_drew ?_ | refine blk_alloc ?_ _)); exact BK152.out) Tryz.underlying64 rfl (by kernel_rfl)) rfl ?_
 exact ⟨by first | rfl | (simp [errW_none, errW_some] <;> rfl) | (simp [*, errW_none, errW_some] <;> rfl), by repeat (first | (with_reducible first | exact HB.out | apply below_alloc | apply pw_below_drewN | apply below_drew1 | refine below_set ?_ GE151.out | refine below_set ?_ GE152.out) | exact HB.out)⟩

/-! ### bigall_beUint32: function 85 -/
def bigall_beUint32.f (l0 : List Int) : Option (Int) := if 3 < (l0.length : Int) then (if 2 < (l0.length : Int) then (if 1 < (l0.length : Int) then (if 0 < (l0.length : Int) then (some (Go.bits .or .u32 (Go.bits .or .u32 (Go.bits .or .u32 ((rd l0 3) % 4294967296) ((((rd l0 2) % 4294967296) * 256) % 4294967296)) ((((rd l0 1) % 4294967296) * 65536) % 4294967296)) ((((rd l0 0) % 4294967296) * 16777216) % 4294967296))) else (none)) else (none)) else (none)) else (none)
set_option maxHeartbeats 8000000 in
set_option maxRecDepth 100000 in
theorem bigall_beUint32.calls (A0 : Option Addr) (c0 : Nat) (l0 : List Int) (r : Int) (w : World) (hr0 : Kd.C (Kd.int .u8) w A0 l0.length l0) (hc0 : l0.length ≤ c0) (h : bigall_beUint32.f l0 = some r) :
  Calls Tryz.prog 85 #[.slice A0 l0.length c0] w fun e w' => e = .returned (.int .u32 r) ∧ Drawn0 w w' := by
 have HR0 := Aside0.mk hr0
 have HC0 := Aside0.mk hc0
 clear hr0 hc0
 have H : (if 3 < (l0.length : Int) then (if 2 < (l0.length : Int) then (if 1 < (l0.length : Int) then (if 0 < (l0.length : Int) then (some (Go.bits .or .u32 (Go.bits .or .u32 (Go.bits .or .u32 ((rd l0 3) % 4294967296) ((((rd l0 2) % 4294967296) * 256) % 4294967296)) ((((rd l0 1) % 4294967296) * 65536) % 4294967296)) ((((rd l0 0) % 4294967296) * 16777216) % 4294967296))) else (none)) else (none)) else (none)) else (none)) = some r := h
 clear h
 by_cases c2 : 3 < (l0.length : Int)
 ·rw [if_pos c2] at H
  have c2b0 : decide (3 < (l0.length : Int)) = true := decide_eq_true c2
  have c2b1 : decide (3 < l0.length) = true := decide_eq_true (by omega)
  clear c2
  by_cases c3 : 2 < (l0.length : Int)
  ·rw [if_pos c3] at H
   have c3b0 : decide (2 < (l0.length : Int)) = true := decide_eq_true c3
   have c3b1 : decide (2 < l0.length) = true := decide_eq_true (by omega)
   clear c3
   by_cases c4 : 1 < (l0.length : Int)
   ·rw [if_pos c4] at H
    have c4b0 : decide (1 < (l0.length : Int)) = true := decide_eq_true c4
    have c4b1 : decide (1 < l0.length) = true := decide_eq_true (by omega)
    clear c4
    by_cases c5 : 0 < (l0.length : Int)
    ·rw [if_pos c5] at H
     have c5b0 : decide (0 < (l0.length : Int)) = true := decide_eq_true c5
     have c5b1 : decide (0 < l0.length) = true := decide_eq_true (by omega)
     clear c5
     obtain rfl := Option.some.inj H
     have p153 : 0 ≤ (3 : Int) := (by omega)
     have q153 : 3 < (l0.length : Int) := of_decide_eq_true (by first | (with_reducible assumption) | assumption)
     obtain ⟨ad153, e153, hx153_0⟩ := Kd.at_int HR0.out 3 p153 q153
     cases e153
     (try simp only [show (3 : Int).toNat = 3 from rfl, Nat.reduceMul, Nat.reduceEqDiff, Go.Addr.add, ↓reduceIte] at hx153_0)
     have qi153 : (3 < l0.length) = True := eq_true (by omega)
     (try rw [show ((3 : Int)).toNat = 3 from rfl] at hx153_0)
     replace p153 := eq_true p153
     replace q153 := eq_true q153
     have p154 : 0 ≤ (3 : Int) := (by omega)
     have q154 : 3 < (l0.length : Int) := of_decide_eq_true (by first | (with_reducible assumption) | assumption)
     obtain ⟨ad154, e154, hx154_0⟩ := Kd.at_int HR0.out 3 p154 q154
     obtain rfl : ad153 = ad154 := (by injection e154)
     (try simp only [show (3 : Int).toNat = 3 from rfl, Nat.reduceMul, Nat.reduceEqDiff, Go.Addr.add, ↓reduceIte] at hx154_0)
     have qi154 : (3 < l0.length) = True := eq_true (by omega)
     (try rw [show ((3 : Int)).toNat = 3 from rfl] at hx154_0)
     replace p154 := eq_true p154
     replace q154 := eq_true q154
     have p155 : 0 ≤ (2 : Int) := (by omega)
     have q155 : 2 < (l0.length : Int) := of_decide_eq_true (by first | (with_reducible assumption) | assumption)
     obtain ⟨ad155, e155, hx155_0⟩ := Kd.at_int HR0.out 2 p155 q155
     obtain rfl : ad153 = ad155 := (by injection e155)
     (try simp only [show (2 : Int).toNat = 2 from rfl, Nat.reduceMul, Nat.reduceEqDiff, Go.Addr.add, ↓reduceIte] at hx155_0)
     have qi155 : (2 < l0.length) = True := eq_true (by omega)
     (try rw [show ((2 : Int)).toNat = 2 from rfl] at hx155_0)
     replace p155 := eq_true p155
     replace q155 := eq_true q155
     have p156 : 0 ≤ (1 : Int) := (by omega)
     have q156 : 1 < (l0.length : Int) := of_decide_eq_true (by first | (with_reducible assumption) | assumption)
     obtain ⟨ad156, e156, hx156_0⟩ := Kd.at_int HR0.out 1 p156 q156
     obtain rfl : ad153 = ad156 := (by injection e156)
     (try simp only [show (1 : Int).toNat = 1 from rfl, Nat.reduceMul, Nat.reduceEqDiff, Go.Addr.add, ↓reduceIte] at hx156_0)
     have qi156 : (1 < l0.length) = True := eq_true (by omega)
     (try rw [show ((1 : Int)).toNat = 1 from rfl] at hx156_0)
     replace p156 := eq_true p156
     replace q156 := eq_true q156
     have p157 : 0 ≤ (0 : Int) := (by omega)
     have q157 : 0 < (l0.length : Int) := of_decide_eq_true (by first | (with_reducible assumption) | assumption)
     obtain ⟨ad157, e157, hx157_0⟩ := Kd.at_int HR0.out 0 p157 q157
     obtain rfl : ad153 = ad157 := (by injection e157)
     have qi157 : (0 < l0.length) = True := eq_true (by omega)
     (try rw [show ((0 : Int)).toNat = 0 from rfl] at hx157_0)
     (try rw [Addr.add_zero'] at hx157_0)
     replace p157 := eq_true p157
     replace q157 := eq_true q157
     go_enter Tryz.func85, Tryz.ntmps85
     go_wp2
     repeat (go_quiet (fail); try go_wp2)
     go_ret
     exact ⟨by first | rfl | (simp; done) | (simp [*]; done), by repeat (first | exact Drawn0.refl _ | apply Drawn0.step)⟩
    ·rw [if_neg c5] at H
     exact absurd H (by simp)
   ·rw [if_neg c4] at H
    exact absurd H (by simp)
  ·rw [if_neg c3] at H
   exact absurd H (by simp)
 ·rw [if_neg c2] at H
  exact absurd H (by simp)

/-! ### bigall_beUint64: function 84 -/
def bigall_beUint64.f (l0 : List Int) : Option (Int) := if 7 < (l0.length : Int) then ((bigall_beUint32.f l0).bind fun t159 => (if 4 ≤ (l0.length : Int) then ((bigall_beUint32.f (l0.drop 4)).bind fun t161 => (some (Go.bits .or .u64 (IntKind.u64.wrap ((IntKind.u64.wrap (t159)) * 4294967296)) (IntKind.u64.wrap (t161))))) else (none))) else (none)
set_option maxHeartbeats 8000000 in
set_option maxRecDepth 100000 in
theorem bigall_beUint64.calls (A0 : Option Addr) (c0 : Nat) (l0 : List Int) (r : Int) (w : World) (hr0 : Kd.C (Kd.int .u8) w A0 l0.length l0) (hc0 : l0.length ≤ c0) (h : bigall_beUint64.f l0 = some r) :
  Calls Tryz.prog 84 #[.slice A0 l0.length c0] w fun e w' => e = .returned (.int .u64 r) ∧ Drawn0 w w' := by
 have HR0 := Aside0.mk hr0
 have HC0 := Aside0.mk hc0
 clear hr0 hc0
 have H : (if 7 < (l0.length : Int) then ((bigall_beUint32.f l0).bind fun t159 => (if 4 ≤ (l0.length : Int) then ((bigall_beUint32.f (l0.drop 4)).bind fun t161 => (some (Go.bits .or .u64 (IntKind.u64.wrap ((IntKind.u64.wrap (t159)) * 4294967296)) (IntKind.u64.wrap (t161))))) else (none))) else (none)) = some r := h
 clear h
 by_cases c2 : 7 < (l0.length : Int)
 ·rw [if_pos c2] at H
  have c2b0 : decide (7 < (l0.length : Int)) = true := decide_eq_true c2
  have c2b1 : decide (7 < l0.length) = true := decide_eq_true (by omega)
  clear c2
  replace H := Option.bind_eq_some_iff.mp H
  obtain ⟨t159, A30, H⟩ := H
  replace H : (if 4 ≤ (l0.length : Int) then ((bigall_beUint32.f (l0.drop 4)).bind fun t161 => (some (Go.bits .or .u64 (IntKind.u64.wrap ((IntKind.u64.wrap (t159)) * 4294967296)) (IntKind.u64.wrap (t161))))) else (none)) = some r := H
  have A3 := Aside0.mk A30
  clear A30
  by_cases c4 : 4 ≤ (l0.length : Int)
  ·rw [if_pos c4] at H
   have c4b0 := eq_true c4
   have c4b1 : decide (4 ≤ (l0.length : Int)) = true := decide_eq_true c4
   clear c4
   replace H := Option.bind_eq_some_iff.mp H
   obtain ⟨t161, A50, H⟩ := H
   replace H : (some (Go.bits .or .u64 (IntKind.u64.wrap ((IntKind.u64.wrap (t159)) * 4294967296)) (IntKind.u64.wrap (t161)))) = some r := H
   have A5 := Aside0.mk A50
   clear A50
   obtain rfl := Option.some.inj H
   have p158 : 0 ≤ (7 : Int) := (by omega)
   have q158 : 7 < (l0.length : Int) := of_decide_eq_true (by first | (with_reducible assumption) | assumption)
   obtain ⟨ad158, e158, hx158_0⟩ := Kd.at_int HR0.out 7 p158 q158
   cases e158
   (try simp only [show (7 : Int).toNat = 7 from rfl, Nat.reduceMul, Nat.reduceEqDiff, Go.Addr.add, ↓reduceIte] at hx158_0)
   have qi158 : (7 < l0.length) = True := eq_true (by omega)
   (try rw [show ((7 : Int)).toNat = 7 from rfl] at hx158_0)
   replace p158 := eq_true p158
   replace q158 := eq_true q158
   go_enter Tryz.func84, Tryz.ntmps84
   go_wp2_with (first | (go_at_call 85; (with_reducible refine (bigall_beUint32.calls _ _ l0 t159 _ ?side1 ?side2 A3.out).mono ?_); (case side1 => repeat (first | exact HR0.out | (with_reducible refine Kd.C_alloc ?_ _) | (with_reducible refine Kd.C_drewN ?_ _) | (with_reducible refine Kd.C_drew ?_))); (case side2 => exact HC0.out); rintro e w' ⟨rfl, ⟨nd, rfl⟩⟩; (try first | exact ⟨rfl, _, World.drewN_drewN _ _ _⟩ | exact ⟨rfl, _, Eq.trans (World.drewN_drewN _ _ _) (congrArg (World.drewN _) (Nat.add_assoc _ _ _))⟩); obtain ⟨i06, hi06, _, hsz6, _⟩ := info_parts info5; obtain ⟨A6, hcut6, hA6, hC6⟩ := print_drop_of (P := Tryz.prog) (Value.int .u8) 0 81 5 .i64 Tryz.underlying81 hi06 hsz6 (some ad158) c0 l0 4 (by omega) (of_decide_eq_true (by first | (with_reducible assumption) | assumption)) HC0.out; have HR160 := Aside0.mk (Kd.C_of_reads (h1 := fun _ => rfl) (hA6 _ (Kd.reads_of_C HR0.out))); have HC160 := Aside0.mk hC6; clear hA6 hC6 hi06 hsz6) | (go_at_call 85; refine calls_of_args (args' := #[.slice A6 (l0.drop 4).length (c0 - 4)]) (by first | (rw [show (l0.drop 4).length = (l0.length - 4) from List.length_drop] <;> rfl) | (simp only [List.length_take, List.length_drop]; done) | rfl) ?_; (with_reducible refine (bigall_beUint32.calls _ _ (l0.drop 4) t161 _ ?side1 ?side2 A5.out).mono ?_); (case side1 => repeat (first | exact HR160.out | (with_reducible refine Kd.C_alloc ?_ _) | (with_reducible refine Kd.C_drewN ?_ _) | (with_reducible refine Kd.C_drew ?_))); (case side2 => exact HC160.out); rintro e w' ⟨rfl, ⟨nd, rfl⟩⟩; (try first | exact ⟨rfl, _, World.drewN_drewN _ _ _⟩ | exact ⟨rfl, _, Eq.trans (World.drewN_drewN _ _ _) (congrArg (World.drewN _) (Nat.add_assoc _ _ _))⟩)))
   repeat (go_quiet (first | (go_at_call 85; (with_reducible refine (bigall_beUint32.calls _ _ l0 t159 _ ?side1 ?side2 A3.out).mono ?_); (case side1 => repeat (first | exact HR0.out | (with_reducible refine Kd.C_alloc ?_ _) | (with_reducible refine Kd.C_drewN ?_ _) | (with_reducible refine Kd.C_drew ?_))); (case side2 => exact HC0.out); rintro e w' ⟨rfl, ⟨nd, rfl⟩⟩; (try first | exact ⟨rfl, _, World.drewN_drewN _ _ _⟩ | exact ⟨rfl, _, Eq.trans (World.drewN_drewN _ _ _) (congrArg (World.drewN _) (Nat.add_assoc _ _ _))⟩); obtain ⟨i06, hi06, _, hsz6, _⟩ := info_parts info5; obtain ⟨A6, hcut6, hA6, hC6⟩ := print_drop_of (P := Tryz.prog) (Value.int .u8) 0 81 5 .i64 Tryz.underlying81 hi06 hsz6 (some ad158) c0 l0 4 (by omega) (of_decide_eq_true (by first | (with_reducible assumption) | assumption)) HC0.out; have HR160 := Aside0.mk (Kd.C_of_reads (h1 := fun _ => rfl) (hA6 _ (Kd.reads_of_C HR0.out))); have HC160 := Aside0.mk hC6; clear hA6 hC6 hi06 hsz6) | (go_at_call 85; refine calls_of_args (args' := #[.slice A6 (l0.drop 4).length (c0 - 4)]) (by first | (rw [show (l0.drop 4).length = (l0.length - 4) from List.length_drop] <;> rfl) | (simp only [List.length_take, List.length_drop]; done) | rfl) ?_; (with_reducible refine (bigall_beUint32.calls _ _ (l0.drop 4) t161 _ ?side1 ?side2 A5.out).mono ?_); (case side1 => repeat (first | exact HR160.out | (with_reducible refine Kd.C_alloc ?_ _) | (with_reducible refine Kd.C_drewN ?_ _) | (with_reducible refine Kd.C_drew ?_))); (case side2 => exact HC160.out); rintro e w' ⟨rfl, ⟨nd, rfl⟩⟩; (try first | exact ⟨rfl, _, World.drewN_drewN _ _ _⟩ | exact ⟨rfl, _, Eq.trans (World.drewN_drewN _ _ _) (congrArg (World.drewN _) (Nat.add_assoc _ _ _))⟩))); try go_wp2_with (first | (go_at_call 85; (with_reducible refine (bigall_beUint32.calls _ _ l0 t159 _ ?side1 ?side2 A3.out).mono ?_); (case side1 => repeat (first | exact HR0.out | (with_reducible refine Kd.C_alloc ?_ _) | (with_reducible refine Kd.C_drewN ?_ _) | (with_reducible refine Kd.C_drew ?_))); (case side2 => exact HC0.out); rintro e w' ⟨rfl, ⟨nd, rfl⟩⟩; (try first | exact ⟨rfl, _, World.drewN_drewN _ _ _⟩ | exact ⟨rfl, _, Eq.trans (World.drewN_drewN _ _ _) (congrArg (World.drewN _) (Nat.add_assoc _ _ _))⟩); obtain ⟨i06, hi06, _, hsz6, _⟩ := info_parts info5; obtain ⟨A6, hcut6, hA6, hC6⟩ := print_drop_of (P := Tryz.prog) (Value.int .u8) 0 81 5 .i64 Tryz.underlying81 hi06 hsz6 (some ad158) c0 l0 4 (by omega) (of_decide_eq_true (by first | (with_reducible assumption) | assumption)) HC0.out; have HR160 := Aside0.mk (Kd.C_of_reads (h1 := fun _ => rfl) (hA6 _ (Kd.reads_of_C HR0.out))); have HC160 := Aside0.mk hC6; clear hA6 hC6 hi06 hsz6) | (go_at_call 85; refine calls_of_args (args' := #[.slice A6 (l0.drop 4).length (c0 - 4)]) (by first | (rw [show (l0.drop 4).length = (l0.length - 4) from List.length_drop] <;> rfl) | (simp only [List.length_take, List.length_drop]; done) | rfl) ?_; (with_reducible refine (bigall_beUint32.calls _ _ (l0.drop 4) t161 _ ?side1 ?side2 A5.out).mono ?_); (case side1 => repeat (first | exact HR160.out | (with_reducible refine Kd.C_alloc ?_ _) | (with_reducible refine Kd.C_drewN ?_ _) | (with_reducible refine Kd.C_drew ?_))); (case side2 => exact HC160.out); rintro e w' ⟨rfl, ⟨nd, rfl⟩⟩; (try first | exact ⟨rfl, _, World.drewN_drewN _ _ _⟩ | exact ⟨rfl, _, Eq.trans (World.drewN_drewN _ _ _) (congrArg (World.drewN _) (Nat.add_assoc _ _ _))⟩))))
   go_ret
   exact ⟨by first | rfl | (simp; done) | (simp [*]; done), by repeat (first | exact Drawn0.refl _ | apply Drawn0.step)⟩
  ·rw [if_neg c4] at H
   exact absurd H (by simp)
 ·rw [if_neg c2] at H
  exact absurd H (by simp)

/-! ### bigall_bigEndianWord: function 75 -/
def bigall_bigEndianWord.f (l0 : List Int) : Option (Int) := (bigall_beUint64.f l0).bind fun t162 => (some t162)
set_option maxHeartbeats 8000000 in
set_option maxRecDepth 100000 in
theorem bigall_bigEndianWord.calls (A0 : Option Addr) (c0 : Nat) (l0 : List Int) (r : Int) (w : World) (hr0 : Kd.C (Kd.int .u8) w A0 l0.length l0) (hc0 : l0.length ≤ c0) (h : bigall_bigEndianWord.f l0 = some r) :
  Calls Tryz.prog 75 #[.slice A0 l0.length c0] w fun e w' => e = .returned (.int .u64 r) ∧ Drawn0 w w' := by
 have HR0 := Aside0.mk hr0
 have HC0 := Aside0.mk hc0
 clear hr0 hc0
 have H : ((bigall_beUint64.f l0).bind fun t162 => (some t162)) = some r := h
 clear h
 replace H := Option.bind_eq_some_iff.mp H
 obtain ⟨t162, A20, H⟩ := H
 replace H : (some t162) = some r := H
 have A2 := Aside0.mk A20
 clear A20
 obtain rfl := Option.some.inj H
 go_enter Tryz.func75, Tryz.ntmps75
 go_wp2_with (first | ((with_reducible refine gate_callee (f := 84) rfl ?_); refine goesL_ (some 4) rfl rfl Tryz.func84 (by kernel_rfl) rfl #[.slice A0 l0.length c0] rfl (by (try simp only [List.map_toArray, List.map_cons, List.map_nil]); first | done | rfl | (simp only [List.length_drop, List.length_take]; rfl)) ?_; (with_reducible refine (bigall_beUint64.calls _ _ l0 t162 _ ?side1 ?side2 A2.out).mono ?_); (case side1 => repeat (first | exact HR0.out | (with_reducible refine Kd.C_alloc ?_ _) | (with_reducible refine Kd.C_drewN ?_ _) | (with_reducible refine Kd.C_drew ?_))); (case side2 => exact HC0.out); rintro e w' ⟨rfl, ⟨nd, rfl⟩⟩; refine ⟨_, rfl, ?_⟩))
 go_ret
 exact ⟨by first | rfl | (simp; done) | (simp [*]; done), by repeat (first | exact Drawn0.refl _ | apply Drawn0.step)⟩

end Go.Proofs.YtipfmkfpaglkkaaGreatDoor.Z
