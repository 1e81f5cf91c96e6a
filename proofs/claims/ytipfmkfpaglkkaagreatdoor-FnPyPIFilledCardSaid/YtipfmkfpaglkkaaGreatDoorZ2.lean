-- Written by a program of this session (myprint.py).
import Derived.Test.YtipfmkfpaglkkaaGreatDoorZ0
import Derived.Test.YtipfmkfpaglkkaaGreatDoorZ1
import Derived.Test.YtipfmkfpaglkkaaGreatDoorGe
namespace Go.Proofs.YtipfmkfpaglkkaaGreatDoor.Z
open Go.Proofs.YtipfmkfpaglkkaaGreatDoor.Gw
open Go.RowKit Go.Proofs.YtipfmkfpaglkkaaGreatDoorW.PrintWords Go.Proofs.YtipfmkfpaglkkaaGreatDoorW.PrintLast Go.Proofs.YtipfmkfpaglkkaaGreatDoorW.PrintMore
attribute [local go_sem high] Go.Proofs.YtipfmkfpaglkkaaGreatDoor.Ge.gtr_str
attribute [local go_sem] max2_int min2_int max_two min_two max_three min_three max_four min_four   -- for this text's walks alone
set_option linter.unusedVariables false
set_option linter.unusedSimpArgs false

attribute [local go_sem high] eqA23
/-! ### laws_zzFits3: function 11 -/
def laws_zzFits3.f (a0_0 : Bool) (a0_1 : ByteArray) : Option (Bool) := if (a0_1.size : Int) > 2147483647 then (some false) else (some true)
set_option maxHeartbeats 8000000 in
set_option maxRecDepth 100000 in
theorem laws_zzFits3.calls (a0_0 : Bool) (a0_1 : ByteArray) (r : Bool) (w : World) (h : laws_zzFits3.f a0_0 a0_1 = some r) :
  Calls Tryz.prog 11 #[.agg #[.bool a0_0, .string a0_1]] w fun e w' => e = .returned (.bool r) ∧ Below w.heap.size w w' := by
 have hu23 := Tryz.underlying23
 have HB := Aside0.mk (Below.refl w.heap.size w)
 have H : (if (a0_1.size : Int) > 2147483647 then (some false) else (some true)) = some r := h
 clear h
 by_cases c2 : (a0_1.size : Int) > 2147483647
 ·rw [if_pos c2] at H
  have c2b0 : decide (2147483647 < (a0_1.size : Int)) = true := decide_eq_true c2
  have c2b1 : decide (2147483647 < a0_1.size) = true := decide_eq_true (by omega)
  clear c2
  obtain rfl := Option.some.inj H
  go_enter Tryz.func11, Tryz.ntmps11
  go_wp2_with (first | ((with_reducible refine gate_dst (N := 1) rfl ?_); refine box_event ?hg (N := 1) ?hd (cs := #[.bool a0_0, .string a0_1]) (t := 23) ?hr ?_; (case hd => rfl); (case hg => rfl); (case hr => first | (go_simp; done) | (go_simp; rfl)); intro gb101 hg w3 hbox hb; have n0_ := Aside0.mk (below_step (by repeat (first | (with_reducible first | exact HB.out | apply below_alloc | apply pw_below_drewN | apply below_drew1) | exact HB.out)) hb); have n1_ := Aside0.mk (hbox); have n2_ := Aside0.mk ((by rw [hg]; exact (below_size (by repeat (first | (with_reducible first | exact HB.out | apply below_alloc | apply pw_below_drewN | apply below_drew1) | exact HB.out))) : w.heap.size ≤ gb101)); have n3_ := Aside0.mk ((by rw [hg]; exact (below_size (by repeat (first | (with_reducible first | exact HB.out | apply below_alloc | apply pw_below_drewN | apply below_drew1) | exact HB.out))) : w.heap.size ≤ gb101)); clear HB; have HB := n0_; have BK101 := n1_; have GW101 := n2_; have GE101 := n3_; clear n0_ n1_ n2_ n3_; clear hb hbox hg; have hcz4_0 : w3.cell? ⟨gb101, 0, none⟩ = some (.bool a0_0) := (blk_cell BK101.out 0).trans rfl; have hcz4_1 : w3.cell? ⟨gb101, 1, none⟩ = some (.string a0_1) := (blk_cell BK101.out 1).trans rfl; have hfz4_0 := blk_frozen BK101.out 0; have hfz4_1 := blk_frozen BK101.out 1))
  go_ret
  exact ⟨by first | rfl | (simp [errW_none, errW_some] <;> rfl) | (simp [*, errW_none, errW_some] <;> rfl), by repeat (first | (with_reducible first | exact HB.out | apply below_alloc | apply pw_below_drewN | apply below_drew1 | refine below_set ?_ GE101.out) | exact HB.out)⟩
 ·rw [if_neg c2] at H
  have c2b0 : decide (2147483647 < (a0_1.size : Int)) = false := decide_eq_false c2
  have c2b1 : decide (2147483647 < a0_1.size) = false := decide_eq_false (by omega)
  clear c2
  obtain rfl := Option.some.inj H
  go_enter Tryz.func11, Tryz.ntmps11
  go_wp2_with (first | ((with_reducible refine gate_dst (N := 1) rfl ?_); refine box_event ?hg (N := 1) ?hd (cs := #[.bool a0_0, .string a0_1]) (t := 23) ?hr ?_; (case hd => rfl); (case hg => rfl); (case hr => first | (go_simp; done) | (go_simp; rfl)); intro gb101 hg w5 hbox hb; have n0_ := Aside0.mk (below_step (by repeat (first | (with_reducible first | exact HB.out | apply below_alloc | apply pw_below_drewN | apply below_drew1) | exact HB.out)) hb); have n1_ := Aside0.mk (hbox); have n2_ := Aside0.mk ((by rw [hg]; exact (below_size (by repeat (first | (with_reducible first | exact HB.out | apply below_alloc | apply pw_below_drewN | apply below_drew1) | exact HB.out))) : w.heap.size ≤ gb101)); have n3_ := Aside0.mk ((by rw [hg]; exact (below_size (by repeat (first | (with_reducible first | exact HB.out | apply below_alloc | apply pw_below_drewN | apply below_drew1) | exact HB.out))) : w.heap.size ≤ gb101)); clear HB; have HB := n0_; have BK101 := n1_; have GW101 := n2_; have GE101 := n3_; clear n0_ n1_ n2_ n3_; clear hb hbox hg; have hcz6_0 : w5.cell? ⟨gb101, 0, none⟩ = some (.bool a0_0) := (blk_cell BK101.out 0).trans rfl; have hcz6_1 : w5.cell? ⟨gb101, 1, none⟩ = some (.string a0_1) := (blk_cell BK101.out 1).trans rfl; have hfz6_0 := blk_frozen BK101.out 0; have hfz6_1 := blk_frozen BK101.out 1))
  go_ret
  exact ⟨by first | rfl | (simp [errW_none, errW_some] <;> rfl) | (simp [*, errW_none, errW_some] <;> rfl), by repeat (first | (with_reducible first | exact HB.out | apply below_alloc | apply pw_below_drewN | apply below_drew1 | refine below_set ?_ GE101.out) | exact HB.out)⟩

/-! ### laws_zzFits2: function 12 -/
def laws_zzFits2.l0 : Nat → List (S23) → Int → Int → Option (Bool)
 | 0, _, _, _ => none
 | k + 1, x8, x9, x10 => if x10 < x9 then (if 0 ≤ x10 then (if x10 < (x8.length : Int) then ((laws_zzFits3.f ((rd_T23 x8 x10).f0) ((rd_T23 x8 x10).f1)).bind fun t104 => (if t104 = true then (laws_zzFits2.l0 k x8 x9 (wrap64 (x10 + 1))) else (some false))) else (none)) else (none)) else (some true)
def laws_zzFits2.f (k : Nat) (l0 : List (S23)) : Option (Bool) := if (l0.length : Int) > 2147483647 then (some false) else (laws_zzFits2.l0 k l0 (l0.length : Int) 0)
theorem laws_zzFits2.mono_l : ∀ k, (∀ y0 y1 y2, LeO (laws_zzFits2.l0 k y0 y1 y2) (laws_zzFits2.l0 (k + 1) y0 y1 y2))
 | 0 => fun _ _ _ r h => by simp [laws_zzFits2.l0] at h
 | k + 1 => by
  have ih0 := laws_zzFits2.mono_l k
  ·intro y0 y1 y2
   unfold laws_zzFits2.l0
   repeat' first
   | (with_reducible exact ih0 _ _ _)
   | (with_reducible exact LeO.refl _)
   | (with_reducible exact LeO.none _)
   | (with_reducible refine LeO.ite ?_ ?_)
   | (with_reducible refine LeO.bind ?_ (fun _ => ?_))
   | exact ih0 _ _ _
   | exact LeO.none _
   | refine LeO.ite ?_ ?_
   | refine LeO.bind ?_ (fun _ => ?_)
theorem laws_zzFits2.mono : ∀ a0 k, LeO (laws_zzFits2.f k a0) (laws_zzFits2.f (k + 1) a0) := by
 intro a0 k
 have ih0 := laws_zzFits2.mono_l k
 unfold laws_zzFits2.f
 repeat' first
   | (with_reducible exact ih0 _ _ _)
   | (with_reducible exact LeO.refl _)
   | (with_reducible exact LeO.none _)
   | (with_reducible refine LeO.ite ?_ ?_)
   | (with_reducible refine LeO.bind ?_ (fun _ => ?_))
   | exact ih0 _ _ _
   | exact LeO.none _
   | refine LeO.ite ?_ ?_
   | refine LeO.bind ?_ (fun _ => ?_)
set_option maxHeartbeats 8000000 in
set_option maxRecDepth 100000 in
theorem laws_zzFits2.calls (k : Nat) (A0 : Option Addr) (c0 : Nat) (l0 : List (S23)) (r : Bool) (w : World) (hr0 : Kd.C k23 w A0 l0.length l0) (hc0 : l0.length ≤ c0) (h : laws_zzFits2.f k l0 = some r) :
  Calls Tryz.prog 12 #[.slice A0 l0.length c0] w fun e w' => e = .returned (.bool r) ∧ Below w.heap.size w w' := by
 have hu23 := Tryz.underlying23
 have HR0 := Aside0.mk hr0
 have HC0 := Aside0.mk hc0
 clear hr0 hc0
 have HB := Aside0.mk (Below.refl w.heap.size w)
 have H : (if (l0.length : Int) > 2147483647 then (some false) else (laws_zzFits2.l0 k l0 (l0.length : Int) 0)) = some r := h
 clear h
 by_cases c2 : (l0.length : Int) > 2147483647
 ·rw [if_pos c2] at H
  have c2b0 : decide (2147483647 < (l0.length : Int)) = true := decide_eq_true c2
  have c2b1 : decide (2147483647 < l0.length) = true := decide_eq_true (by omega)
  clear c2
  obtain rfl := Option.some.inj H
  go_enter Tryz.func12, Tryz.ntmps12
  go_wp2
  go_ret
  exact ⟨by first | rfl | (simp [errW_none, errW_some] <;> rfl) | (simp [*, errW_none, errW_some] <;> rfl), by repeat (first | (with_reducible first | exact HB.out | apply below_alloc | apply pw_below_drewN | apply below_drew1) | exact HB.out)⟩
 ·rw [if_neg c2] at H
  have c2b0 : decide (2147483647 < (l0.length : Int)) = false := decide_eq_false c2
  have c2b1 : decide (2147483647 < l0.length) = false := decide_eq_false (by omega)
  clear c2
  have H' := Aside0.mk H
  clear H
  go_enter Tryz.func12, Tryz.ntmps12
  go_wp2
  go_loopg [10] k (fun kq v10 w' => ∃ (x10_1 : Int), v10 = .int .i64 x10_1 ∧ Aside0 (laws_zzFits2.l0 kq l0 (l0.length : Int) x10_1 = some r) ∧ Aside0 (kq ≤ k) ∧ Aside0 (Below w.heap.size w w'))
  case atStart => exact ⟨(0), (by first | rfl | (simp; done) | (simp [*]; done)), H', ⟨Nat.le_refl _⟩, ⟨by repeat (first | (with_reducible first | exact HB.out | apply below_alloc | apply pw_below_drewN | apply below_drew1) | exact HB.out)⟩⟩
  case round =>
   clear H'
   try clear c1
   try clear c2
   try clear c2b0
   try clear c2b1
   try clear p2
   obtain ⟨x10_1, rfl, HA, HK1, HB⟩ := hrel
   cases gk with
   | zero => exact absurd HA.out (by simp [laws_zzFits2.l0])
   | succ k1 =>
    have H := HA.out
    clear HA
    simp only [laws_zzFits2.l0] at H
    by_cases c3 : x10_1 < (l0.length : Int)
    ·rw [if_pos c3] at H
     have c3b0 : decide (x10_1 < (l0.length : Int)) = true := decide_eq_true c3
     clear c3
     by_cases c4 : 0 ≤ x10_1
     ·rw [if_pos c4] at H
      have c4b0 : decide (0 ≤ x10_1) = true := decide_eq_true c4
      clear c4
      by_cases c5 : x10_1 < (l0.length : Int)
      ·rw [if_pos c5] at H
       have c5b0 : decide (x10_1 < (l0.length : Int)) = true := decide_eq_true c5
       clear c5
       replace H := Option.bind_eq_some_iff.mp H
       obtain ⟨t104, A60, H⟩ := H
       replace H : (if t104 = true then (laws_zzFits2.l0 k1 l0 (l0.length : Int) (wrap64 (x10_1 + 1))) else (some false)) = some r := H
       have A6 := Aside0.mk A60
       clear A60
       by_cases c7 : t104 = true
       ·subst c7
        have H1 : (laws_zzFits2.l0 k1 l0 (l0.length : Int) (wrap64 (x10_1 + 1))) = some r := by rw [if_pos rfl] at H; exact H
        clear H
        have H := H1
        clear H1
        have H' := Aside0.mk H
        clear H
        have p102 : 0 ≤ (x10_1 : Int) := of_decide_eq_true (by first | (with_reducible assumption) | assumption)
        have q102 : x10_1 < (l0.length : Int) := of_decide_eq_true (by first | (with_reducible assumption) | assumption)
        obtain ⟨ad102, e102, hx102_0, hx102_1⟩ := at_T23 HR0.out x10_1 p102 q102
        cases e102
        replace hx102_0 := (HB.out.cell (World.block_lt_of_cell? w _ hx102_0)).trans hx102_0
        replace hx102_1 := (HB.out.cell (World.block_lt_of_cell? w _ hx102_1)).trans hx102_1
        replace p102 := eq_true p102
        replace q102 := eq_true q102
        go_wp2_with (first | ((with_reducible refine gate_dst (N := 4) rfl ?_); refine box_event ?hg (N := 4) ?hd (cs := #[.bool false, .string (⟨#[]⟩ : ByteArray)]) (t := 23) ?hr ?_; (case hd => rfl); (case hg => rfl); (case hr => first | (go_simp; done) | (go_simp; rfl)); intro gb103 hg w8 hbox hb; have n0_ := Aside0.mk (below_step (by repeat (first | (with_reducible first | exact HB.out | apply below_alloc | apply pw_below_drewN | apply below_drew1) | exact HB.out)) hb); have n1_ := Aside0.mk (hbox); have n2_ := Aside0.mk ((by rw [hg]; exact (below_size (by repeat (first | (with_reducible first | exact HB.out | apply below_alloc | apply pw_below_drewN | apply below_drew1) | exact HB.out))) : w.heap.size ≤ gb103)); have n3_ := Aside0.mk ((by rw [hg]; exact (below_size (by repeat (first | (with_reducible first | exact HB.out | apply below_alloc | apply pw_below_drewN | apply below_drew1) | exact HB.out))) : w.heap.size ≤ gb103)); clear HB; have HB := n0_; have BK103 := n1_; have GW103 := n2_; have GE103 := n3_; clear n0_ n1_ n2_ n3_; clear hb hbox hg; have hcz9_0 : w8.cell? ⟨gb103, 0, none⟩ = some (.bool false) := (blk_cell BK103.out 0).trans rfl; have hcz9_1 : w8.cell? ⟨gb103, 1, none⟩ = some (.string (⟨#[]⟩ : ByteArray)) := (blk_cell BK103.out 1).trans rfl; have hfz9_0 := blk_frozen BK103.out 0; have hfz9_1 := blk_frozen BK103.out 1) | ((with_reducible refine gate_callee (f := 11) rfl ?_); refine goesL_ (some 15) rfl rfl Tryz.func11 (by kernel_rfl) rfl #[.agg #[.bool ((rd_T23 l0 x10_1).f0), .string ((rd_T23 l0 x10_1).f1)]] rfl (by (try simp only [List.map_toArray, List.map_cons, List.map_nil]); first | done | rfl | (simp only [List.length_drop, List.length_take]; rfl)) ?_; (with_reducible refine (laws_zzFits3.calls ((rd_T23 l0 x10_1).f0) ((rd_T23 l0 x10_1).f1) true _ A6.out).mono ?_); rintro e w10 ⟨rfl, hb⟩; refine ⟨_, rfl, ?_⟩; have n0_ := Aside0.mk (blk_below (g := gb103) (o := .cells #[.bool ((rd_T23 l0 x10_1).f0), .string ((rd_T23 l0 x10_1).f1)] 23 (0, 0)) (by (with_reducible repeat (first | refine blk_drewN ?_ _ | refine blk_drew ?_ | refine blk_alloc ?_ _)); refine blk_put (cs := #[.bool ((rd_T23 l0 x10_1).f0), .string (⟨#[]⟩ : ByteArray)]) ?_ 1 _ rfl; (with_reducible repeat (first | refine blk_drewN ?_ _ | refine blk_drew ?_ | refine blk_alloc ?_ _)); refine blk_put (cs := #[.bool false, .string (⟨#[]⟩ : ByteArray)]) ?_ 0 _ rfl; (with_reducible repeat (first | refine blk_drewN ?_ _ | refine blk_drew ?_ | refine blk_alloc ?_ _)); exact BK103.out) hb); have n1_ := Aside0.mk (below_step (by repeat (first | (with_reducible first | exact HB.out | apply below_alloc | apply pw_below_drewN | apply below_drew1 | refine below_set ?_ GE103.out) | exact HB.out)) hb); clear BK103; clear HB; have BK103 := n0_; have HB := n1_; clear n0_ n1_; (try clear hb); (try clear hb2); (try clear hk); (try clear hi)))
        go_roundg k1
        case measure => have := HK1.out; omega
        case rel => exact ⟨(wrap64 (x10_1 + 1)), (by first | rfl | (simp; done) | (simp [*]; done)), H', ⟨by have := HK1.out; omega⟩, ⟨by repeat (first | (with_reducible first | exact HB.out | apply below_alloc | apply pw_below_drewN | apply below_drew1 | refine below_set ?_ GE103.out) | exact HB.out)⟩⟩
       ·replace c7 := Bool.eq_false_iff.mpr c7
        subst c7
        have H1 : (some false) = some r := by rw [if_neg (show ¬ (false = true) by decide)] at H; exact H
        clear H
        have H := H1
        clear H1
        obtain rfl := Option.some.inj H
        have p102 : 0 ≤ (x10_1 : Int) := of_decide_eq_true (by first | (with_reducible assumption) | assumption)
        have q102 : x10_1 < (l0.length : Int) := of_decide_eq_true (by first | (with_reducible assumption) | assumption)
        obtain ⟨ad102, e102, hx102_0, hx102_1⟩ := at_T23 HR0.out x10_1 p102 q102
        cases e102
        replace hx102_0 := (HB.out.cell (World.block_lt_of_cell? w _ hx102_0)).trans hx102_0
        replace hx102_1 := (HB.out.cell (World.block_lt_of_cell? w _ hx102_1)).trans hx102_1
        replace p102 := eq_true p102
        replace q102 := eq_true q102
        go_wp2_with (first | ((with_reducible refine gate_dst (N := 4) rfl ?_); refine box_event ?hg (N := 4) ?hd (cs := #[.bool false, .string (⟨#[]⟩ : ByteArray)]) (t := 23) ?hr ?_; (case hd => rfl); (case hg => rfl); (case hr => first | (go_simp; done) | (go_simp; rfl)); intro gb103 hg w11 hbox hb; have n0_ := Aside0.mk (below_step (by repeat (first | (with_reducible first | exact HB.out | apply below_alloc | apply pw_below_drewN | apply below_drew1) | exact HB.out)) hb); have n1_ := Aside0.mk (hbox); have n2_ := Aside0.mk ((by rw [hg]; exact (below_size (by repeat (first | (with_reducible first | exact HB.out | apply below_alloc | apply pw_below_drewN | apply below_drew1) | exact HB.out))) : w.heap.size ≤ gb103)); have n3_ := Aside0.mk ((by rw [hg]; exact (below_size (by repeat (first | (with_reducible first | exact HB.out | apply below_alloc | apply pw_below_drewN | apply below_drew1) | exact HB.out))) : w.heap.size ≤ gb103)); clear HB; have HB := n0_; have BK103 := n1_; have GW103 := n2_; have GE103 := n3_; clear n0_ n1_ n2_ n3_; clear hb hbox hg; have hcz12_0 : w11.cell? ⟨gb103, 0, none⟩ = some (.bool false) := (blk_cell BK103.out 0).trans rfl; have hcz12_1 : w11.cell? ⟨gb103, 1, none⟩ = some (.string (⟨#[]⟩ : ByteArray)) := (blk_cell BK103.out 1).trans rfl; have hfz12_0 := blk_frozen BK103.out 0; have hfz12_1 := blk_frozen BK103.out 1) | ((with_reducible refine gate_callee (f := 11) rfl ?_); refine goesL_ (some 15) rfl rfl Tryz.func11 (by kernel_rfl) rfl #[.agg #[.bool ((rd_T23 l0 x10_1).f0), .string ((rd_T23 l0 x10_1).f1)]] rfl (by (try simp only [List.map_toArray, List.map_cons, List.map_nil]); first | done | rfl | (simp only [List.length_drop, List.length_take]; rfl)) ?_; (with_reducible refine (laws_zzFits3.calls ((rd_T23 l0 x10_1).f0) ((rd_T23 l0 x10_1).f1) false _ A6.out).mono ?_); rintro e w13 ⟨rfl, hb⟩; refine ⟨_, rfl, ?_⟩; have n0_ := Aside0.mk (blk_below (g := gb103) (o := .cells #[.bool ((rd_T23 l0 x10_1).f0), .string ((rd_T23 l0 x10_1).f1)] 23 (0, 0)) (by (with_reducible repeat (first | refine blk_drewN ?_ _ | refine blk_drew ?_ | refine blk_alloc ?_ _)); refine blk_put (cs := #[.bool ((rd_T23 l0 x10_1).f0), .string (⟨#[]⟩ : ByteArray)]) ?_ 1 _ rfl; (with_reducible repeat (first | refine blk_drewN ?_ _ | refine blk_drew ?_ | refine blk_alloc ?_ _)); refine blk_put (cs := #[.bool false, .string (⟨#[]⟩ : ByteArray)]) ?_ 0 _ rfl; (with_reducible repeat (first | refine blk_drewN ?_ _ | refine blk_drew ?_ | refine blk_alloc ?_ _)); exact BK103.out) hb); have n1_ := Aside0.mk (below_step (by repeat (first | (with_reducible first | exact HB.out | apply below_alloc | apply pw_below_drewN | apply below_drew1 | refine below_set ?_ GE103.out) | exact HB.out)) hb); clear BK103; clear HB; have BK103 := n0_; have HB := n1_; clear n0_ n1_; (try clear hb); (try clear hb2); (try clear hk); (try clear hi)))
        go_ret
        exact ⟨by first | rfl | (simp [errW_none, errW_some] <;> rfl) | (simp [*, errW_none, errW_some] <;> rfl), by repeat (first | (with_reducible first | exact HB.out | apply below_alloc | apply pw_below_drewN | apply below_drew1 | refine below_set ?_ GE103.out) | exact HB.out)⟩
      ·rw [if_neg c5] at H
       exact absurd H (by simp)
     ·rw [if_neg c4] at H
      exact absurd H (by simp)
    ·rw [if_neg c3] at H
     have c3b0 : decide (x10_1 < (l0.length : Int)) = false := decide_eq_false c3
     clear c3
     obtain rfl := Option.some.inj H
     go_wp2
     go_ret
     exact ⟨by first | rfl | (simp [errW_none, errW_some] <;> rfl) | (simp [*, errW_none, errW_some] <;> rfl), by repeat (first | (with_reducible first | exact HB.out | apply below_alloc | apply pw_below_drewN | apply below_drew1) | exact HB.out)⟩

/-! ### laws_zzFits13: function 13 -/
def laws_zzFits13.f (a0_0 : Bool) (a0_1 : ByteArray) (a0_2 : Bool) (a0_3 : ByteArray) : Option (Bool) := if (a0_1.size : Int) > 2147483647 then (some false) else ((laws_zzFits3.f a0_2 a0_3).bind fun t106 => (if t106 = true then (some true) else (some false)))
set_option maxHeartbeats 8000000 in
set_option maxRecDepth 100000 in
theorem laws_zzFits13.calls (a0_0 : Bool) (a0_1 : ByteArray) (a0_2 : Bool) (a0_3 : ByteArray) (r : Bool) (w : World) (h : laws_zzFits13.f a0_0 a0_1 a0_2 a0_3 = some r) :
  Calls Tryz.prog 13 #[.agg #[.bool a0_0, .string a0_1, .bool a0_2, .string a0_3]] w fun e w' => e = .returned (.bool r) ∧ Below w.heap.size w w' := by
 have hu26 := Tryz.underlying26
 have hu23 := Tryz.underlying23
 have HB := Aside0.mk (Below.refl w.heap.size w)
 have H : (if (a0_1.size : Int) > 2147483647 then (some false) else ((laws_zzFits3.f a0_2 a0_3).bind fun t106 => (if t106 = true then (some true) else (some false)))) = some r := h
 clear h
 by_cases c2 : (a0_1.size : Int) > 2147483647
 ·rw [if_pos c2] at H
  have c2b0 : decide (2147483647 < (a0_1.size : Int)) = true := decide_eq_true c2
  have c2b1 : decide (2147483647 < a0_1.size) = true := decide_eq_true (by omega)
  clear c2
  obtain rfl := Option.some.inj H
  go_enter Tryz.func13, Tryz.ntmps13
  go_wp2_with (first | ((with_reducible refine gate_dst (N := 1) rfl ?_); refine box_event ?hg (N := 1) ?hd (cs := #[.bool a0_0, .string a0_1, .bool a0_2, .string a0_3]) (t := 26) ?hr ?_; (case hd => rfl); (case hg => rfl); (case hr => first | (go_simp; done) | (go_simp; rfl)); intro gb105 hg w3 hbox hb; have n0_ := Aside0.mk (below_step (by repeat (first | (with_reducible first | exact HB.out | apply below_alloc | apply pw_below_drewN | apply below_drew1) | exact HB.out)) hb); have n1_ := Aside0.mk (hbox); have n2_ := Aside0.mk ((by rw [hg]; exact (below_size (by repeat (first | (with_reducible first | exact HB.out | apply below_alloc | apply pw_below_drewN | apply below_drew1) | exact HB.out))) : w.heap.size ≤ gb105)); have n3_ := Aside0.mk ((by rw [hg]; exact (below_size (by repeat (first | (with_reducible first | exact HB.out | apply below_alloc | apply pw_below_drewN | apply below_drew1) | exact HB.out))) : w.heap.size ≤ gb105)); clear HB; have HB := n0_; have BK105 := n1_; have GW105 := n2_; have GE105 := n3_; clear n0_ n1_ n2_ n3_; clear hb hbox hg; have hcz4_0 : w3.cell? ⟨gb105, 0, none⟩ = some (.bool a0_0) := (blk_cell BK105.out 0).trans rfl; have hcz4_1 : w3.cell? ⟨gb105, 1, none⟩ = some (.string a0_1) := (blk_cell BK105.out 1).trans rfl; have hcz4_2 : w3.cell? ⟨gb105, 2, none⟩ = some (.bool a0_2) := (blk_cell BK105.out 2).trans rfl; have hcz4_3 : w3.cell? ⟨gb105, 3, none⟩ = some (.string a0_3) := (blk_cell BK105.out 3).trans rfl; have hfz4_0 := blk_frozen BK105.out 0; have hfz4_1 := blk_frozen BK105.out 1; have hfz4_2 := blk_frozen BK105.out 2; have hfz4_3 := blk_frozen BK105.out 3))
  go_ret
  exact ⟨by first | rfl | (simp [errW_none, errW_some] <;> rfl) | (simp [*, errW_none, errW_some] <;> rfl), by repeat (first | (with_reducible first | exact HB.out | apply below_alloc | apply pw_below_drewN | apply below_drew1 | refine below_set ?_ GE105.out) | exact HB.out)⟩
 ·rw [if_neg c2] at H
  have c2b0 : decide (2147483647 < (a0_1.size : Int)) = false := decide_eq_false c2
  have c2b1 : decide (2147483647 < a0_1.size) = false := decide_eq_false (by omega)
  clear c2
  replace H := Option.bind_eq_some_iff.mp H
  obtain ⟨t106, A50, H⟩ := H
  replace H : (if t106 = true then (some true) else (some false)) = some r := H
  have A5 := Aside0.mk A50
  clear A50
  by_cases c6 : t106 = true
  ·subst c6
   have H1 : (some true) = some r := by rw [if_pos rfl] at H; exact H
   clear H
   have H := H1
   clear H1
   obtain rfl := Option.some.inj H
   go_enter Tryz.func13, Tryz.ntmps13
   go_wp2_with (first | ((with_reducible refine gate_dst (N := 1) rfl ?_); refine box_event ?hg (N := 1) ?hd (cs := #[.bool a0_0, .string a0_1, .bool a0_2, .string a0_3]) (t := 26) ?hr ?_; (case hd => rfl); (case hg => rfl); (case hr => first | (go_simp; done) | (go_simp; rfl)); intro gb105 hg w7 hbox hb; have n0_ := Aside0.mk (below_step (by repeat (first | (with_reducible first | exact HB.out | apply below_alloc | apply pw_below_drewN | apply below_drew1) | exact HB.out)) hb); have n1_ := Aside0.mk (hbox); have n2_ := Aside0.mk ((by rw [hg]; exact (below_size (by repeat (first | (with_reducible first | exact HB.out | apply below_alloc | apply pw_below_drewN | apply below_drew1) | exact HB.out))) : w.heap.size ≤ gb105)); have n3_ := Aside0.mk ((by rw [hg]; exact (below_size (by repeat (first | (with_reducible first | exact HB.out | apply below_alloc | apply pw_below_drewN | apply below_drew1) | exact HB.out))) : w.heap.size ≤ gb105)); clear HB; have HB := n0_; have BK105 := n1_; have GW105 := n2_; have GE105 := n3_; clear n0_ n1_ n2_ n3_; clear hb hbox hg; have hcz8_0 : w7.cell? ⟨gb105, 0, none⟩ = some (.bool a0_0) := (blk_cell BK105.out 0).trans rfl; have hcz8_1 : w7.cell? ⟨gb105, 1, none⟩ = some (.string a0_1) := (blk_cell BK105.out 1).trans rfl; have hcz8_2 : w7.cell? ⟨gb105, 2, none⟩ = some (.bool a0_2) := (blk_cell BK105.out 2).trans rfl; have hcz8_3 : w7.cell? ⟨gb105, 3, none⟩ = some (.string a0_3) := (blk_cell BK105.out 3).trans rfl; have hfz8_0 := blk_frozen BK105.out 0; have hfz8_1 := blk_frozen BK105.out 1; have hfz8_2 := blk_frozen BK105.out 2; have hfz8_3 := blk_frozen BK105.out 3) | ((with_reducible refine gate_callee (f := 11) rfl ?_); refine goesL_ (some 9) rfl rfl Tryz.func11 (by kernel_rfl) rfl #[.agg #[.bool a0_2, .string a0_3]] rfl (by (try simp only [List.map_toArray, List.map_cons, List.map_nil]); first | done | rfl | (simp only [List.length_drop, List.length_take]; rfl)) ?_; (with_reducible refine (laws_zzFits3.calls a0_2 a0_3 true _ A5.out).mono ?_); rintro e w9 ⟨rfl, hb⟩; refine ⟨_, rfl, ?_⟩; have n0_ := Aside0.mk (blk_below (g := gb105) (o := .cells #[.bool a0_0, .string a0_1, .bool a0_2, .string a0_3] 26 (0, 0)) (by (with_reducible repeat (first | refine blk_drewN ?_ _ | refine blk_drew ?_ | refine blk_alloc ?_ _)); exact BK105.out) hb); have n1_ := Aside0.mk (below_step (by repeat (first | (with_reducible first | exact HB.out | apply below_alloc | apply pw_below_drewN | apply below_drew1 | refine below_set ?_ GE105.out) | exact HB.out)) hb); clear BK105; clear HB; have BK105 := n0_; have HB := n1_; clear n0_ n1_; (try clear hb); (try clear hb2); (try clear hk); (try clear hi)))
   go_ret
   exact ⟨by first | rfl | (simp [errW_none, errW_some] <;> rfl) | (simp [*, errW_none, errW_some] <;> rfl), by repeat (first | (with_reducible first | exact HB.out | apply below_alloc | apply pw_below_drewN | apply below_drew1 | refine below_set ?_ GE105.out) | exact HB.out)⟩
  ·replace c6 := Bool.eq_false_iff.mpr c6
   subst c6
   have H1 : (some false) = some r := by rw [if_neg (show ¬ (false = true) by decide)] at H; exact H
   clear H
   have H := H1
   clear H1
   obtain rfl := Option.some.inj H
   go_enter Tryz.func13, Tryz.ntmps13
   go_wp2_with (first | ((with_reducible refine gate_dst (N := 1) rfl ?_); refine box_event ?hg (N := 1) ?hd (cs := #[.bool a0_0, .string a0_1, .bool a0_2, .string a0_3]) (t := 26) ?hr ?_; (case hd => rfl); (case hg => rfl); (case hr => first | (go_simp; done) | (go_simp; rfl)); intro gb105 hg w10 hbox hb; have n0_ := Aside0.mk (below_step (by repeat (first | (with_reducible first | exact HB.out | apply below_alloc | apply pw_below_drewN | apply below_drew1) | exact HB.out)) hb); have n1_ := Aside0.mk (hbox); have n2_ := Aside0.mk ((by rw [hg]; exact (below_size (by repeat (first | (with_reducible first | exact HB.out | apply below_alloc | apply pw_below_drewN | apply below_drew1) | exact HB.out))) : w.heap.size ≤ gb105)); have n3_ := Aside0.mk ((by rw [hg]; exact (below_size (by repeat (first | (with_reducible first | exact HB.out | apply below_alloc | apply pw_below_drewN | apply below_drew1) | exact HB.out))) : w.heap.size ≤ gb105)); clear HB; have HB := n0_; have BK105 := n1_; have GW105 := n2_; have GE105 := n3_; clear n0_ n1_ n2_ n3_; clear hb hbox hg; have hcz11_0 : w10.cell? ⟨gb105, 0, none⟩ = some (.bool a0_0) := (blk_cell BK105.out 0).trans rfl; have hcz11_1 : w10.cell? ⟨gb105, 1, none⟩ = some (.string a0_1) := (blk_cell BK105.out 1).trans rfl; have hcz11_2 : w10.cell? ⟨gb105, 2, none⟩ = some (.bool a0_2) := (blk_cell BK105.out 2).trans rfl; have hcz11_3 : w10.cell? ⟨gb105, 3, none⟩ = some (.string a0_3) := (blk_cell BK105.out 3).trans rfl; have hfz11_0 := blk_frozen BK105.out 0; have hfz11_1 := blk_frozen BK105.out 1; have hfz11_2 := blk_frozen BK105.out 2; have hfz11_3 := blk_frozen BK105.out 3) | ((with_reducible refine gate_callee (f := 11) rfl ?_); refine goesL_ (some 9) rfl rfl Tryz.func11 (by kernel_rfl) rfl #[.agg #[.bool a0_2, .string a0_3]] rfl (by (try simp only [List.map_toArray, List.map_cons, List.map_nil]); first | done | rfl | (simp only [List.length_drop, List.length_take]; rfl)) ?_; (with_reducible refine (laws_zzFits3.calls a0_2 a0_3 false _ A5.out).mono ?_); rintro e w12 ⟨rfl, hb⟩; refine ⟨_, rfl, ?_⟩; have n0_ := Aside0.mk (blk_below (g := gb105) (o := .cells #[.bool a0_0, .string a0_1, .bool a0_2, .string a0_3] 26 (0, 0)) (by (with_reducible repeat (first | refine blk_drewN ?_ _ | refine blk_drew ?_ | refine blk_alloc ?_ _)); exact BK105.out) hb); have n1_ := Aside0.mk (below_step (by repeat (first | (with_reducible first | exact HB.out | apply below_alloc | apply pw_below_drewN | apply below_drew1 | refine below_set ?_ GE105.out) | exact HB.out)) hb); clear BK105; clear HB; have BK105 := n0_; have HB := n1_; clear n0_ n1_; (try clear hb); (try clear hb2); (try clear hk); (try clear hi)))
   go_ret
   exact ⟨by first | rfl | (simp [errW_none, errW_some] <;> rfl) | (simp [*, errW_none, errW_some] <;> rfl), by repeat (first | (with_reducible first | exact HB.out | apply below_alloc | apply pw_below_drewN | apply below_drew1 | refine below_set ?_ GE105.out) | exact HB.out)⟩

/-! ### laws_zzFits1: function 14 -/
def laws_zzFits1.l0 : Nat → List ByteArray → Int → Int → Option (Bool)
 | 0, _, _, _ => none
 | k + 1, x8, x9, x10 => if x10 < x9 then (if 0 ≤ x10 then (if x10 < (x8.length : Int) then (if ((rdOf ByteArray.empty x8 x10).size : Int) > 2147483647 then (some false) else (laws_zzFits1.l0 k x8 x9 (wrap64 (x10 + 1)))) else (none)) else (none)) else (some true)
def laws_zzFits1.f (k : Nat) (l0 : List ByteArray) : Option (Bool) := if (l0.length : Int) > 2147483647 then (some false) else (laws_zzFits1.l0 k l0 (l0.length : Int) 0)
theorem laws_zzFits1.mono_l : ∀ k, (∀ y0 y1 y2, LeO (laws_zzFits1.l0 k y0 y1 y2) (laws_zzFits1.l0 (k + 1) y0 y1 y2))
 | 0 => fun _ _ _ r h => by simp [laws_zzFits1.l0] at h
 | k + 1 => by
  have ih0 := laws_zzFits1.mono_l k
  ·intro y0 y1 y2
   unfold laws_zzFits1.l0
   repeat' first
   | (with_reducible exact ih0 _ _ _)
   | (with_reducible exact LeO.refl _)
   | (with_reducible exact LeO.none _)
   | (with_reducible refine LeO.ite ?_ ?_)
   | (with_reducible refine LeO.bind ?_ (fun _ => ?_))
   | exact ih0 _ _ _
   | exact LeO.none _
   | refine LeO.ite ?_ ?_
   | refine LeO.bind ?_ (fun _ => ?_)
theorem laws_zzFits1.mono : ∀ a0 k, LeO (laws_zzFits1.f k a0) (laws_zzFits1.f (k + 1) a0) := by
 intro a0 k
 have ih0 := laws_zzFits1.mono_l k
 unfold laws_zzFits1.f
 repeat' first
   | (with_reducible exact ih0 _ _ _)
   | (with_reducible exact LeO.refl _)
   | (with_reducible exact LeO.none _)
   | (with_reducible refine LeO.ite ?_ ?_)
   | (with_reducible refine LeO.bind ?_ (fun _ => ?_))
   | exact ih0 _ _ _
   | exact LeO.none _
   | refine LeO.ite ?_ ?_
   | refine LeO.bind ?_ (fun _ => ?_)
set_option maxHeartbeats 8000000 in
set_option maxRecDepth 100000 in
theorem laws_zzFits1.calls (k : Nat) (A0 : Option Addr) (c0 : Nat) (l0 : List ByteArray) (r : Bool) (w : World) (hr0 : Kd.C Kd.string w A0 l0.length l0) (hc0 : l0.length ≤ c0) (h : laws_zzFits1.f k l0 = some r) :
  Calls Tryz.prog 14 #[.slice A0 l0.length c0] w fun e w' => e = .returned (.bool r) ∧ Drawn0 w w' := by
 have HR0 := Aside0.mk hr0
 have HC0 := Aside0.mk hc0
 clear hr0 hc0
 have H : (if (l0.length : Int) > 2147483647 then (some false) else (laws_zzFits1.l0 k l0 (l0.length : Int) 0)) = some r := h
 clear h
 by_cases c2 : (l0.length : Int) > 2147483647
 ·rw [if_pos c2] at H
  have c2b0 : decide (2147483647 < (l0.length : Int)) = true := decide_eq_true c2
  have c2b1 : decide (2147483647 < l0.length) = true := decide_eq_true (by omega)
  clear c2
  obtain rfl := Option.some.inj H
  go_enter Tryz.func14, Tryz.ntmps14
  go_wp2
  go_ret
  exact ⟨by first | rfl | (simp; done) | (simp [*]; done), by repeat (first | exact Drawn0.refl _ | apply Drawn0.step)⟩
 ·rw [if_neg c2] at H
  have c2b0 : decide (2147483647 < (l0.length : Int)) = false := decide_eq_false c2
  have c2b1 : decide (2147483647 < l0.length) = false := decide_eq_false (by omega)
  clear c2
  have H' := Aside0.mk H
  clear H
  go_enter Tryz.func14, Tryz.ntmps14
  go_wp2
  go_loopg [10] k (fun kq v10 w' => ∃ (x10_1 : Int), v10 = .int .i64 x10_1 ∧ Aside0 (laws_zzFits1.l0 kq l0 (l0.length : Int) x10_1 = some r) ∧ Aside0 (kq ≤ k) ∧ Drawn0 w w')
  case atStart => exact ⟨(0), (by first | rfl | (simp; done) | (simp [*]; done)), H', ⟨Nat.le_refl _⟩, by repeat (first | exact Drawn0.refl _ | apply Drawn0.step)⟩
  case round =>
   clear H'
   try clear c1
   try clear c2
   try clear c2b0
   try clear c2b1
   try clear p2
   obtain ⟨x10_1, rfl, HA, HK1, ⟨m1, rfl⟩⟩ := hrel
   cases gk with
   | zero => exact absurd HA.out (by simp [laws_zzFits1.l0])
   | succ k1 =>
    have H := HA.out
    clear HA
    simp only [laws_zzFits1.l0] at H
    by_cases c3 : x10_1 < (l0.length : Int)
    ·rw [if_pos c3] at H
     have c3b0 : decide (x10_1 < (l0.length : Int)) = true := decide_eq_true c3
     clear c3
     by_cases c4 : 0 ≤ x10_1
     ·rw [if_pos c4] at H
      have c4b0 : decide (0 ≤ x10_1) = true := decide_eq_true c4
      clear c4
      by_cases c5 : x10_1 < (l0.length : Int)
      ·rw [if_pos c5] at H
       have c5b0 : decide (x10_1 < (l0.length : Int)) = true := decide_eq_true c5
       clear c5
       by_cases c6 : ((rdOf ByteArray.empty l0 x10_1).size : Int) > 2147483647
       ·rw [if_pos c6] at H
        have c6b0 : decide (2147483647 < ((rdOf ByteArray.empty l0 x10_1).size : Int)) = true := decide_eq_true c6
        have c6b1 : decide (2147483647 < (rdOf ByteArray.empty l0 x10_1).size) = true := decide_eq_true (by omega)
        clear c6
        obtain rfl := Option.some.inj H
        have p107 : 0 ≤ (x10_1 : Int) := of_decide_eq_true (by first | (with_reducible assumption) | assumption)
        have q107 : x10_1 < (l0.length : Int) := of_decide_eq_true (by first | (with_reducible assumption) | assumption)
        obtain ⟨ad107, e107, hx107_0⟩ := Kd.at_string HR0.out x10_1 p107 q107
        cases e107
        replace p107 := eq_true p107
        replace q107 := eq_true q107
        go_wp2
        go_ret
        exact ⟨by first | rfl | (simp; done) | (simp [*]; done), by repeat (first | exact Drawn0.refl _ | apply Drawn0.step)⟩
       ·rw [if_neg c6] at H
        have c6b0 : decide (2147483647 < ((rdOf ByteArray.empty l0 x10_1).size : Int)) = false := decide_eq_false c6
        have c6b1 : decide (2147483647 < (rdOf ByteArray.empty l0 x10_1).size) = false := decide_eq_false (by omega)
        clear c6
        have H' := Aside0.mk H
        clear H
        have p107 : 0 ≤ (x10_1 : Int) := of_decide_eq_true (by first | (with_reducible assumption) | assumption)
        have q107 : x10_1 < (l0.length : Int) := of_decide_eq_true (by first | (with_reducible assumption) | assumption)
        obtain ⟨ad107, e107, hx107_0⟩ := Kd.at_string HR0.out x10_1 p107 q107
        cases e107
        replace p107 := eq_true p107
        replace q107 := eq_true q107
        go_wp2
        go_roundg k1
        case measure => have := HK1.out; omega
        case rel => exact ⟨(wrap64 (x10_1 + 1)), (by first | rfl | (simp; done) | (simp [*]; done)), H', ⟨by have := HK1.out; omega⟩, by repeat (first | exact Drawn0.refl _ | apply Drawn0.step)⟩
      ·rw [if_neg c5] at H
       exact absurd H (by simp)
     ·rw [if_neg c4] at H
      exact absurd H (by simp)
    ·rw [if_neg c3] at H
     have c3b0 : decide (x10_1 < (l0.length : Int)) = false := decide_eq_false c3
     clear c3
     obtain rfl := Option.some.inj H
     go_wp2
     go_ret
     exact ⟨by first | rfl | (simp; done) | (simp [*]; done), by repeat (first | exact Drawn0.refl _ | apply Drawn0.step)⟩

/-! ### laws_zzFits12: function 5 -/
def laws_zzFits12.f (k : Nat) (a0_0 : Bool) (a0_1 : ByteArray) (l0_2 : List (S23)) (a0_3 : Bool) (a0_4 : ByteArray) (a0_5 : Bool) (a0_6 : ByteArray) (a0_7 : Bool) (a0_8 : ByteArray) (a0_9 : Bool) (a0_10 : ByteArray) (a0_11 : Bool) (a0_12 : ByteArray) (a0_13 : Bool) (a0_14 : ByteArray) (l0_15 : List ByteArray) (l0_16 : List ByteArray) : Option (Bool) := (laws_zzFits3.f a0_0 a0_1).bind fun t109 => (if t109 = true then ((laws_zzFits2.f k l0_2).bind fun t110 => (if t110 = true then ((laws_zzFits13.f a0_3 a0_4 a0_5 a0_6).bind fun t111 => (if t111 = true then ((laws_zzFits13.f a0_7 a0_8 a0_9 a0_10).bind fun t112 => (if t112 = true then ((laws_zzFits13.f a0_11 a0_12 a0_13 a0_14).bind fun t113 => (if t113 = true then ((laws_zzFits1.f k l0_15).bind fun t114 => (if t114 = true then ((laws_zzFits1.f k l0_16).bind fun t115 => (if t115 = true then (some true) else (some false))) else (some false))) else (some false))) else (some false))) else (some false))) else (some false))) else (some false))
theorem laws_zzFits12.mono : ∀ a0 a1 a2 a3 a4 a5 a6 a7 a8 a9 a10 a11 a12 a13 a14 a15 a16 k, LeO (laws_zzFits12.f k a0 a1 a2 a3 a4 a5 a6 a7 a8 a9 a10 a11 a12 a13 a14 a15 a16) (laws_zzFits12.f (k + 1) a0 a1 a2 a3 a4 a5 a6 a7 a8 a9 a10 a11 a12 a13 a14 a15 a16) := by
 intro a0 a1 a2 a3 a4 a5 a6 a7 a8 a9 a10 a11 a12 a13 a14 a15 a16 k
 unfold laws_zzFits12.f
 repeat' first
   | (with_reducible exact laws_zzFits1.mono _ _)
   | (with_reducible exact laws_zzFits2.mono _ _)
   | (with_reducible exact LeO.refl _)
   | (with_reducible exact LeO.none _)
   | (with_reducible refine LeO.ite ?_ ?_)
   | (with_reducible refine LeO.bind ?_ (fun _ => ?_))
   | exact laws_zzFits1.mono _ _
   | exact laws_zzFits2.mono _ _
   | exact LeO.none _
   | refine LeO.ite ?_ ?_
   | refine LeO.bind ?_ (fun _ => ?_)
set_option maxHeartbeats 8000000 in
set_option maxRecDepth 100000 in
theorem laws_zzFits12.calls (k : Nat) (a0_0 : Bool) (a0_1 : ByteArray) (A0_2 : Option Addr) (c0_2 : Nat) (l0_2 : List (S23)) (a0_3 : Bool) (a0_4 : ByteArray) (a0_5 : Bool) (a0_6 : ByteArray) (a0_7 : Bool) (a0_8 : ByteArray) (a0_9 : Bool) (a0_10 : ByteArray) (a0_11 : Bool) (a0_12 : ByteArray) (a0_13 : Bool) (a0_14 : ByteArray) (A0_15 : Option Addr) (c0_15 : Nat) (l0_15 : List ByteArray) (A0_16 : Option Addr) (c0_16 : Nat) (l0_16 : List ByteArray) (r : Bool) (w : World) (hr0_2 : Kd.C k23 w A0_2 l0_2.length l0_2) (hc0_2 : l0_2.length ≤ c0_2) (hr0_15 : Kd.C Kd.string w A0_15 l0_15.length l0_15) (hc0_15 : l0_15.length ≤ c0_15) (hr0_16 : Kd.C Kd.string w A0_16 l0_16.length l0_16) (hc0_16 : l0_16.length ≤ c0_16) (h : laws_zzFits12.f k a0_0 a0_1 l0_2 a0_3 a0_4 a0_5 a0_6 a0_7 a0_8 a0_9 a0_10 a0_11 a0_12 a0_13 a0_14 l0_15 l0_16 = some r) :
  Calls Tryz.prog 5 #[.agg #[.bool a0_0, .string a0_1, .slice A0_2 l0_2.length c0_2, .bool a0_3, .string a0_4, .bool a0_5, .string a0_6, .bool a0_7, .string a0_8, .bool a0_9, .string a0_10, .bool a0_11, .string a0_12, .bool a0_13, .string a0_14, .slice A0_15 l0_15.length c0_15, .slice A0_16 l0_16.length c0_16]] w fun e w' => e = .returned (.bool r) ∧ Below w.heap.size w w' := by
 have hu29 := Tryz.underlying29
 have hu23 := Tryz.underlying23
 have hu26 := Tryz.underlying26
 have HR0_2 := Aside0.mk hr0_2
 have HC0_2 := Aside0.mk hc0_2
 clear hr0_2 hc0_2
 have HR0_15 := Aside0.mk hr0_15
 have HC0_15 := Aside0.mk hc0_15
 clear hr0_15 hc0_15
 have HR0_16 := Aside0.mk hr0_16
 have HC0_16 := Aside0.mk hc0_16
 clear hr0_16 hc0_16
 have HB := Aside0.mk (Below.refl w.heap.size w)
 have H : ((laws_zzFits3.f a0_0 a0_1).bind fun t109 => (if t109 = true then ((laws_zzFits2.f k l0_2).bind fun t110 => (if t110 = true then ((laws_zzFits13.f a0_3 a0_4 a0_5 a0_6).bind fun t111 => (if t111 = true then ((laws_zzFits13.f a0_7 a0_8 a0_9 a0_10).bind fun t112 => (if t112 = true then ((laws_zzFits13.f a0_11 a0_12 a0_13 a0_14).bind fun t113 => (if t113 = true then ((laws_zzFits1.f k l0_15).bind fun t114 => (if t114 = true then ((laws_zzFits1.f k l0_16).bind fun t115 => (if t115 = true then (some true) else (some false))) else (some false))) else (some false))) else (some false))) else (some false))) else (some false))) else (some false))) = some r := h
 clear h
 replace H := Option.bind_eq_some_iff.mp H
 obtain ⟨t109, A20, H⟩ := H
 replace H : (if t109 = true then ((laws_zzFits2.f k l0_2).bind fun t110 => (if t110 = true then ((laws_zzFits13.f a0_3 a0_4 a0_5 a0_6).bind fun t111 => (if t111 = true then ((laws_zzFits13.f a0_7 a0_8 a0_9 a0_10).bind fun t112 => (if t112 = true then ((laws_zzFits13.f a0_11 a0_12 a0_13 a0_14).bind fun t113 => (if t113 = true then ((laws_zzFits1.f k l0_15).bind fun t114 => (if t114 = true then ((laws_zzFits1.f k l0_16).bind fun t115 => (if t115 = true then (some true) else (some false))) else (some false))) else (some false))) else (some false))) else (some false))) else (some false))) else (some false)) = some r := H
 have A2 := Aside0.mk A20
 clear A20
 refine dite (t109 = true) (fun c3 => ?p_c3) (fun c3 => ?n_c3)
 case' p_c3 =>
  subst c3
  have H1 : ((laws_zzFits2.f k l0_2).bind fun t110 => (if t110 = true then ((laws_zzFits13.f a0_3 a0_4 a0_5 a0_6).bind fun t111 => (if t111 = true then ((laws_zzFits13.f a0_7 a0_8 a0_9 a0_10).bind fun t112 => (if t112 = true then ((laws_zzFits13.f a0_11 a0_12 a0_13 a0_14).bind fun t113 => (if t113 = true then ((laws_zzFits1.f k l0_15).bind fun t114 => (if t114 = true then ((laws_zzFits1.f k l0_16).bind fun t115 => (if t115 = true then (some true) else (some false))) else (some false))) else (some false))) else (some false))) else (some false))) else (some false))) = some r := by rw [if_pos rfl] at H; exact H
  clear H
  have H := H1
  clear H1
  replace H := Option.bind_eq_some_iff.mp H
  obtain ⟨t110, A40, H⟩ := H
  replace H : (if t110 = true then ((laws_zzFits13.f a0_3 a0_4 a0_5 a0_6).bind fun t111 => (if t111 = true then ((laws_zzFits13.f a0_7 a0_8 a0_9 a0_10).bind fun t112 => (if t112 = true then ((laws_zzFits13.f a0_11 a0_12 a0_13 a0_14).bind fun t113 => (if t113 = true then ((laws_zzFits1.f k l0_15).bind fun t114 => (if t114 = true then ((laws_zzFits1.f k l0_16).bind fun t115 => (if t115 = true then (some true) else (some false))) else (some false))) else (some false))) else (some false))) else (some false))) else (some false)) = some r := H
  have A4 := Aside0.mk A40
  clear A40
  refine dite (t110 = true) (fun c5 => ?p_c5) (fun c5 => ?n_c5)
  case' p_c5 =>
   subst c5
   have H1 : ((laws_zzFits13.f a0_3 a0_4 a0_5 a0_6).bind fun t111 => (if t111 = true then ((laws_zzFits13.f a0_7 a0_8 a0_9 a0_10).bind fun t112 => (if t112 = true then ((laws_zzFits13.f a0_11 a0_12 a0_13 a0_14).bind fun t113 => (if t113 = true then ((laws_zzFits1.f k l0_15).bind fun t114 => (if t114 = true then ((laws_zzFits1.f k l0_16).bind fun t115 => (if t115 = true then (some true) else (some false))) else (some false))) else (some false))) else (some false))) else (some false))) = some r := by rw [if_pos rfl] at H; exact H
   clear H
   have H := H1
   clear H1
   replace H := Option.bind_eq_some_iff.mp H
   obtain ⟨t111, A60, H⟩ := H
   replace H : (if t111 = true then ((laws_zzFits13.f a0_7 a0_8 a0_9 a0_10).bind fun t112 => (if t112 = true then ((laws_zzFits13.f a0_11 a0_12 a0_13 a0_14).bind fun t113 => (if t113 = true then ((laws_zzFits1.f k l0_15).bind fun t114 => (if t114 = true then ((laws_zzFits1.f k l0_16).bind fun t115 => (if t115 = true then (some true) else (some false))) else (some false))) else (some false))) else (some false))) else (some false)) = some r := H
   have A6 := Aside0.mk A60
   clear A60
   refine dite (t111 = true) (fun c7 => ?p_c7) (fun c7 => ?n_c7)
   case' p_c7 =>
    subst c7
    have H1 : ((laws_zzFits13.f a0_7 a0_8 a0_9 a0_10).bind fun t112 => (if t112 = true then ((laws_zzFits13.f a0_11 a0_12 a0_13 a0_14).bind fun t113 => (if t113 = true then ((laws_zzFits1.f k l0_15).bind fun t114 => (if t114 = true then ((laws_zzFits1.f k l0_16).bind fun t115 => (if t115 = true then (some true) else (some false))) else (some false))) else (some false))) else (some false))) = some r := by rw [if_pos rfl] at H; exact H
    clear H
    have H := H1
    clear H1
    replace H := Option.bind_eq_some_iff.mp H
    obtain ⟨t112, A80, H⟩ := H
    replace H : (if t112 = true then ((laws_zzFits13.f a0_11 a0_12 a0_13 a0_14).bind fun t113 => (if t113 = true then ((laws_zzFits1.f k l0_15).bind fun t114 => (if t114 = true then ((laws_zzFits1.f k l0_16).bind fun t115 => (if t115 = true then (some true) else (some false))) else (some false))) else (some false))) else (some false)) = some r := H
    have A8 := Aside0.mk A80
    clear A80
    refine dite (t112 = true) (fun c9 => ?p_c9) (fun c9 => ?n_c9)
    case' p_c9 =>
     subst c9
     have H1 : ((laws_zzFits13.f a0_11 a0_12 a0_13 a0_14).bind fun t113 => (if t113 = true then ((laws_zzFits1.f k l0_15).bind fun t114 => (if t114 = true then ((laws_zzFits1.f k l0_16).bind fun t115 => (if t115 = true then (some true) else (some false))) else (some false))) else (some false))) = some r := by rw [if_pos rfl] at H; exact H
     clear H
     have H := H1
     clear H1
     replace H := Option.bind_eq_some_iff.mp H
     obtain ⟨t113, A100, H⟩ := H
     replace H : (if t113 = true then ((laws_zzFits1.f k l0_15).bind fun t114 => (if t114 = true then ((laws_zzFits1.f k l0_16).bind fun t115 => (if t115 = true then (some true) else (some false))) else (some false))) else (some false)) = some r := H
     have A10 := Aside0.mk A100
     clear A100
     refine dite (t113 = true) (fun c11 => ?p_c11) (fun c11 => ?n_c11)
     case' p_c11 =>
      subst c11
      have H1 : ((laws_zzFits1.f k l0_15).bind fun t114 => (if t114 = true then ((laws_zzFits1.f k l0_16).bind fun t115 => (if t115 = true then (some true) else (some false))) else (some false))) = some r := by rw [if_pos rfl] at H; exact H
      clear H
      have H := H1
      clear H1
      replace H := Option.bind_eq_some_iff.mp H
      obtain ⟨t114, A120, H⟩ := H
      replace H : (if t114 = true then ((laws_zzFits1.f k l0_16).bind fun t115 => (if t115 = true then (some true) else (some false))) else (some false)) = some r := H
      have A12 := Aside0.mk A120
      clear A120
      refine dite (t114 = true) (fun c13 => ?p_c13) (fun c13 => ?n_c13)
      case' p_c13 =>
       subst c13
       have H1 : ((laws_zzFits1.f k l0_16).bind fun t115 => (if t115 = true then (some true) else (some false))) = some r := by rw [if_pos rfl] at H; exact H
       clear H
       have H := H1
       clear H1
       replace H := Option.bind_eq_some_iff.mp H
       obtain ⟨t115, A140, H⟩ := H
       replace H : (if t115 = true then (some true) else (some false)) = some r := H
       have A14 := Aside0.mk A140
       clear A140
       refine dite (t115 = true) (fun c15 => ?p_c15) (fun c15 => ?n_c15)
       case' p_c15 =>
        subst c15
        have H1 : (some true) = some r := by rw [if_pos rfl] at H; exact H
        clear H
        have H := H1
        clear H1
        obtain rfl := Option.some.inj H
        go_enter Tryz.func5, Tryz.ntmps5
       case' n_c15 =>
        replace c15 := Bool.eq_false_iff.mpr c15
        subst c15
        have H1 : (some false) = some r := by rw [if_neg (show ¬ (false = true) by decide)] at H; exact H
        clear H
        have H := H1
        clear H1
        obtain rfl := Option.some.inj H
        go_enter Tryz.func5, Tryz.ntmps5
      case' n_c13 =>
       replace c13 := Bool.eq_false_iff.mpr c13
       subst c13
       have H1 : (some false) = some r := by rw [if_neg (show ¬ (false = true) by decide)] at H; exact H
       clear H
       have H := H1
       clear H1
       obtain rfl := Option.some.inj H
       go_enter Tryz.func5, Tryz.ntmps5
      all_goals
       go_wp2_with (first | ((with_reducible refine gate_dst (N := 1) rfl ?_); refine box_event ?hg (N := 1) ?hd (cs := #[.bool a0_0, .string a0_1, .slice A0_2 l0_2.length c0_2, .bool a0_3, .string a0_4, .bool a0_5, .string a0_6, .bool a0_7, .string a0_8, .bool a0_9, .string a0_10, .bool a0_11, .string a0_12, .bool a0_13, .string a0_14, .slice A0_15 l0_15.length c0_15, .slice A0_16 l0_16.length c0_16]) (t := 29) ?hr ?_; (case hd => rfl); (case hg => rfl); (case hr => first | (go_simp; done) | (go_simp; rfl)); intro gbq1 hg wq1 hbox hb; have nq1 := Aside0.mk (below_step (by repeat (first | (with_reducible first | exact HB.out | apply below_alloc | apply pw_below_drewN | apply below_drew1) | exact HB.out)) hb); have nq2 := Aside0.mk (hbox); have nq3 := Aside0.mk ((by rw [hg]; exact (below_size (by repeat (first | (with_reducible first | exact HB.out | apply below_alloc | apply pw_below_drewN | apply below_drew1) | exact HB.out))) : w.heap.size ≤ gbq1)); have nq4 := Aside0.mk ((by rw [hg]; exact (below_size (by repeat (first | (with_reducible first | exact HB.out | apply below_alloc | apply pw_below_drewN | apply below_drew1) | exact HB.out))) : w.heap.size ≤ gbq1)); clear HB; have HB := nq1; have BKq1 := nq2; have GWq1 := nq3; have GEq1 := nq4; clear nq1 nq2 nq3 nq4; clear hb hbox hg; have hczq1 : wq1.cell? ⟨gbq1, 0, none⟩ = some (.bool a0_0) := (blk_cell BKq1.out 0).trans rfl; have hczq2 : wq1.cell? ⟨gbq1, 1, none⟩ = some (.string a0_1) := (blk_cell BKq1.out 1).trans rfl; have hczq3 : wq1.cell? ⟨gbq1, 2, none⟩ = some (.slice A0_2 l0_2.length c0_2) := (blk_cell BKq1.out 2).trans rfl; have hczq4 : wq1.cell? ⟨gbq1, 3, none⟩ = some (.bool a0_3) := (blk_cell BKq1.out 3).trans rfl; have hczq5 : wq1.cell? ⟨gbq1, 4, none⟩ = some (.string a0_4) := (blk_cell BKq1.out 4).trans rfl; have hczq6 : wq1.cell? ⟨gbq1, 5, none⟩ = some (.bool a0_5) := (blk_cell BKq1.out 5).trans rfl; have hczq7 : wq1.cell? ⟨gbq1, 6, none⟩ = some (.string a0_6) := (blk_cell BKq1.out 6).trans rfl; have hczq8 : wq1.cell? ⟨gbq1, 7, none⟩ = some (.bool a0_7) := (blk_cell BKq1.out 7).trans rfl; have hczq9 : wq1.cell? ⟨gbq1, 8, none⟩ = some (.string a0_8) := (blk_cell BKq1.out 8).trans rfl; have hczq10 : wq1.cell? ⟨gbq1, 9, none⟩ = some (.bool a0_9) := (blk_cell BKq1.out 9).trans rfl; have hczq11 : wq1.cell? ⟨gbq1, 10, none⟩ = some (.string a0_10) := (blk_cell BKq1.out 10).trans rfl; have hczq12 : wq1.cell? ⟨gbq1, 11, none⟩ = some (.bool a0_11) := (blk_cell BKq1.out 11).trans rfl; have hczq13 : wq1.cell? ⟨gbq1, 12, none⟩ = some (.string a0_12) := (blk_cell BKq1.out 12).trans rfl; have hczq14 : wq1.cell? ⟨gbq1, 13, none⟩ = some (.bool a0_13) := (blk_cell BKq1.out 13).trans rfl; have hczq15 : wq1.cell? ⟨gbq1, 14, none⟩ = some (.string a0_14) := (blk_cell BKq1.out 14).trans rfl; have hczq16 : wq1.cell? ⟨gbq1, 15, none⟩ = some (.slice A0_15 l0_15.length c0_15) := (blk_cell BKq1.out 15).trans rfl; have hczq17 : wq1.cell? ⟨gbq1, 16, none⟩ = some (.slice A0_16 l0_16.length c0_16) := (blk_cell BKq1.out 16).trans rfl; have hfzq1 := blk_frozen BKq1.out 0; have hfzq2 := blk_frozen BKq1.out 1; have hfzq3 := blk_frozen BKq1.out 2; have hfzq4 := blk_frozen BKq1.out 3; have hfzq5 := blk_frozen BKq1.out 4; have hfzq6 := blk_frozen BKq1.out 5; have hfzq7 := blk_frozen BKq1.out 6; have hfzq8 := blk_frozen BKq1.out 7; have hfzq9 := blk_frozen BKq1.out 8; have hfzq10 := blk_frozen BKq1.out 9; have hfzq11 := blk_frozen BKq1.out 10; have hfzq12 := blk_frozen BKq1.out 11; have hfzq13 := blk_frozen BKq1.out 12; have hfzq14 := blk_frozen BKq1.out 13; have hfzq15 := blk_frozen BKq1.out 14; have hfzq16 := blk_frozen BKq1.out 15; have hfzq17 := blk_frozen BKq1.out 16) | ((with_reducible refine gate_callee (f := 11) rfl ?_); refine goesL_ (some 5) rfl rfl Tryz.func11 (by kernel_rfl) rfl #[.agg #[.bool a0_0, .string a0_1]] rfl (by (try simp only [List.map_toArray, List.map_cons, List.map_nil]); first | done | rfl | (simp only [List.length_drop, List.length_take]; rfl)) ?_; (with_reducible refine (laws_zzFits3.calls a0_0 a0_1 true _ A2.out).mono ?_); rintro e wq2 ⟨rfl, hb⟩; refine ⟨_, rfl, ?_⟩; have nq1 := Aside0.mk (blk_below (g := gbq1) (o := .cells #[.bool a0_0, .string a0_1, .slice A0_2 l0_2.length c0_2, .bool a0_3, .string a0_4, .bool a0_5, .string a0_6, .bool a0_7, .string a0_8, .bool a0_9, .string a0_10, .bool a0_11, .string a0_12, .bool a0_13, .string a0_14, .slice A0_15 l0_15.length c0_15, .slice A0_16 l0_16.length c0_16] 29 (0, 0)) (by (with_reducible repeat (first | refine blk_drewN ?_ _ | refine blk_drew ?_ | refine blk_alloc ?_ _)); exact BKq1.out) hb); have nq2 := Aside0.mk (below_step (by repeat (first | (with_reducible first | exact HB.out | apply below_alloc | apply pw_below_drewN | apply below_drew1 | refine below_set ?_ GEq1.out) | exact HB.out)) hb); clear BKq1; clear HB; have BKq1 := nq1; have HB := nq2; clear nq1 nq2; (try clear hb); (try clear hb2); (try clear hk); (try clear hi); have hczq18 : wq2.cell? ⟨gbq1, 0, none⟩ = some (.bool a0_0) := (blk_cell BKq1.out 0).trans rfl; have hczq19 : wq2.cell? ⟨gbq1, 1, none⟩ = some (.string a0_1) := (blk_cell BKq1.out 1).trans rfl; have hczq20 : wq2.cell? ⟨gbq1, 2, none⟩ = some (.slice A0_2 l0_2.length c0_2) := (blk_cell BKq1.out 2).trans rfl; have hczq21 : wq2.cell? ⟨gbq1, 3, none⟩ = some (.bool a0_3) := (blk_cell BKq1.out 3).trans rfl; have hczq22 : wq2.cell? ⟨gbq1, 4, none⟩ = some (.string a0_4) := (blk_cell BKq1.out 4).trans rfl; have hczq23 : wq2.cell? ⟨gbq1, 5, none⟩ = some (.bool a0_5) := (blk_cell BKq1.out 5).trans rfl; have hczq24 : wq2.cell? ⟨gbq1, 6, none⟩ = some (.string a0_6) := (blk_cell BKq1.out 6).trans rfl; have hczq25 : wq2.cell? ⟨gbq1, 7, none⟩ = some (.bool a0_7) := (blk_cell BKq1.out 7).trans rfl; have hczq26 : wq2.cell? ⟨gbq1, 8, none⟩ = some (.string a0_8) := (blk_cell BKq1.out 8).trans rfl; have hczq27 : wq2.cell? ⟨gbq1, 9, none⟩ = some (.bool a0_9) := (blk_cell BKq1.out 9).trans rfl; have hczq28 : wq2.cell? ⟨gbq1, 10, none⟩ = some (.string a0_10) := (blk_cell BKq1.out 10).trans rfl; have hczq29 : wq2.cell? ⟨gbq1, 11, none⟩ = some (.bool a0_11) := (blk_cell BKq1.out 11).trans rfl; have hczq30 : wq2.cell? ⟨gbq1, 12, none⟩ = some (.string a0_12) := (blk_cell BKq1.out 12).trans rfl; have hczq31 : wq2.cell? ⟨gbq1, 13, none⟩ = some (.bool a0_13) := (blk_cell BKq1.out 13).trans rfl; have hczq32 : wq2.cell? ⟨gbq1, 14, none⟩ = some (.string a0_14) := (blk_cell BKq1.out 14).trans rfl; have hczq33 : wq2.cell? ⟨gbq1, 15, none⟩ = some (.slice A0_15 l0_15.length c0_15) := (blk_cell BKq1.out 15).trans rfl; have hczq34 : wq2.cell? ⟨gbq1, 16, none⟩ = some (.slice A0_16 l0_16.length c0_16) := (blk_cell BKq1.out 16).trans rfl; have hfzq18 := blk_frozen BKq1.out 0; have hfzq19 := blk_frozen BKq1.out 1; have hfzq20 := blk_frozen BKq1.out 2; have hfzq21 := blk_frozen BKq1.out 3; have hfzq22 := blk_frozen BKq1.out 4; have hfzq23 := blk_frozen BKq1.out 5; have hfzq24 := blk_frozen BKq1.out 6; have hfzq25 := blk_frozen BKq1.out 7; have hfzq26 := blk_frozen BKq1.out 8; have hfzq27 := blk_frozen BKq1.out 9; have hfzq28 := blk_frozen BKq1.out 10; have hfzq29 := blk_frozen BKq1.out 11; have hfzq30 := blk_frozen BKq1.out 12; have hfzq31 := blk_frozen BKq1.out 13; have hfzq32 := blk_frozen BKq1.out 14; have hfzq33 := blk_frozen BKq1.out 15; have hfzq34 := blk_frozen BKq1.out 16) | ((with_reducible refine gate_callee (f := 12) rfl ?_); refine goesL_ (some 9) rfl rfl Tryz.func12 (by kernel_rfl) rfl #[.slice A0_2 l0_2.length c0_2] rfl (by (try simp only [List.map_toArray, List.map_cons, List.map_nil]); first | done | rfl | (simp only [List.length_drop, List.length_take]; rfl)) ?_; (with_reducible refine (laws_zzFits2.calls k _ _ l0_2 _ _ ?side1 ?side2 A4.out).mono ?_); (case side1 => repeat (first | exact (Kd.C_below HR0_2.out HB.out) | (with_reducible refine Kd.C_alloc ?_ _) | (with_reducible refine Kd.C_drewN ?_ _) | (with_reducible refine Kd.C_drew ?_))); (case side2 => exact HC0_2.out); rintro e wq3 ⟨rfl, hb⟩; refine ⟨_, rfl, ?_⟩; have nq1 := Aside0.mk (blk_below (g := gbq1) (o := .cells #[.bool a0_0, .string a0_1, .slice A0_2 l0_2.length c0_2, .bool a0_3, .string a0_4, .bool a0_5, .string a0_6, .bool a0_7, .string a0_8, .bool a0_9, .string a0_10, .bool a0_11, .string a0_12, .bool a0_13, .string a0_14, .slice A0_15 l0_15.length c0_15, .slice A0_16 l0_16.length c0_16] 29 (0, 0)) (by (with_reducible repeat (first | refine blk_drewN ?_ _ | refine blk_drew ?_ | refine blk_alloc ?_ _)); exact BKq1.out) hb); have nq2 := Aside0.mk (below_step (by repeat (first | (with_reducible first | exact HB.out | apply below_alloc | apply pw_below_drewN | apply below_drew1 | refine below_set ?_ GEq1.out) | exact HB.out)) hb); clear BKq1; clear HB; have BKq1 := nq1; have HB := nq2; clear nq1 nq2; (try clear hb); (try clear hb2); (try clear hk); (try clear hi); have hczq35 : wq3.cell? ⟨gbq1, 0, none⟩ = some (.bool a0_0) := (blk_cell BKq1.out 0).trans rfl; have hczq36 : wq3.cell? ⟨gbq1, 1, none⟩ = some (.string a0_1) := (blk_cell BKq1.out 1).trans rfl; have hczq37 : wq3.cell? ⟨gbq1, 2, none⟩ = some (.slice A0_2 l0_2.length c0_2) := (blk_cell BKq1.out 2).trans rfl; have hczq38 : wq3.cell? ⟨gbq1, 3, none⟩ = some (.bool a0_3) := (blk_cell BKq1.out 3).trans rfl; have hczq39 : wq3.cell? ⟨gbq1, 4, none⟩ = some (.string a0_4) := (blk_cell BKq1.out 4).trans rfl; have hczq40 : wq3.cell? ⟨gbq1, 5, none⟩ = some (.bool a0_5) := (blk_cell BKq1.out 5).trans rfl; have hczq41 : wq3.cell? ⟨gbq1, 6, none⟩ = some (.string a0_6) := (blk_cell BKq1.out 6).trans rfl; have hczq42 : wq3.cell? ⟨gbq1, 7, none⟩ = some (.bool a0_7) := (blk_cell BKq1.out 7).trans rfl; have hczq43 : wq3.cell? ⟨gbq1, 8, none⟩ = some (.string a0_8) := (blk_cell BKq1.out 8).trans rfl; have hczq44 : wq3.cell? ⟨gbq1, 9, none⟩ = some (.bool a0_9) := (blk_cell BKq1.out 9).trans rfl; have hczq45 : wq3.cell? ⟨gbq1, 10, none⟩ = some (.string a0_10) := (blk_cell BKq1.out 10).trans rfl; have hczq46 : wq3.cell? ⟨gbq1, 11, none⟩ = some (.bool a0_11) := (blk_cell BKq1.out 11).trans rfl; have hczq47 : wq3.cell? ⟨gbq1, 12, none⟩ = some (.string a0_12) := (blk_cell BKq1.out 12).trans rfl; have hczq48 : wq3.cell? ⟨gbq1, 13, none⟩ = some (.bool a0_13) := (blk_cell BKq1.out 13).trans rfl; have hczq49 : wq3.cell? ⟨gbq1, 14, none⟩ = some (.string a0_14) := (blk_cell BKq1.out 14).trans rfl; have hczq50 : wq3.cell? ⟨gbq1, 15, none⟩ = some (.slice A0_15 l0_15.length c0_15) := (blk_cell BKq1.out 15).trans rfl; have hczq51 : wq3.cell? ⟨gbq1, 16, none⟩ = some (.slice A0_16 l0_16.length c0_16) := (blk_cell BKq1.out 16).trans rfl; have hfzq35 := blk_frozen BKq1.out 0; have hfzq36 := blk_frozen BKq1.out 1; have hfzq37 := blk_frozen BKq1.out 2; have hfzq38 := blk_frozen BKq1.out 3; have hfzq39 := blk_frozen BKq1.out 4; have hfzq40 := blk_frozen BKq1.out 5; have hfzq41 := blk_frozen BKq1.out 6; have hfzq42 := blk_frozen BKq1.out 7; have hfzq43 := blk_frozen BKq1.out 8; have hfzq44 := blk_frozen BKq1.out 9; have hfzq45 := blk_frozen BKq1.out 10; have hfzq46 := blk_frozen BKq1.out 11; have hfzq47 := blk_frozen BKq1.out 12; have hfzq48 := blk_frozen BKq1.out 13; have hfzq49 := blk_frozen BKq1.out 14; have hfzq50 := blk_frozen BKq1.out 15; have hfzq51 := blk_frozen BKq1.out 16) | ((with_reducible refine gate_callee (f := 13) rfl ?_); refine goesL_ (some 13) rfl rfl Tryz.func13 (by kernel_rfl) rfl #[.agg #[.bool a0_3, .string a0_4, .bool a0_5, .string a0_6]] rfl (by (try simp only [List.map_toArray, List.map_cons, List.map_nil]); first | done | rfl | (simp only [List.length_drop, List.length_take]; rfl)) ?_; (with_reducible refine (laws_zzFits13.calls a0_3 a0_4 a0_5 a0_6 true _ A6.out).mono ?_); rintro e wq4 ⟨rfl, hb⟩; refine ⟨_, rfl, ?_⟩; have nq1 := Aside0.mk (blk_below (g := gbq1) (o := .cells #[.bool a0_0, .string a0_1, .slice A0_2 l0_2.length c0_2, .bool a0_3, .string a0_4, .bool a0_5, .string a0_6, .bool a0_7, .string a0_8, .bool a0_9, .string a0_10, .bool a0_11, .string a0_12, .bool a0_13, .string a0_14, .slice A0_15 l0_15.length c0_15, .slice A0_16 l0_16.length c0_16] 29 (0, 0)) (by (with_reducible repeat (first | refine blk_drewN ?_ _ | refine blk_drew ?_ | refine blk_alloc ?_ _)); exact BKq1.out) hb); have nq2 := Aside0.mk (below_step (by repeat (first | (with_reducible first | exact HB.out | apply below_alloc | apply pw_below_drewN | apply below_drew1 | refine below_set ?_ GEq1.out) | exact HB.out)) hb); clear BKq1; clear HB; have BKq1 := nq1; have HB := nq2; clear nq1 nq2; (try clear hb); (try clear hb2); (try clear hk); (try clear hi); have hczq52 : wq4.cell? ⟨gbq1, 0, none⟩ = some (.bool a0_0) := (blk_cell BKq1.out 0).trans rfl; have hczq53 : wq4.cell? ⟨gbq1, 1, none⟩ = some (.string a0_1) := (blk_cell BKq1.out 1).trans rfl; have hczq54 : wq4.cell? ⟨gbq1, 2, none⟩ = some (.slice A0_2 l0_2.length c0_2) := (blk_cell BKq1.out 2).trans rfl; have hczq55 : wq4.cell? ⟨gbq1, 3, none⟩ = some (.bool a0_3) := (blk_cell BKq1.out 3).trans rfl; have hczq56 : wq4.cell? ⟨gbq1, 4, none⟩ = some (.string a0_4) := (blk_cell BKq1.out 4).trans rfl; have hczq57 : wq4.cell? ⟨gbq1, 5, none⟩ = some (.bool a0_5) := (blk_cell BKq1.out 5).trans rfl; have hczq58 : wq4.cell? ⟨gbq1, 6, none⟩ = some (.string a0_6) := (blk_cell BKq1.out 6).trans rfl; have hczq59 : wq4.cell? ⟨gbq1, 7, none⟩ = some (.bool a0_7) := (blk_cell BKq1.out 7).trans rfl; have hczq60 : wq4.cell? ⟨gbq1, 8, none⟩ = some (.string a0_8) := (blk_cell BKq1.out 8).trans rfl; have hczq61 : wq4.cell? ⟨gbq1, 9, none⟩ = some (.bool a0_9) := (blk_cell BKq1.out 9).trans rfl; have hczq62 : wq4.cell? ⟨gbq1, 10, none⟩ = some (.string a0_10) := (blk_cell BKq1.out 10).trans rfl; have hczq63 : wq4.cell? ⟨gbq1, 11, none⟩ = some (.bool a0_11) := (blk_cell BKq1.out 11).trans rfl; have hczq64 : wq4.cell? ⟨gbq1, 12, none⟩ = some (.string a0_12) := (blk_cell BKq1.out 12).trans rfl; have hczq65 : wq4.cell? ⟨gbq1, 13, none⟩ = some (.bool a0_13) := (blk_cell BKq1.out 13).trans rfl; have hczq66 : wq4.cell? ⟨gbq1, 14, none⟩ = some (.string a0_14) := (blk_cell BKq1.out 14).trans rfl; have hczq67 : wq4.cell? ⟨gbq1, 15, none⟩ = some (.slice A0_15 l0_15.length c0_15) := (blk_cell BKq1.out 15).trans rfl; have hczq68 : wq4.cell? ⟨gbq1, 16, none⟩ = some (.slice A0_16 l0_16.length c0_16) := (blk_cell BKq1.out 16).trans rfl; have hfzq52 := blk_frozen BKq1.out 0; have hfzq53 := blk_frozen BKq1.out 1; have hfzq54 := blk_frozen BKq1.out 2; have hfzq55 := blk_frozen BKq1.out 3; have hfzq56 := blk_frozen BKq1.out 4; have hfzq57 := blk_frozen BKq1.out 5; have hfzq58 := blk_frozen BKq1.out 6; have hfzq59 := blk_frozen BKq1.out 7; have hfzq60 := blk_frozen BKq1.out 8; have hfzq61 := blk_frozen BKq1.out 9; have hfzq62 := blk_frozen BKq1.out 10; have hfzq63 := blk_frozen BKq1.out 11; have hfzq64 := blk_frozen BKq1.out 12; have hfzq65 := blk_frozen BKq1.out 13; have hfzq66 := blk_frozen BKq1.out 14; have hfzq67 := blk_frozen BKq1.out 15; have hfzq68 := blk_frozen BKq1.out 16) | ((with_reducible refine gate_callee (f := 13) rfl ?_); refine goesL_ (some 17) rfl rfl Tryz.func13 (by kernel_rfl) rfl #[.agg #[.bool a0_7, .string a0_8, .bool a0_9, .string a0_10]] rfl (by (try simp only [List.map_toArray, List.map_cons, List.map_nil]); first | done | rfl | (simp only [List.length_drop, List.length_take]; rfl)) ?_; (with_reducible refine (laws_zzFits13.calls a0_7 a0_8 a0_9 a0_10 true _ A8.out).mono ?_); rintro e wq5 ⟨rfl, hb⟩; refine ⟨_, rfl, ?_⟩; have nq1 := Aside0.mk (blk_below (g := gbq1) (o := .cells #[.bool a0_0, .string a0_1, .slice A0_2 l0_2.length c0_2, .bool a0_3, .string a0_4, .bool a0_5, .string a0_6, .bool a0_7, .string a0_8, .bool a0_9, .string a0_10, .bool a0_11, .string a0_12, .bool a0_13, .string a0_14, .slice A0_15 l0_15.length c0_15, .slice A0_16 l0_16.length c0_16] 29 (0, 0)) (by (with_reducible repeat (first | refine blk_drewN ?_ _ | refine blk_drew ?_ | refine blk_alloc ?_ _)); exact BKq1.out) hb); have nq2 := Aside0.mk (below_step (by repeat (first | (with_reducible first | exact HB.out | apply below_alloc | apply pw_below_drewN | apply below_drew1 | refine below_set ?_ GEq1.out) | exact HB.out)) hb); clear BKq1; clear HB; have BKq1 := nq1; have HB := nq2; clear nq1 nq2; (try clear hb); (try clear hb2); (try clear hk); (try clear hi); have hczq69 : wq5.cell? ⟨gbq1, 0, none⟩ = some (.bool a0_0) := (blk_cell BKq1.out 0).trans rfl; have hczq70 : wq5.cell? ⟨gbq1, 1, none⟩ = some (.string a0_1) := (blk_cell BKq1.out 1).trans rfl; have hczq71 : wq5.cell? ⟨gbq1, 2, none⟩ = some (.slice A0_2 l0_2.length c0_2) := (blk_cell BKq1.out 2).trans rfl; have hczq72 : wq5.cell? ⟨gbq1, 3, none⟩ = some (.bool a0_3) := (blk_cell BKq1.out 3).trans rfl; have hczq73 : wq5.cell? ⟨gbq1, 4, none⟩ = some (.string a0_4) := (blk_cell BKq1.out 4).trans rfl; have hczq74 : wq5.cell? ⟨gbq1, 5, none⟩ = some (.bool a0_5) := (blk_cell BKq1.out 5).trans rfl; have hczq75 : wq5.cell? ⟨gbq1, 6, none⟩ = some (.string a0_6) := (blk_cell BKq1.out 6).trans rfl; have hczq76 : wq5.cell? ⟨gbq1, 7, none⟩ = some (.bool a0_7) := (blk_cell BKq1.out 7).trans rfl; have hczq77 : wq5.cell? ⟨gbq1, 8, none⟩ = some (.string a0_8) := (blk_cell BKq1.out 8).trans rfl; have hczq78 : wq5.cell? ⟨gbq1, 9, none⟩ = some (.bool a0_9) := (blk_cell BKq1.out 9).trans rfl; have hczq79 : wq5.cell? ⟨gbq1, 10, none⟩ = some (.string a0_10) := (blk_cell BKq1.out 10).trans rfl; have hczq80 : wq5.cell? ⟨gbq1, 11, none⟩ = some (.bool a0_11) := (blk_cell BKq1.out 11).trans rfl; have hczq81 : wq5.cell? ⟨gbq1, 12, none⟩ = some (.string a0_12) := (blk_cell BKq1.out 12).trans rfl; have hczq82 : wq5.cell? ⟨gbq1, 13, none⟩ = some (.bool a0_13) := (blk_cell BKq1.out 13).trans rfl; have hczq83 : wq5.cell? ⟨gbq1, 14, none⟩ = some (.string a0_14) := (blk_cell BKq1.out 14).trans rfl; have hczq84 : wq5.cell? ⟨gbq1, 15, none⟩ = some (.slice A0_15 l0_15.length c0_15) := (blk_cell BKq1.out 15).trans rfl; have hczq85 : wq5.cell? ⟨gbq1, 16, none⟩ = some (.slice A0_16 l0_16.length c0_16) := (blk_cell BKq1.out 16).trans rfl; have hfzq69 := blk_frozen BKq1.out 0; have hfzq70 := blk_frozen BKq1.out 1; have hfzq71 := blk_frozen BKq1.out 2; have hfzq72 := blk_frozen BKq1.out 3; have hfzq73 := blk_frozen BKq1.out 4; have hfzq74 := blk_frozen BKq1.out 5; have hfzq75 := blk_frozen BKq1.out 6; have hfzq76 := blk_frozen BKq1.out 7; have hfzq77 := blk_frozen BKq1.out 8; have hfzq78 := blk_frozen BKq1.out 9; have hfzq79 := blk_frozen BKq1.out 10; have hfzq80 := blk_frozen BKq1.out 11; have hfzq81 := blk_frozen BKq1.out 12; have hfzq82 := blk_frozen BKq1.out 13; have hfzq83 := blk_frozen BKq1.out 14; have hfzq84 := blk_frozen BKq1.out 15; have hfzq85 := blk_frozen BKq1.out 16) | ((with_reducible refine gate_callee (f := 13) rfl ?_); refine goesL_ (some 21) rfl rfl Tryz.func13 (by kernel_rfl) rfl #[.agg #[.bool a0_11, .string a0_12, .bool a0_13, .string a0_14]] rfl (by (try simp only [List.map_toArray, List.map_cons, List.map_nil]); first | done | rfl | (simp only [List.length_drop, List.length_take]; rfl)) ?_; (with_reducible refine (laws_zzFits13.calls a0_11 a0_12 a0_13 a0_14 true _ A10.out).mono ?_); rintro e wq6 ⟨rfl, hb⟩; refine ⟨_, rfl, ?_⟩; have nq1 := Aside0.mk (blk_below (g := gbq1) (o := .cells #[.bool a0_0, .string a0_1, .slice A0_2 l0_2.length c0_2, .bool a0_3, .string a0_4, .bool a0_5, .string a0_6, .bool a0_7, .string a0_8, .bool a0_9, .string a0_10, .bool a0_11, .string a0_12, .bool a0_13, .string a0_14, .slice A0_15 l0_15.length c0_15, .slice A0_16 l0_16.length c0_16] 29 (0, 0)) (by (with_reducible repeat (first | refine blk_drewN ?_ _ | refine blk_drew ?_ | refine blk_alloc ?_ _)); exact BKq1.out) hb); have nq2 := Aside0.mk (below_step (by repeat (first | (with_reducible first | exact HB.out | apply below_alloc | apply pw_below_drewN | apply below_drew1 | refine below_set ?_ GEq1.out) | exact HB.out)) hb); clear BKq1; clear HB; have BKq1 := nq1; have HB := nq2; clear nq1 nq2; (try clear hb); (try clear hb2); (try clear hk); (try clear hi); have hczq86 : wq6.cell? ⟨gbq1, 0, none⟩ = some (.bool a0_0) := (blk_cell BKq1.out 0).trans rfl; have hczq87 : wq6.cell? ⟨gbq1, 1, none⟩ = some (.string a0_1) := (blk_cell BKq1.out 1).trans rfl; have hczq88 : wq6.cell? ⟨gbq1, 2, none⟩ = some (.slice A0_2 l0_2.length c0_2) := (blk_cell BKq1.out 2).trans rfl; have hczq89 : wq6.cell? ⟨gbq1, 3, none⟩ = some (.bool a0_3) := (blk_cell BKq1.out 3).trans rfl; have hczq90 : wq6.cell? ⟨gbq1, 4, none⟩ = some (.string a0_4) := (blk_cell BKq1.out 4).trans rfl; have hczq91 : wq6.cell? ⟨gbq1, 5, none⟩ = some (.bool a0_5) := (blk_cell BKq1.out 5).trans rfl; have hczq92 : wq6.cell? ⟨gbq1, 6, none⟩ = some (.string a0_6) := (blk_cell BKq1.out 6).trans rfl; have hczq93 : wq6.cell? ⟨gbq1, 7, none⟩ = some (.bool a0_7) := (blk_cell BKq1.out 7).trans rfl; have hczq94 : wq6.cell? ⟨gbq1, 8, none⟩ = some (.string a0_8) := (blk_cell BKq1.out 8).trans rfl; have hczq95 : wq6.cell? ⟨gbq1, 9, none⟩ = some (.bool a0_9) := (blk_cell BKq1.out 9).trans rfl; have hczq96 : wq6.cell? ⟨gbq1, 10, none⟩ = some (.string a0_10) := (blk_cell BKq1.out 10).trans rfl; have hczq97 : wq6.cell? ⟨gbq1, 11, none⟩ = some (.bool a0_11) := (blk_cell BKq1.out 11).trans rfl; have hczq98 : wq6.cell? ⟨gbq1, 12, none⟩ = some (.string a0_12) := (blk_cell BKq1.out 12).trans rfl; have hczq99 : wq6.cell? ⟨gbq1, 13, none⟩ = some (.bool a0_13) := (blk_cell BKq1.out 13).trans rfl; have hczq100 : wq6.cell? ⟨gbq1, 14, none⟩ = some (.string a0_14) := (blk_cell BKq1.out 14).trans rfl; have hczq101 : wq6.cell? ⟨gbq1, 15, none⟩ = some (.slice A0_15 l0_15.length c0_15) := (blk_cell BKq1.out 15).trans rfl; have hczq102 : wq6.cell? ⟨gbq1, 16, none⟩ = some (.slice A0_16 l0_16.length c0_16) := (blk_cell BKq1.out 16).trans rfl; have hfzq86 := blk_frozen BKq1.out 0; have hfzq87 := blk_frozen BKq1.out 1; have hfzq88 := blk_frozen BKq1.out 2; have hfzq89 := blk_frozen BKq1.out 3; have hfzq90 := blk_frozen BKq1.out 4; have hfzq91 := blk_frozen BKq1.out 5; have hfzq92 := blk_frozen BKq1.out 6; have hfzq93 := blk_frozen BKq1.out 7; have hfzq94 := blk_frozen BKq1.out 8; have hfzq95 := blk_frozen BKq1.out 9; have hfzq96 := blk_frozen BKq1.out 10; have hfzq97 := blk_frozen BKq1.out 11; have hfzq98 := blk_frozen BKq1.out 12; have hfzq99 := blk_frozen BKq1.out 13; have hfzq100 := blk_frozen BKq1.out 14; have hfzq101 := blk_frozen BKq1.out 15; have hfzq102 := blk_frozen BKq1.out 16) | ((with_reducible refine gate_callee (f := 14) rfl ?_); refine goesL_ (some 25) rfl rfl Tryz.func14 (by kernel_rfl) rfl #[.slice A0_15 l0_15.length c0_15] rfl (by (try simp only [List.map_toArray, List.map_cons, List.map_nil]); first | done | rfl | (simp only [List.length_drop, List.length_take]; rfl)) ?_; (with_reducible refine (laws_zzFits1.calls k _ _ l0_15 _ _ ?side1 ?side2 A12.out).mono ?_); (case side1 => repeat (first | exact (Kd.C_below HR0_15.out HB.out) | (with_reducible refine Kd.C_alloc ?_ _) | (with_reducible refine Kd.C_drewN ?_ _) | (with_reducible refine Kd.C_drew ?_))); (case side2 => exact HC0_15.out); rintro e w' ⟨rfl, ⟨nd, rfl⟩⟩; refine ⟨_, rfl, ?_⟩) | ((with_reducible refine gate_callee (f := 14) rfl ?_); refine goesL_ (some 29) rfl rfl Tryz.func14 (by kernel_rfl) rfl #[.slice A0_16 l0_16.length c0_16] rfl (by (try simp only [List.map_toArray, List.map_cons, List.map_nil]); first | done | rfl | (simp only [List.length_drop, List.length_take]; rfl)) ?_; (with_reducible refine (laws_zzFits1.calls k _ _ l0_16 _ _ ?side1 ?side2 A14.out).mono ?_); (case side1 => repeat (first | exact (Kd.C_below HR0_16.out (by repeat (first | (with_reducible first | exact HB.out | apply below_alloc | apply pw_below_drewN | apply below_drew1 | refine below_set ?_ GEq1.out) | exact HB.out))) | (with_reducible refine Kd.C_alloc ?_ _) | (with_reducible refine Kd.C_drewN ?_ _) | (with_reducible refine Kd.C_drew ?_))); (case side2 => exact HC0_16.out); rintro e w' ⟨rfl, ⟨nd, rfl⟩⟩; refine ⟨_, rfl, ?_⟩))
       go_ret
       exact ⟨by first | rfl | (simp [errW_none, errW_some] <;> rfl) | (simp [*, errW_none, errW_some] <;> rfl), by repeat (first | (with_reducible first | exact HB.out | apply below_alloc | apply pw_below_drewN | apply below_drew1 | refine below_set ?_ GEq1.out) | exact HB.out)⟩
     case' n_c11 =>
      replace c11 := Bool.eq_false_iff.mpr c11
      subst c11
      have H1 : (some false) = some r := by rw [if_neg (show ¬ (false = true) by decide)] at H; exact H
      clear H
      have H := H1
      clear H1
      obtain rfl := Option.some.inj H
      go_enter Tryz.func5, Tryz.ntmps5
      go_wp2_with (first | ((with_reducible refine gate_dst (N := 1) rfl ?_); refine box_event ?hg (N := 1) ?hd (cs := #[.bool a0_0, .string a0_1, .slice A0_2 l0_2.length c0_2, .bool a0_3, .string a0_4, .bool a0_5, .string a0_6, .bool a0_7, .string a0_8, .bool a0_9, .string a0_10, .bool a0_11, .string a0_12, .bool a0_13, .string a0_14, .slice A0_15 l0_15.length c0_15, .slice A0_16 l0_16.length c0_16]) (t := 29) ?hr ?_; (case hd => rfl); (case hg => rfl); (case hr => first | (go_simp; done) | (go_simp; rfl)); intro gb108 hg w52 hbox hb; have n0_ := Aside0.mk (below_step (by repeat (first | (with_reducible first | exact HB.out | apply below_alloc | apply pw_below_drewN | apply below_drew1) | exact HB.out)) hb); have n1_ := Aside0.mk (hbox); have n2_ := Aside0.mk ((by rw [hg]; exact (below_size (by repeat (first | (with_reducible first | exact HB.out | apply below_alloc | apply pw_below_drewN | apply below_drew1) | exact HB.out))) : w.heap.size ≤ gb108)); have n3_ := Aside0.mk ((by rw [hg]; exact (below_size (by repeat (first | (with_reducible first | exact HB.out | apply below_alloc | apply pw_below_drewN | apply below_drew1) | exact HB.out))) : w.heap.size ≤ gb108)); clear HB; have HB := n0_; have BK108 := n1_; have GW108 := n2_; have GE108 := n3_; clear n0_ n1_ n2_ n3_; clear hb hbox hg; have hcz53_0 : w52.cell? ⟨gb108, 0, none⟩ = some (.bool a0_0) := (blk_cell BK108.out 0).trans rfl; have hcz53_1 : w52.cell? ⟨gb108, 1, none⟩ = some (.string a0_1) := (blk_cell BK108.out 1).trans rfl; have hcz53_2 : w52.cell? ⟨gb108, 2, none⟩ = some (.slice A0_2 l0_2.length c0_2) := (blk_cell BK108.out 2).trans rfl; have hcz53_3 : w52.cell? ⟨gb108, 3, none⟩ = some (.bool a0_3) := (blk_cell BK108.out 3).trans rfl; have hcz53_4 : w52.cell? ⟨gb108, 4, none⟩ = some (.string a0_4) := (blk_cell BK108.out 4).trans rfl; have hcz53_5 : w52.cell? ⟨gb108, 5, none⟩ = some (.bool a0_5) := (blk_cell BK108.out 5).trans rfl; have hcz53_6 : w52.cell? ⟨gb108, 6, none⟩ = some (.string a0_6) := (blk_cell BK108.out 6).trans rfl; have hcz53_7 : w52.cell? ⟨gb108, 7, none⟩ = some (.bool a0_7) := (blk_cell BK108.out 7).trans rfl; have hcz53_8 : w52.cell? ⟨gb108, 8, none⟩ = some (.string a0_8) := (blk_cell BK108.out 8).trans rfl; have hcz53_9 : w52.cell? ⟨gb108, 9, none⟩ = some (.bool a0_9) := (blk_cell BK108.out 9).trans rfl; have hcz53_10 : w52.cell? ⟨gb108, 10, none⟩ = some (.string a0_10) := (blk_cell BK108.out 10).trans rfl; have hcz53_11 : w52.cell? ⟨gb108, 11, none⟩ = some (.bool a0_11) := (blk_cell BK108.out 11).trans rfl; have hcz53_12 : w52.cell? ⟨gb108, 12, none⟩ = some (.string a0_12) := (blk_cell BK108.out 12).trans rfl; have hcz53_13 : w52.cell? ⟨gb108, 13, none⟩ = some (.bool a0_13) := (blk_cell BK108.out 13).trans rfl; have hcz53_14 : w52.cell? ⟨gb108, 14, none⟩ = some (.string a0_14) := (blk_cell BK108.out 14).trans rfl; have hcz53_15 : w52.cell? ⟨gb108, 15, none⟩ = some (.slice A0_15 l0_15.length c0_15) := (blk_cell BK108.out 15).trans rfl; have hcz53_16 : w52.cell? ⟨gb108, 16, none⟩ = some (.slice A0_16 l0_16.length c0_16) := (blk_cell BK108.out 16).trans rfl; have hfz53_0 := blk_frozen BK108.out 0; have hfz53_1 := blk_frozen BK108.out 1; have hfz53_2 := blk_frozen BK108.out 2; have hfz53_3 := blk_frozen BK108.out 3; have hfz53_4 := blk_frozen BK108.out 4; have hfz53_5 := blk_frozen BK108.out 5; have hfz53_6 := blk_frozen BK108.out 6; have hfz53_7 := blk_frozen BK108.out 7; have hfz53_8 := blk_frozen BK108.out 8; have hfz53_9 := blk_frozen BK108.out 9; have hfz53_10 := blk_frozen BK108.out 10; have hfz53_11 := blk_frozen BK108.out 11; have hfz53_12 := blk_frozen BK108.out 12; have hfz53_13 := blk_frozen BK108.out 13; have hfz53_14 := blk_frozen BK108.out 14; have hfz53_15 := blk_frozen BK108.out 15; have hfz53_16 := blk_frozen BK108.out 16) | ((with_reducible refine gate_callee (f := 11) rfl ?_); refine goesL_ (some 5) rfl rfl Tryz.func11 (by kernel_rfl) rfl #[.agg #[.bool a0_0, .string a0_1]] rfl (by (try simp only [List.map_toArray, List.map_cons, List.map_nil]); first | done | rfl | (simp only [List.length_drop, List.length_take]; rfl)) ?_; (with_reducible refine (laws_zzFits3.calls a0_0 a0_1 true _ A2.out).mono ?_); rintro e w54 ⟨rfl, hb⟩; refine ⟨_, rfl, ?_⟩; have n0_ := Aside0.mk (blk_below (g := gb108) (o := .cells #[.bool a0_0, .string a0_1, .slice A0_2 l0_2.length c0_2, .bool a0_3, .string a0_4, .bool a0_5, .string a0_6, .bool a0_7, .string a0_8, .bool a0_9, .string a0_10, .bool a0_11, .string a0_12, .bool a0_13, .string a0_14, .slice A0_15 l0_15.length c0_15, .slice A0_16 l0_16.length c0_16] 29 (0, 0)) (by (with_reducible repeat (first | refine blk_drewN ?_ _ | refine blk_drew ?_ | refine blk_alloc ?_ _)); exact BK108.out) hb); have n1_ := Aside0.mk (below_step (by repeat (first | (with_reducible first | exact HB.out | apply below_alloc | apply pw_below_drewN | apply below_drew1 | refine below_set ?_ GE108.out) | exact HB.out)) hb); clear BK108; clear HB; have BK108 := n0_; have HB := n1_; clear n0_ n1_; (try clear hb); (try clear hb2); (try clear hk); (try clear hi); have hcz55_0 : w54.cell? ⟨gb108, 0, none⟩ = some (.bool a0_0) := (blk_cell BK108.out 0).trans rfl; have hcz55_1 : w54.cell? ⟨gb108, 1, none⟩ = some (.string a0_1) := (blk_cell BK108.out 1).trans rfl; have hcz55_2 : w54.cell? ⟨gb108, 2, none⟩ = some (.slice A0_2 l0_2.length c0_2) := (blk_cell BK108.out 2).trans rfl; have hcz55_3 : w54.cell? ⟨gb108, 3, none⟩ = some (.bool a0_3) := (blk_cell BK108.out 3).trans rfl; have hcz55_4 : w54.cell? ⟨gb108, 4, none⟩ = some (.string a0_4) := (blk_cell BK108.out 4).trans rfl; have hcz55_5 : w54.cell? ⟨gb108, 5, none⟩ = some (.bool a0_5) := (blk_cell BK108.out 5).trans rfl; have hcz55_6 : w54.cell? ⟨gb108, 6, none⟩ = some (.string a0_6) := (blk_cell BK108.out 6).trans rfl; have hcz55_7 : w54.cell? ⟨gb108, 7, none⟩ = some (.bool a0_7) := (blk_cell BK108.out 7).trans rfl; have hcz55_8 : w54.cell? ⟨gb108, 8, none⟩ = some (.string a0_8) := (blk_cell BK108.out 8).trans rfl; have hcz55_9 : w54.cell? ⟨gb108, 9, none⟩ = some (.bool a0_9) := (blk_cell BK108.out 9).trans rfl; have hcz55_10 : w54.cell? ⟨gb108, 10, none⟩ = some (.string a0_10) := (blk_cell BK108.out 10).trans rfl; have hcz55_11 : w54.cell? ⟨gb108, 11, none⟩ = some (.bool a0_11) := (blk_cell BK108.out 11).trans rfl; have hcz55_12 : w54.cell? ⟨gb108, 12, none⟩ = some (.string a0_12) := (blk_cell BK108.out 12).trans rfl; have hcz55_13 : w54.cell? ⟨gb108, 13, none⟩ = some (.bool a0_13) := (blk_cell BK108.out 13).trans rfl; have hcz55_14 : w54.cell? ⟨gb108, 14, none⟩ = some (.string a0_14) := (blk_cell BK108.out 14).trans rfl; have hcz55_15 : w54.cell? ⟨gb108, 15, none⟩ = some (.slice A0_15 l0_15.length c0_15) := (blk_cell BK108.out 15).trans rfl; have hcz55_16 : w54.cell? ⟨gb108, 16, none⟩ = some (.slice A0_16 l0_16.length c0_16) := (blk_cell BK108.out 16).trans rfl; have hfz55_0 := blk_frozen BK108.out 0; have hfz55_1 := blk_frozen BK108.out 1; have hfz55_2 := blk_frozen BK108.out 2; have hfz55_3 := blk_frozen BK108.out 3; have hfz55_4 := blk_frozen BK108.out 4; have hfz55_5 := blk_frozen BK108.out 5; have hfz55_6 := blk_frozen BK108.out 6; have hfz55_7 := blk_frozen BK108.out 7; have hfz55_8 := blk_frozen BK108.out 8; have hfz55_9 := blk_frozen BK108.out 9; have hfz55_10 := blk_frozen BK108.out 10; have hfz55_11 := blk_frozen BK108.out 11; have hfz55_12 := blk_frozen BK108.out 12; have hfz55_13 := blk_frozen BK108.out 13; have hfz55_14 := blk_frozen BK108.out 14; have hfz55_15 := blk_frozen BK108.out 15; have hfz55_16 := blk_frozen BK108.out 16) | ((with_reducible refine gate_callee (f := 12) rfl ?_); refine goesL_ (some 9) rfl rfl Tryz.func12 (by kernel_rfl) rfl #[.slice A0_2 l0_2.length c0_2] rfl (by (try simp only [List.map_toArray, List.map_cons, List.map_nil]); first | done | rfl | (simp only [List.length_drop, List.length_take]; rfl)) ?_; (with_reducible refine (laws_zzFits2.calls k _ _ l0_2 true _ ?side1 ?side2 A4.out).mono ?_); (case side1 => repeat (first | exact (Kd.C_below HR0_2.out HB.out) | (with_reducible refine Kd.C_alloc ?_ _) | (with_reducible refine Kd.C_drewN ?_ _) | (with_reducible refine Kd.C_drew ?_))); (case side2 => exact HC0_2.out); rintro e w56 ⟨rfl, hb⟩; refine ⟨_, rfl, ?_⟩; have n0_ := Aside0.mk (blk_below (g := gb108) (o := .cells #[.bool a0_0, .string a0_1, .slice A0_2 l0_2.length c0_2, .bool a0_3, .string a0_4, .bool a0_5, .string a0_6, .bool a0_7, .string a0_8, .bool a0_9, .string a0_10, .bool a0_11, .string a0_12, .bool a0_13, .string a0_14, .slice A0_15 l0_15.length c0_15, .slice A0_16 l0_16.length c0_16] 29 (0, 0)) (by (with_reducible repeat (first | refine blk_drewN ?_ _ | refine blk_drew ?_ | refine blk_alloc ?_ _)); exact BK108.out) hb); have n1_ := Aside0.mk (below_step (by repeat (first | (with_reducible first | exact HB.out | apply below_alloc | apply pw_below_drewN | apply below_drew1 | refine below_set ?_ GE108.out) | exact HB.out)) hb); clear BK108; clear HB; have BK108 := n0_; have HB := n1_; clear n0_ n1_; (try clear hb); (try clear hb2); (try clear hk); (try clear hi); have hcz57_0 : w56.cell? ⟨gb108, 0, none⟩ = some (.bool a0_0) := (blk_cell BK108.out 0).trans rfl; have hcz57_1 : w56.cell? ⟨gb108, 1, none⟩ = some (.string a0_1) := (blk_cell BK108.out 1).trans rfl; have hcz57_2 : w56.cell? ⟨gb108, 2, none⟩ = some (.slice A0_2 l0_2.length c0_2) := (blk_cell BK108.out 2).trans rfl; have hcz57_3 : w56.cell? ⟨gb108, 3, none⟩ = some (.bool a0_3) := (blk_cell BK108.out 3).trans rfl; have hcz57_4 : w56.cell? ⟨gb108, 4, none⟩ = some (.string a0_4) := (blk_cell BK108.out 4).trans rfl; have hcz57_5 : w56.cell? ⟨gb108, 5, none⟩ = some (.bool a0_5) := (blk_cell BK108.out 5).trans rfl; have hcz57_6 : w56.cell? ⟨gb108, 6, none⟩ = some (.string a0_6) := (blk_cell BK108.out 6).trans rfl; have hcz57_7 : w56.cell? ⟨gb108, 7, none⟩ = some (.bool a0_7) := (blk_cell BK108.out 7).trans rfl; have hcz57_8 : w56.cell? ⟨gb108, 8, none⟩ = some (.string a0_8) := (blk_cell BK108.out 8).trans rfl; have hcz57_9 : w56.cell? ⟨gb108, 9, none⟩ = some (.bool a0_9) := (blk_cell BK108.out 9).trans rfl; have hcz57_10 : w56.cell? ⟨gb108, 10, none⟩ = some (.string a0_10) := (blk_cell BK108.out 10).trans rfl; have hcz57_11 : w56.cell? ⟨gb108, 11, none⟩ = some (.bool a0_11) := (blk_cell BK108.out 11).trans rfl; have hcz57_12 : w56.cell? ⟨gb108, 12, none⟩ = some (.string a0_12) := (blk_cell BK108.out 12).trans rfl; have hcz57_13 : w56.cell? ⟨gb108, 13, none⟩ = some (.bool a0_13) := (blk_cell BK108.out 13).trans rfl; have hcz57_14 : w56.cell? ⟨gb108, 14, none⟩ = some (.string a0_14) := (blk_cell BK108.out 14).trans rfl; have hcz57_15 : w56.cell? ⟨gb108, 15, none⟩ = some (.slice A0_15 l0_15.length c0_15) := (blk_cell BK108.out 15).trans rfl; have hcz57_16 : w56.cell? ⟨gb108, 16, none⟩ = some (.slice A0_16 l0_16.length c0_16) := (blk_cell BK108.out 16).trans rfl; have hfz57_0 := blk_frozen BK108.out 0; have hfz57_1 := blk_frozen BK108.out 1; have hfz57_2 := blk_frozen BK108.out 2; have hfz57_3 := blk_frozen BK108.out 3; have hfz57_4 := blk_frozen BK108.out 4; have hfz57_5 := blk_frozen BK108.out 5; have hfz57_6 := blk_frozen BK108.out 6; have hfz57_7 := blk_frozen BK108.out 7; have hfz57_8 := blk_frozen BK108.out 8; have hfz57_9 := blk_frozen BK108.out 9; have hfz57_10 := blk_frozen BK108.out 10; have hfz57_11 := blk_frozen BK108.out 11; have hfz57_12 := blk_frozen BK108.out 12; have hfz57_13 := blk_frozen BK108.out 13; have hfz57_14 := blk_frozen BK108.out 14; have hfz57_15 := blk_frozen BK108.out 15; have hfz57_16 := blk_frozen BK108.out 16) | ((with_reducible refine gate_callee (f := 13) rfl ?_); refine goesL_ (some 13) rfl rfl Tryz.func13 (by kernel_rfl) rfl #[.agg #[.bool a0_3, .string a0_4, .bool a0_5, .string a0_6]] rfl (by (try simp only [List.map_toArray, List.map_cons, List.map_nil]); first | done | rfl | (simp only [List.length_drop, List.length_take]; rfl)) ?_; (with_reducible refine (laws_zzFits13.calls a0_3 a0_4 a0_5 a0_6 true _ A6.out).mono ?_); rintro e w58 ⟨rfl, hb⟩; refine ⟨_, rfl, ?_⟩; have n0_ := Aside0.mk (blk_below (g := gb108) (o := .cells #[.bool a0_0, .string a0_1, .slice A0_2 l0_2.length c0_2, .bool a0_3, .string a0_4, .bool a0_5, .string a0_6, .bool a0_7, .string a0_8, .bool a0_9, .string a0_10, .bool a0_11, .string a0_12, .bool a0_13, .string a0_14, .slice A0_15 l0_15.length c0_15, .slice A0_16 l0_16.length c0_16] 29 (0, 0)) (by (with_reducible repeat (first | refine blk_drewN ?_ _ | refine blk_drew ?_ | refine blk_alloc ?_ _)); exact BK108.out) hb); have n1_ := Aside0.mk (below_step (by repeat (first | (with_reducible first | exact HB.out | apply below_alloc | apply pw_below_drewN | apply below_drew1 | refine below_set ?_ GE108.out) | exact HB.out)) hb); clear BK108; clear HB; have BK108 := n0_; have HB := n1_; clear n0_ n1_; (try clear hb); (try clear hb2); (try clear hk); (try clear hi); have hcz59_0 : w58.cell? ⟨gb108, 0, none⟩ = some (.bool a0_0) := (blk_cell BK108.out 0).trans rfl; have hcz59_1 : w58.cell? ⟨gb108, 1, none⟩ = some (.string a0_1) := (blk_cell BK108.out 1).trans rfl; have hcz59_2 : w58.cell? ⟨gb108, 2, none⟩ = some (.slice A0_2 l0_2.length c0_2) := (blk_cell BK108.out 2).trans rfl; have hcz59_3 : w58.cell? ⟨gb108, 3, none⟩ = some (.bool a0_3) := (blk_cell BK108.out 3).trans rfl; have hcz59_4 : w58.cell? ⟨gb108, 4, none⟩ = some (.string a0_4) := (blk_cell BK108.out 4).trans rfl; have hcz59_5 : w58.cell? ⟨gb108, 5, none⟩ = some (.bool a0_5) := (blk_cell BK108.out 5).trans rfl; have hcz59_6 : w58.cell? ⟨gb108, 6, none⟩ = some (.string a0_6) := (blk_cell BK108.out 6).trans rfl; have hcz59_7 : w58.cell? ⟨gb108, 7, none⟩ = some (.bool a0_7) := (blk_cell BK108.out 7).trans rfl; have hcz59_8 : w58.cell? ⟨gb108, 8, none⟩ = some (.string a0_8) := (blk_cell BK108.out 8).trans rfl; have hcz59_9 : w58.cell? ⟨gb108, 9, none⟩ = some (.bool a0_9) := (blk_cell BK108.out 9).trans rfl; have hcz59_10 : w58.cell? ⟨gb108, 10, none⟩ = some (.string a0_10) := (blk_cell BK108.out 10).trans rfl; have hcz59_11 : w58.cell? ⟨gb108, 11, none⟩ = some (.bool a0_11) := (blk_cell BK108.out 11).trans rfl; have hcz59_12 : w58.cell? ⟨gb108, 12, none⟩ = some (.string a0_12) := (blk_cell BK108.out 12).trans rfl; have hcz59_13 : w58.cell? ⟨gb108, 13, none⟩ = some (.bool a0_13) := (blk_cell BK108.out 13).trans rfl; have hcz59_14 : w58.cell? ⟨gb108, 14, none⟩ = some (.string a0_14) := (blk_cell BK108.out 14).trans rfl; have hcz59_15 : w58.cell? ⟨gb108, 15, none⟩ = some (.slice A0_15 l0_15.length c0_15) := (blk_cell BK108.out 15).trans rfl; have hcz59_16 : w58.cell? ⟨gb108, 16, none⟩ = some (.slice A0_16 l0_16.length c0_16) := (blk_cell BK108.out 16).trans rfl; have hfz59_0 := blk_frozen BK108.out 0; have hfz59_1 := blk_frozen BK108.out 1; have hfz59_2 := blk_frozen BK108.out 2; have hfz59_3 := blk_frozen BK108.out 3; have hfz59_4 := blk_frozen BK108.out 4; have hfz59_5 := blk_frozen BK108.out 5; have hfz59_6 := blk_frozen BK108.out 6; have hfz59_7 := blk_frozen BK108.out 7; have hfz59_8 := blk_frozen BK108.out 8; have hfz59_9 := blk_frozen BK108.out 9; have hfz59_10 := blk_frozen BK108.out 10; have hfz59_11 := blk_frozen BK108.out 11; have hfz59_12 := blk_frozen BK108.out 12; have hfz59_13 := blk_frozen BK108.out 13; have hfz59_14 := blk_frozen BK108.out 14; have hfz59_15 := blk_frozen BK108.out 15; have hfz59_16 := blk_frozen BK108.out 16) | ((with_reducible refine gate_callee (f := 13) rfl ?_); refine goesL_ (some 17) rfl rfl Tryz.func13 (by kernel_rfl) rfl #[.agg #[.bool a0_7, .string a0_8, .bool a0_9, .string a0_10]] rfl (by (try simp only [List.map_toArray, List.map_cons, List.map_nil]); first | done | rfl | (simp only [List.length_drop, List.length_take]; rfl)) ?_; (with_reducible refine (laws_zzFits13.calls a0_7 a0_8 a0_9 a0_10 true _ A8.out).mono ?_); rintro e w60 ⟨rfl, hb⟩; refine ⟨_, rfl, ?_⟩; have n0_ := Aside0.mk (blk_below (g := gb108) (o := .cells #[.bool a0_0, .string a0_1, .slice A0_2 l0_2.length c0_2, .bool a0_3, .string a0_4, .bool a0_5, .string a0_6, .bool a0_7, .string a0_8, .bool a0_9, .string a0_10, .bool a0_11, .string a0_12, .bool a0_13, .string a0_14, .slice A0_15 l0_15.length c0_15, .slice A0_16 l0_16.length c0_16] 29 (0, 0)) (by (with_reducible repeat (first | refine blk_drewN ?_ _ | refine blk_drew ?_ | refine blk_alloc ?_ _)); exact BK108.out) hb); have n1_ := Aside0.mk (below_step (by repeat (first | (with_reducible first | exact HB.out | apply below_alloc | apply pw_below_drewN | apply below_drew1 | refine below_set ?_ GE108.out) | exact HB.out)) hb); clear BK108; clear HB; have BK108 := n0_; have HB := n1_; clear n0_ n1_; (try clear hb); (try clear hb2); (try clear hk); (try clear hi); have hcz61_0 : w60.cell? ⟨gb108, 0, none⟩ = some (.bool a0_0) := (blk_cell BK108.out 0).trans rfl; have hcz61_1 : w60.cell? ⟨gb108, 1, none⟩ = some (.string a0_1) := (blk_cell BK108.out 1).trans rfl; have hcz61_2 : w60.cell? ⟨gb108, 2, none⟩ = some (.slice A0_2 l0_2.length c0_2) := (blk_cell BK108.out 2).trans rfl; have hcz61_3 : w60.cell? ⟨gb108, 3, none⟩ = some (.bool a0_3) := (blk_cell BK108.out 3).trans rfl; have hcz61_4 : w60.cell? ⟨gb108, 4, none⟩ = some (.string a0_4) := (blk_cell BK108.out 4).trans rfl; have hcz61_5 : w60.cell? ⟨gb108, 5, none⟩ = some (.bool a0_5) := (blk_cell BK108.out 5).trans rfl; have hcz61_6 : w60.cell? ⟨gb108, 6, none⟩ = some (.string a0_6) := (blk_cell BK108.out 6).trans rfl; have hcz61_7 : w60.cell? ⟨gb108, 7, none⟩ = some (.bool a0_7) := (blk_cell BK108.out 7).trans rfl; have hcz61_8 : w60.cell? ⟨gb108, 8, none⟩ = some (.string a0_8) := (blk_cell BK108.out 8).trans rfl; have hcz61_9 : w60.cell? ⟨gb108, 9, none⟩ = some (.bool a0_9) := (blk_cell BK108.out 9).trans rfl; have hcz61_10 : w60.cell? ⟨gb108, 10, none⟩ = some (.string a0_10) := (blk_cell BK108.out 10).trans rfl; have hcz61_11 : w60.cell? ⟨gb108, 11, none⟩ = some (.bool a0_11) := (blk_cell BK108.out 11).trans rfl; have hcz61_12 : w60.cell? ⟨gb108, 12, none⟩ = some (.string a0_12) := (blk_cell BK108.out 12).trans rfl; have hcz61_13 : w60.cell? ⟨gb108, 13, none⟩ = some (.bool a0_13) := (blk_cell BK108.out 13).trans rfl; have hcz61_14 : w60.cell? ⟨gb108, 14, none⟩ = some (.string a0_14) := (blk_cell BK108.out 14).trans rfl; have hcz61_15 : w60.cell? ⟨gb108, 15, none⟩ = some (.slice A0_15 l0_15.length c0_15) := (blk_cell BK108.out 15).trans rfl; have hcz61_16 : w60.cell? ⟨gb108, 16, none⟩ = some (.slice A0_16 l0_16.length c0_16) := (blk_cell BK108.out 16).trans rfl; have hfz61_0 := blk_frozen BK108.out 0; have hfz61_1 := blk_frozen BK108.out 1; have hfz61_2 := blk_frozen BK108.out 2; have hfz61_3 := blk_frozen BK108.out 3; have hfz61_4 := blk_frozen BK108.out 4; have hfz61_5 := blk_frozen BK108.out 5; have hfz61_6 := blk_frozen BK108.out 6; have hfz61_7 := blk_frozen BK108.out 7; have hfz61_8 := blk_frozen BK108.out 8; have hfz61_9 := blk_frozen BK108.out 9; have hfz61_10 := blk_frozen BK108.out 10; have hfz61_11 := blk_frozen BK108.out 11; have hfz61_12 := blk_frozen BK108.out 12; have hfz61_13 := blk_frozen BK108.out 13; have hfz61_14 := blk_frozen BK108.out 14; have hfz61_15 := blk_frozen BK108.out 15; have hfz61_16 := blk_frozen BK108.out 16) | ((with_reducible refine gate_callee (f := 13) rfl ?_); refine goesL_ (some 21) rfl rfl Tryz.func13 (by kernel_rfl) rfl #[.agg #[.bool a0_11, .string a0_12, .bool a0_13, .string a0_14]] rfl (by (try simp only [List.map_toArray, List.map_cons, List.map_nil]); first | done | rfl | (simp only [List.length_drop, List.length_take]; rfl)) ?_; (with_reducible refine (laws_zzFits13.calls a0_11 a0_12 a0_13 a0_14 false _ A10.out).mono ?_); rintro e w62 ⟨rfl, hb⟩; refine ⟨_, rfl, ?_⟩; have n0_ := Aside0.mk (blk_below (g := gb108) (o := .cells #[.bool a0_0, .string a0_1, .slice A0_2 l0_2.length c0_2, .bool a0_3, .string a0_4, .bool a0_5, .string a0_6, .bool a0_7, .string a0_8, .bool a0_9, .string a0_10, .bool a0_11, .string a0_12, .bool a0_13, .string a0_14, .slice A0_15 l0_15.length c0_15, .slice A0_16 l0_16.length c0_16] 29 (0, 0)) (by (with_reducible repeat (first | refine blk_drewN ?_ _ | refine blk_drew ?_ | refine blk_alloc ?_ _)); exact BK108.out) hb); have n1_ := Aside0.mk (below_step (by repeat (first | (with_reducible first | exact HB.out | apply below_alloc | apply pw_below_drewN | apply below_drew1 | refine below_set ?_ GE108.out) | exact HB.out)) hb); clear BK108; clear HB; have BK108 := n0_; have HB := n1_; clear n0_ n1_; (try clear hb); (try clear hb2); (try clear hk); (try clear hi)))
      go_ret
      exact ⟨by first | rfl | (simp [errW_none, errW_some] <;> rfl) | (simp [*, errW_none, errW_some] <;> rfl), by repeat (first | (with_reducible first | exact HB.out | apply below_alloc | apply pw_below_drewN | apply below_drew1 | refine below_set ?_ GE108.out) | exact HB.out)⟩
    case' n_c9 =>
     replace c9 := Bool.eq_false_iff.mpr c9
     subst c9
     have H1 : (some false) = some r := by rw [if_neg (show ¬ (false = true) by decide)] at H; exact H
     clear H
     have H := H1
     clear H1
     obtain rfl := Option.some.inj H
     go_enter Tryz.func5, Tryz.ntmps5
     go_wp2_with (first | ((with_reducible refine gate_dst (N := 1) rfl ?_); refine box_event ?hg (N := 1) ?hd (cs := #[.bool a0_0, .string a0_1, .slice A0_2 l0_2.length c0_2, .bool a0_3, .string a0_4, .bool a0_5, .string a0_6, .bool a0_7, .string a0_8, .bool a0_9, .string a0_10, .bool a0_11, .string a0_12, .bool a0_13, .string a0_14, .slice A0_15 l0_15.length c0_15, .slice A0_16 l0_16.length c0_16]) (t := 29) ?hr ?_; (case hd => rfl); (case hg => rfl); (case hr => first | (go_simp; done) | (go_simp; rfl)); intro gb108 hg w63 hbox hb; have n0_ := Aside0.mk (below_step (by repeat (first | (with_reducible first | exact HB.out | apply below_alloc | apply pw_below_drewN | apply below_drew1) | exact HB.out)) hb); have n1_ := Aside0.mk (hbox); have n2_ := Aside0.mk ((by rw [hg]; exact (below_size (by repeat (first | (with_reducible first | exact HB.out | apply below_alloc | apply pw_below_drewN | apply below_drew1) | exact HB.out))) : w.heap.size ≤ gb108)); have n3_ := Aside0.mk ((by rw [hg]; exact (below_size (by repeat (first | (with_reducible first | exact HB.out | apply below_alloc | apply pw_below_drewN | apply below_drew1) | exact HB.out))) : w.heap.size ≤ gb108)); clear HB; have HB := n0_; have BK108 := n1_; have GW108 := n2_; have GE108 := n3_; clear n0_ n1_ n2_ n3_; clear hb hbox hg; have hcz64_0 : w63.cell? ⟨gb108, 0, none⟩ = some (.bool a0_0) := (blk_cell BK108.out 0).trans rfl; have hcz64_1 : w63.cell? ⟨gb108, 1, none⟩ = some (.string a0_1) := (blk_cell BK108.out 1).trans rfl; have hcz64_2 : w63.cell? ⟨gb108, 2, none⟩ = some (.slice A0_2 l0_2.length c0_2) := (blk_cell BK108.out 2).trans rfl; have hcz64_3 : w63.cell? ⟨gb108, 3, none⟩ = some (.bool a0_3) := (blk_cell BK108.out 3).trans rfl; have hcz64_4 : w63.cell? ⟨gb108, 4, none⟩ = some (.string a0_4) := (blk_cell BK108.out 4).trans rfl; have hcz64_5 : w63.cell? ⟨gb108, 5, none⟩ = some (.bool a0_5) := (blk_cell BK108.out 5).trans rfl; have hcz64_6 : w63.cell? ⟨gb108, 6, none⟩ = some (.string a0_6) := (blk_cell BK108.out 6).trans rfl; have hcz64_7 : w63.cell? ⟨gb108, 7, none⟩ = some (.bool a0_7) := (blk_cell BK108.out 7).trans rfl; have hcz64_8 : w63.cell? ⟨gb108, 8, none⟩ = some (.string a0_8) := (blk_cell BK108.out 8).trans rfl; have hcz64_9 : w63.cell? ⟨gb108, 9, none⟩ = some (.bool a0_9) := (blk_cell BK108.out 9).trans rfl; have hcz64_10 : w63.cell? ⟨gb108, 10, none⟩ = some (.string a0_10) := (blk_cell BK108.out 10).trans rfl; have hcz64_11 : w63.cell? ⟨gb108, 11, none⟩ = some (.bool a0_11) := (blk_cell BK108.out 11).trans rfl; have hcz64_12 : w63.cell? ⟨gb108, 12, none⟩ = some (.string a0_12) := (blk_cell BK108.out 12).trans rfl; have hcz64_13 : w63.cell? ⟨gb108, 13, none⟩ = some (.bool a0_13) := (blk_cell BK108.out 13).trans rfl; have hcz64_14 : w63.cell? ⟨gb108, 14, none⟩ = some (.string a0_14) := (blk_cell BK108.out 14).trans rfl; have hcz64_15 : w63.cell? ⟨gb108, 15, none⟩ = some (.slice A0_15 l0_15.length c0_15) := (blk_cell BK108.out 15).trans rfl; have hcz64_16 : w63.cell? ⟨gb108, 16, none⟩ = some (.slice A0_16 l0_16.length c0_16) := (blk_cell BK108.out 16).trans rfl; have hfz64_0 := blk_frozen BK108.out 0; have hfz64_1 := blk_frozen BK108.out 1; have hfz64_2 := blk_frozen BK108.out 2; have hfz64_3 := blk_frozen BK108.out 3; have hfz64_4 := blk_frozen BK108.out 4; have hfz64_5 := blk_frozen BK108.out 5; have hfz64_6 := blk_frozen BK108.out 6; have hfz64_7 := blk_frozen BK108.out 7; have hfz64_8 := blk_frozen BK108.out 8; have hfz64_9 := blk_frozen BK108.out 9; have hfz64_10 := blk_frozen BK108.out 10; have hfz64_11 := blk_frozen BK108.out 11; have hfz64_12 := blk_frozen BK108.out 12; have hfz64_13 := blk_frozen BK108.out 13; have hfz64_14 := blk_frozen BK108.out 14; have hfz64_15 := blk_frozen BK108.out 15; have hfz64_16 := blk_frozen BK108.out 16) | ((with_reducible refine gate_callee (f := 11) rfl ?_); refine goesL_ (some 5) rfl rfl Tryz.func11 (by kernel_rfl) rfl #[.agg #[.bool a0_0, .string a0_1]] rfl (by (try simp only [List.map_toArray, List.map_cons, List.map_nil]); first | done | rfl | (simp only [List.length_drop, List.length_take]; rfl)) ?_; (with_reducible refine (laws_zzFits3.calls a0_0 a0_1 true _ A2.out).mono ?_); rintro e w65 ⟨rfl, hb⟩; refine ⟨_, rfl, ?_⟩; have n0_ := Aside0.mk (blk_below (g := gb108) (o := .cells #[.bool a0_0, .string a0_1, .slice A0_2 l0_2.length c0_2, .bool a0_3, .string a0_4, .bool a0_5, .string a0_6, .bool a0_7, .string a0_8, .bool a0_9, .string a0_10, .bool a0_11, .string a0_12, .bool a0_13, .string a0_14, .slice A0_15 l0_15.length c0_15, .slice A0_16 l0_16.length c0_16] 29 (0, 0)) (by (with_reducible repeat (first | refine blk_drewN ?_ _ | refine blk_drew ?_ | refine blk_alloc ?_ _)); exact BK108.out) hb); have n1_ := Aside0.mk (below_step (by repeat (first | (with_reducible first | exact HB.out | apply below_alloc | apply pw_below_drewN | apply below_drew1 | refine below_set ?_ GE108.out) | exact HB.out)) hb); clear BK108; clear HB; have BK108 := n0_; have HB := n1_; clear n0_ n1_; (try clear hb); (try clear hb2); (try clear hk); (try clear hi); have hcz66_0 : w65.cell? ⟨gb108, 0, none⟩ = some (.bool a0_0) := (blk_cell BK108.out 0).trans rfl; have hcz66_1 : w65.cell? ⟨gb108, 1, none⟩ = some (.string a0_1) := (blk_cell BK108.out 1).trans rfl; have hcz66_2 : w65.cell? ⟨gb108, 2, none⟩ = some (.slice A0_2 l0_2.length c0_2) := (blk_cell BK108.out 2).trans rfl; have hcz66_3 : w65.cell? ⟨gb108, 3, none⟩ = some (.bool a0_3) := (blk_cell BK108.out 3).trans rfl; have hcz66_4 : w65.cell? ⟨gb108, 4, none⟩ = some (.string a0_4) := (blk_cell BK108.out 4).trans rfl; have hcz66_5 : w65.cell? ⟨gb108, 5, none⟩ = some (.bool a0_5) := (blk_cell BK108.out 5).trans rfl; have hcz66_6 : w65.cell? ⟨gb108, 6, none⟩ = some (.string a0_6) := (blk_cell BK108.out 6).trans rfl; have hcz66_7 : w65.cell? ⟨gb108, 7, none⟩ = some (.bool a0_7) := (blk_cell BK108.out 7).trans rfl; have hcz66_8 : w65.cell? ⟨gb108, 8, none⟩ = some (.string a0_8) := (blk_cell BK108.out 8).trans rfl; have hcz66_9 : w65.cell? ⟨gb108, 9, none⟩ = some (.bool a0_9) := (blk_cell BK108.out 9).trans rfl; have hcz66_10 : w65.cell? ⟨gb108, 10, none⟩ = some (.string a0_10) := (blk_cell BK108.out 10).trans rfl; have hcz66_11 : w65.cell? ⟨gb108, 11, none⟩ = some (.bool a0_11) := (blk_cell BK108.out 11).trans rfl; have hcz66_12 : w65.cell? ⟨gb108, 12, none⟩ = some (.string a0_12) := (blk_cell BK108.out 12).trans rfl; have hcz66_13 : w65.cell? ⟨gb108, 13, none⟩ = some (.bool a0_13) := (blk_cell BK108.out 13).trans rfl; have hcz66_14 : w65.cell? ⟨gb108, 14, none⟩ = some (.string a0_14) := (blk_cell BK108.out 14).trans rfl; have hcz66_15 : w65.cell? ⟨gb108, 15, none⟩ = some (.slice A0_15 l0_15.length c0_15) := (blk_cell BK108.out 15).trans rfl; have hcz66_16 : w65.cell? ⟨gb108, 16, none⟩ = some (.slice A0_16 l0_16.length c0_16) := (blk_cell BK108.out 16).trans rfl; have hfz66_0 := blk_frozen BK108.out 0; have hfz66_1 := blk_frozen BK108.out 1; have hfz66_2 := blk_frozen BK108.out 2; have hfz66_3 := blk_frozen BK108.out 3; have hfz66_4 := blk_frozen BK108.out 4; have hfz66_5 := blk_frozen BK108.out 5; have hfz66_6 := blk_frozen BK108.out 6; have hfz66_7 := blk_frozen BK108.out 7; have hfz66_8 := blk_frozen BK108.out 8; have hfz66_9 := blk_frozen BK108.out 9; have hfz66_10 := blk_frozen BK108.out 10; have hfz66_11 := blk_frozen BK108.out 11; have hfz66_12 := blk_frozen BK108.out 12; have hfz66_13 := blk_frozen BK108.out 13; have hfz66_14 := blk_frozen BK108.out 14; have hfz66_15 := blk_frozen BK108.out 15; have hfz66_16 := blk_frozen BK108.out 16) | ((with_reducible refine gate_callee (f := 12) rfl ?_); refine goesL_ (some 9) rfl rfl Tryz.func12 (by kernel_rfl) rfl #[.slice A0_2 l0_2.length c0_2] rfl (by (try simp only [List.map_toArray, List.map_cons, List.map_nil]); first | done | rfl | (simp only [List.length_drop, List.length_take]; rfl)) ?_; (with_reducible refine (laws_zzFits2.calls k _ _ l0_2 true _ ?side1 ?side2 A4.out).mono ?_); (case side1 => repeat (first | exact (Kd.C_below HR0_2.out HB.out) | (with_reducible refine Kd.C_alloc ?_ _) | (with_reducible refine Kd.C_drewN ?_ _) | (with_reducible refine Kd.C_drew ?_))); (case side2 => exact HC0_2.out); rintro e w67 ⟨rfl, hb⟩; refine ⟨_, rfl, ?_⟩; have n0_ := Aside0.mk (blk_below (g := gb108) (o := .cells #[.bool a0_0, .string a0_1, .slice A0_2 l0_2.length c0_2, .bool a0_3, .string a0_4, .bool a0_5, .string a0_6, .bool a0_7, .string a0_8, .bool a0_9, .string a0_10, .bool a0_11, .string a0_12, .bool a0_13, .string a0_14, .slice A0_15 l0_15.length c0_15, .slice A0_16 l0_16.length c0_16] 29 (0, 0)) (by (with_reducible repeat (first | refine blk_drewN ?_ _ | refine blk_drew ?_ | refine blk_alloc ?_ _)); exact BK108.out) hb); have n1_ := Aside0.mk (below_step (by repeat (first | (with_reducible first | exact HB.out | apply below_alloc | apply pw_below_drewN | apply below_drew1 | refine below_set ?_ GE108.out) | exact HB.out)) hb); clear BK108; clear HB; have BK108 := n0_; have HB := n1_; clear n0_ n1_; (try clear hb); (try clear hb2); (try clear hk); (try clear hi); have hcz68_0 : w67.cell? ⟨gb108, 0, none⟩ = some (.bool a0_0) := (blk_cell BK108.out 0).trans rfl; have hcz68_1 : w67.cell? ⟨gb108, 1, none⟩ = some (.string a0_1) := (blk_cell BK108.out 1).trans rfl; have hcz68_2 : w67.cell? ⟨gb108, 2, none⟩ = some (.slice A0_2 l0_2.length c0_2) := (blk_cell BK108.out 2).trans rfl; have hcz68_3 : w67.cell? ⟨gb108, 3, none⟩ = some (.bool a0_3) := (blk_cell BK108.out 3).trans rfl; have hcz68_4 : w67.cell? ⟨gb108, 4, none⟩ = some (.string a0_4) := (blk_cell BK108.out 4).trans rfl; have hcz68_5 : w67.cell? ⟨gb108, 5, none⟩ = some (.bool a0_5) := (blk_cell BK108.out 5).trans rfl; have hcz68_6 : w67.cell? ⟨gb108, 6, none⟩ = some (.string a0_6) := (blk_cell BK108.out 6).trans rfl; have hcz68_7 : w67.cell? ⟨gb108, 7, none⟩ = some (.bool a0_7) := (blk_cell BK108.out 7).trans rfl; have hcz68_8 : w67.cell? ⟨gb108, 8, none⟩ = some (.string a0_8) := (blk_cell BK108.out 8).trans rfl; have hcz68_9 : w67.cell? ⟨gb108, 9, none⟩ = some (.bool a0_9) := (blk_cell BK108.out 9).trans rfl; have hcz68_10 : w67.cell? ⟨gb108, 10, none⟩ = some (.string a0_10) := (blk_cell BK108.out 10).trans rfl; have hcz68_11 : w67.cell? ⟨gb108, 11, none⟩ = some (.bool a0_11) := (blk_cell BK108.out 11).trans rfl; have hcz68_12 : w67.cell? ⟨gb108, 12, none⟩ = some (.string a0_12) := (blk_cell BK108.out 12).trans rfl; have hcz68_13 : w67.cell? ⟨gb108, 13, none⟩ = some (.bool a0_13) := (blk_cell BK108.out 13).trans rfl; have hcz68_14 : w67.cell? ⟨gb108, 14, none⟩ = some (.string a0_14) := (blk_cell BK108.out 14).trans rfl; have hcz68_15 : w67.cell? ⟨gb108, 15, none⟩ = some (.slice A0_15 l0_15.length c0_15) := (blk_cell BK108.out 15).trans rfl; have hcz68_16 : w67.cell? ⟨gb108, 16, none⟩ = some (.slice A0_16 l0_16.length c0_16) := (blk_cell BK108.out 16).trans rfl; have hfz68_0 := blk_frozen BK108.out 0; have hfz68_1 := blk_frozen BK108.out 1; have hfz68_2 := blk_frozen BK108.out 2; have hfz68_3 := blk_frozen BK108.out 3; have hfz68_4 := blk_frozen BK108.out 4; have hfz68_5 := blk_frozen BK108.out 5; have hfz68_6 := blk_frozen BK108.out 6; have hfz68_7 := blk_frozen BK108.out 7; have hfz68_8 := blk_frozen BK108.out 8; have hfz68_9 := blk_frozen BK108.out 9; have hfz68_10 := blk_frozen BK108.out 10; have hfz68_11 := blk_frozen BK108.out 11; have hfz68_12 := blk_frozen BK108.out 12; have hfz68_13 := blk_frozen BK108.out 13; have hfz68_14 := blk_frozen BK108.out 14; have hfz68_15 := blk_frozen BK108.out 15; have hfz68_16 := blk_frozen BK108.out 16) | ((with_reducible refine gate_callee (f := 13) rfl ?_); refine goesL_ (some 13) rfl rfl Tryz.func13 (by kernel_rfl) rfl #[.agg #[.bool a0_3, .string a0_4, .bool a0_5, .string a0_6]] rfl (by (try simp only [List.map_toArray, List.map_cons, List.map_nil]); first | done | rfl | (simp only [List.length_drop, List.length_take]; rfl)) ?_; (with_reducible refine (laws_zzFits13.calls a0_3 a0_4 a0_5 a0_6 true _ A6.out).mono ?_); rintro e w69 ⟨rfl, hb⟩; refine ⟨_, rfl, ?_⟩; have n0_ := Aside0.mk (blk_below (g := gb108) (o := .cells #[.bool a0_0, .string a0_1, .slice A0_2 l0_2.length c0_2, .bool a0_3, .string a0_4, .bool a0_5, .string a0_6, .bool a0_7, .string a0_8, .bool a0_9, .string a0_10, .bool a0_11, .string a0_12, .bool a0_13, .string a0_14, .slice A0_15 l0_15.length c0_15, .slice A0_16 l0_16.length c0_16] 29 (0, 0)) (by (with_reducible repeat (first | refine blk_drewN ?_ _ | refine blk_drew ?_ | refine blk_alloc ?_ _)); exact BK108.out) hb); have n1_ := Aside0.mk (below_step (by repeat (first | (with_reducible first | exact HB.out | apply below_alloc | apply pw_below_drewN | apply below_drew1 | refine below_set ?_ GE108.out) | exact HB.out)) hb); clear BK108; clear HB; have BK108 := n0_; have HB := n1_; clear n0_ n1_; (try clear hb); (try clear hb2); (try clear hk); (try clear hi); have hcz70_0 : w69.cell? ⟨gb108, 0, none⟩ = some (.bool a0_0) := (blk_cell BK108.out 0).trans rfl; have hcz70_1 : w69.cell? ⟨gb108, 1, none⟩ = some (.string a0_1) := (blk_cell BK108.out 1).trans rfl; have hcz70_2 : w69.cell? ⟨gb108, 2, none⟩ = some (.slice A0_2 l0_2.length c0_2) := (blk_cell BK108.out 2).trans rfl; have hcz70_3 : w69.cell? ⟨gb108, 3, none⟩ = some (.bool a0_3) := (blk_cell BK108.out 3).trans rfl; have hcz70_4 : w69.cell? ⟨gb108, 4, none⟩ = some (.string a0_4) := (blk_cell BK108.out 4).trans rfl; have hcz70_5 : w69.cell? ⟨gb108, 5, none⟩ = some (.bool a0_5) := (blk_cell BK108.out 5).trans rfl; have hcz70_6 : w69.cell? ⟨gb108, 6, none⟩ = some (.string a0_6) := (blk_cell BK108.out 6).trans rfl; have hcz70_7 : w69.cell? ⟨gb108, 7, none⟩ = some (.bool a0_7) := (blk_cell BK108.out 7).trans rfl; have hcz70_8 : w69.cell? ⟨gb108, 8, none⟩ = some (.string a0_8) := (blk_cell BK108.out 8).trans rfl; have hcz70_9 : w69.cell? ⟨gb108, 9, none⟩ = some (.bool a0_9) := (blk_cell BK108.out 9).trans rfl; have hcz70_10 : w69.cell? ⟨gb108, 10, none⟩ = some (.string a0_10) := (blk_cell BK108.out 10).trans rfl; have hcz70_11 : w69.cell? ⟨gb108, 11, none⟩ = some (.bool a0_11) := (blk_cell BK108.out 11).trans rfl; have hcz70_12 : w69.cell? ⟨gb108, 12, none⟩ = some (.string a0_12) := (blk_cell BK108.out 12).trans rfl; have hcz70_13 : w69.cell? ⟨gb108, 13, none⟩ = some (.bool a0_13) := (blk_cell BK108.out 13).trans rfl; have hcz70_14 : w69.cell? ⟨gb108, 14, none⟩ = some (.string a0_14) := (blk_cell BK108.out 14).trans rfl; have hcz70_15 : w69.cell? ⟨gb108, 15, none⟩ = some (.slice A0_15 l0_15.length c0_15) := (blk_cell BK108.out 15).trans rfl; have hcz70_16 : w69.cell? ⟨gb108, 16, none⟩ = some (.slice A0_16 l0_16.length c0_16) := (blk_cell BK108.out 16).trans rfl; have hfz70_0 := blk_frozen BK108.out 0; have hfz70_1 := blk_frozen BK108.out 1; have hfz70_2 := blk_frozen BK108.out 2; have hfz70_3 := blk_frozen BK108.out 3; have hfz70_4 := blk_frozen BK108.out 4; have hfz70_5 := blk_frozen BK108.out 5; have hfz70_6 := blk_frozen BK108.out 6; have hfz70_7 := blk_frozen BK108.out 7; have hfz70_8 := blk_frozen BK108.out 8; have hfz70_9 := blk_frozen BK108.out 9; have hfz70_10 := blk_frozen BK108.out 10; have hfz70_11 := blk_frozen BK108.out 11; have hfz70_12 := blk_frozen BK108.out 12; have hfz70_13 := blk_frozen BK108.out 13; have hfz70_14 := blk_frozen BK108.out 14; have hfz70_15 := blk_frozen BK108.out 15; have hfz70_16 := blk_frozen BK108.out 16) | ((with_reducible refine gate_callee (f := 13) rfl ?_); refine goesL_ (some 17) rfl rfl Tryz.func13 (by kernel_rfl) rfl #[.agg #[.bool a0_7, .string a0_8, .bool a0_9, .string a0_10]] rfl (by (try simp only [List.map_toArray, List.map_cons, List.map_nil]); first | done | rfl | (simp only [List.length_drop, List.length_take]; rfl)) ?_; (with_reducible refine (laws_zzFits13.calls a0_7 a0_8 a0_9 a0_10 false _ A8.out).mono ?_); rintro e w71 ⟨rfl, hb⟩; refine ⟨_, rfl, ?_⟩; have n0_ := Aside0.mk (blk_below (g := gb108) (o := .cells #[.bool a0_0, .string a0_1, .slice A0_2 l0_2.length c0_2, .bool a0_3, .string a0_4, .bool a0_5, .string a0_6, .bool a0_7, .string a0_8, .bool a0_9, .string a0_10, .bool a0_11, .string a0_12, .bool a0_13, .string a0_14, .slice A0_15 l0_15.length c0_15, .slice A0_16 l0_16.length c0_16] 29 (0, 0)) (by (with_reducible repeat (first | refine blk_drewN ?_ _ | refine blk_drew ?_ | refine blk_alloc ?_ _)); exact BK108.out) hb); have n1_ := Aside0.mk (below_step (by repeat (first | (with_reducible first | exact HB.out | apply below_alloc | apply pw_below_drewN | apply below_drew1 | refine below_set ?_ GE108.out) | exact HB.out)) hb); clear BK108; clear HB; have BK108 := n0_; have HB := n1_; clear n0_ n1_; (try clear hb); (try clear hb2); (try clear hk); (try clear hi)))
     go_ret
     exact ⟨by first | rfl | (simp [errW_none, errW_some] <;> rfl) | (simp [*, errW_none, errW_some] <;> rfl), by repeat (first | (with_reducible first | exact HB.out | apply below_alloc | apply pw_below_drewN | apply below_drew1 | refine below_set ?_ GE108.out) | exact HB.out)⟩
   case' n_c7 =>
    replace c7 := Bool.eq_false_iff.mpr c7
    subst c7
    have H1 : (some false) = some r := by rw [if_neg (show ¬ (false = true) by decide)] at H; exact H
    clear H
    have H := H1
    clear H1
    obtain rfl := Option.some.inj H
    go_enter Tryz.func5, Tryz.ntmps5
    go_wp2_with (first | ((with_reducible refine gate_dst (N := 1) rfl ?_); refine box_event ?hg (N := 1) ?hd (cs := #[.bool a0_0, .string a0_1, .slice A0_2 l0_2.length c0_2, .bool a0_3, .string a0_4, .bool a0_5, .string a0_6, .bool a0_7, .string a0_8, .bool a0_9, .string a0_10, .bool a0_11, .string a0_12, .bool a0_13, .string a0_14, .slice A0_15 l0_15.length c0_15, .slice A0_16 l0_16.length c0_16]) (t := 29) ?hr ?_; (case hd => rfl); (case hg => rfl); (case hr => first | (go_simp; done) | (go_simp; rfl)); intro gb108 hg w72 hbox hb; have n0_ := Aside0.mk (below_step (by repeat (first | (with_reducible first | exact HB.out | apply below_alloc | apply pw_below_drewN | apply below_drew1) | exact HB.out)) hb); have n1_ := Aside0.mk (hbox); have n2_ := Aside0.mk ((by rw [hg]; exact (below_size (by repeat (first | (with_reducible first | exact HB.out | apply below_alloc | apply pw_below_drewN | apply below_drew1) | exact HB.out))) : w.heap.size ≤ gb108)); have n3_ := Aside0.mk ((by rw [hg]; exact (below_size (by repeat (first | (with_reducible first | exact HB.out | apply below_alloc | apply pw_below_drewN | apply below_drew1) | exact HB.out))) : w.heap.size ≤ gb108)); clear HB; have HB := n0_; have BK108 := n1_; have GW108 := n2_; have GE108 := n3_; clear n0_ n1_ n2_ n3_; clear hb hbox hg; have hcz73_0 : w72.cell? ⟨gb108, 0, none⟩ = some (.bool a0_0) := (blk_cell BK108.out 0).trans rfl; have hcz73_1 : w72.cell? ⟨gb108, 1, none⟩ = some (.string a0_1) := (blk_cell BK108.out 1).trans rfl; have hcz73_2 : w72.cell? ⟨gb108, 2, none⟩ = some (.slice A0_2 l0_2.length c0_2) := (blk_cell BK108.out 2).trans rfl; have hcz73_3 : w72.cell? ⟨gb108, 3, none⟩ = some (.bool a0_3) := (blk_cell BK108.out 3).trans rfl; have hcz73_4 : w72.cell? ⟨gb108, 4, none⟩ = some (.string a0_4) := (blk_cell BK108.out 4).trans rfl; have hcz73_5 : w72.cell? ⟨gb108, 5, none⟩ = some (.bool a0_5) := (blk_cell BK108.out 5).trans rfl; have hcz73_6 : w72.cell? ⟨gb108, 6, none⟩ = some (.string a0_6) := (blk_cell BK108.out 6).trans rfl; have hcz73_7 : w72.cell? ⟨gb108, 7, none⟩ = some (.bool a0_7) := (blk_cell BK108.out 7).trans rfl; have hcz73_8 : w72.cell? ⟨gb108, 8, none⟩ = some (.string a0_8) := (blk_cell BK108.out 8).trans rfl; have hcz73_9 : w72.cell? ⟨gb108, 9, none⟩ = some (.bool a0_9) := (blk_cell BK108.out 9).trans rfl; have hcz73_10 : w72.cell? ⟨gb108, 10, none⟩ = some (.string a0_10) := (blk_cell BK108.out 10).trans rfl; have hcz73_11 : w72.cell? ⟨gb108, 11, none⟩ = some (.bool a0_11) := (blk_cell BK108.out 11).trans rfl; have hcz73_12 : w72.cell? ⟨gb108, 12, none⟩ = some (.string a0_12) := (blk_cell BK108.out 12).trans rfl; have hcz73_13 : w72.cell? ⟨gb108, 13, none⟩ = some (.bool a0_13) := (blk_cell BK108.out 13).trans rfl; have hcz73_14 : w72.cell? ⟨gb108, 14, none⟩ = some (.string a0_14) := (blk_cell BK108.out 14).trans rfl; have hcz73_15 : w72.cell? ⟨gb108, 15, none⟩ = some (.slice A0_15 l0_15.length c0_15) := (blk_cell BK108.out 15).trans rfl; have hcz73_16 : w72.cell? ⟨gb108, 16, none⟩ = some (.slice A0_16 l0_16.length c0_16) := (blk_cell BK108.out 16).trans rfl; have hfz73_0 := blk_frozen BK108.out 0; have hfz73_1 := blk_frozen BK108.out 1; have hfz73_2 := blk_frozen BK108.out 2; have hfz73_3 := blk_frozen BK108.out 3; have hfz73_4 := blk_frozen BK108.out 4; have hfz73_5 := blk_frozen BK108.out 5; have hfz73_6 := blk_frozen BK108.out 6; have hfz73_7 := blk_frozen BK108.out 7; have hfz73_8 := blk_frozen BK108.out 8; have hfz73_9 := blk_frozen BK108.out 9; have hfz73_10 := blk_frozen BK108.out 10; have hfz73_11 := blk_frozen BK108.out 11; have hfz73_12 := blk_frozen BK108.out 12; have hfz73_13 := blk_frozen BK108.out 13; have hfz73_14 := blk_frozen BK108.out 14; have hfz73_15 := blk_frozen BK108.out 15; have hfz73_16 := blk_frozen BK108.out 16) | ((with_reducible refine gate_callee (f := 11) rfl ?_); refine goesL_ (some 5) rfl rfl Tryz.func11 (by kernel_rfl) rfl #[.agg #[.bool a0_0, .string a0_1]] rfl (by (try simp only [List.map_toArray, List.map_cons, List.map_nil]); first | done | rfl | (simp only [List.length_drop, List.length_take]; rfl)) ?_; (with_reducible refine (laws_zzFits3.calls a0_0 a0_1 true _ A2.out).mono ?_); rintro e w74 ⟨rfl, hb⟩; refine ⟨_, rfl, ?_⟩; have n0_ := Aside0.mk (blk_below (g := gb108) (o := .cells #[.bool a0_0, .string a0_1, .slice A0_2 l0_2.length c0_2, .bool a0_3, .string a0_4, .bool a0_5, .string a0_6, .bool a0_7, .string a0_8, .bool a0_9, .string a0_10, .bool a0_11, .string a0_12, .bool a0_13, .string a0_14, .slice A0_15 l0_15.length c0_15, .slice A0_16 l0_16.length c0_16] 29 (0, 0)) (by (with_reducible repeat (first | refine blk_drewN ?_ _ | refine blk_drew ?_ | refine blk_alloc ?_ _)); exact BK108.out) hb); have n1_ := Aside0.mk (below_step (by repeat (first | (with_reducible first | exact HB.out | apply below_alloc | apply pw_below_drewN | apply below_drew1 | refine below_set ?_ GE108.out) | exact HB.out)) hb); clear BK108; clear HB; have BK108 := n0_; have HB := n1_; clear n0_ n1_; (try clear hb); (try clear hb2); (try clear hk); (try clear hi); have hcz75_0 : w74.cell? ⟨gb108, 0, none⟩ = some (.bool a0_0) := (blk_cell BK108.out 0).trans rfl; have hcz75_1 : w74.cell? ⟨gb108, 1, none⟩ = some (.string a0_1) := (blk_cell BK108.out 1).trans rfl; have hcz75_2 : w74.cell? ⟨gb108, 2, none⟩ = some (.slice A0_2 l0_2.length c0_2) := (blk_cell BK108.out 2).trans rfl; have hcz75_3 : w74.cell? ⟨gb108, 3, none⟩ = some (.bool a0_3) := (blk_cell BK108.out 3).trans rfl; have hcz75_4 : w74.cell? ⟨gb108, 4, none⟩ = some (.string a0_4) := (blk_cell BK108.out 4).trans rfl; have hcz75_5 : w74.cell? ⟨gb108, 5, none⟩ = some (.bool a0_5) := (blk_cell BK108.out 5).trans rfl; have hcz75_6 : w74.cell? ⟨gb108, 6, none⟩ = some (.string a0_6) := (blk_cell BK108.out 6).trans rfl; have hcz75_7 : w74.cell? ⟨gb108, 7, none⟩ = some (.bool a0_7) := (blk_cell BK108.out 7).trans rfl; have hcz75_8 : w74.cell? ⟨gb108, 8, none⟩ = some (.string a0_8) := (blk_cell BK108.out 8).trans rfl; have hcz75_9 : w74.cell? ⟨gb108, 9, none⟩ = some (.bool a0_9) := (blk_cell BK108.out 9).trans rfl; have hcz75_10 : w74.cell? ⟨gb108, 10, none⟩ = some (.string a0_10) := (blk_cell BK108.out 10).trans rfl; have hcz75_11 : w74.cell? ⟨gb108, 11, none⟩ = some (.bool a0_11) := (blk_cell BK108.out 11).trans rfl; have hcz75_12 : w74.cell? ⟨gb108, 12, none⟩ = some (.string a0_12) := (blk_cell BK108.out 12).trans rfl; have hcz75_13 : w74.cell? ⟨gb108, 13, none⟩ = some (.bool a0_13) := (blk_cell BK108.out 13).trans rfl; have hcz75_14 : w74.cell? ⟨gb108, 14, none⟩ = some (.string a0_14) := (blk_cell BK108.out 14).trans rfl; have hcz75_15 : w74.cell? ⟨gb108, 15, none⟩ = some (.slice A0_15 l0_15.length c0_15) := (blk_cell BK108.out 15).trans rfl; have hcz75_16 : w74.cell? ⟨gb108, 16, none⟩ = some (.slice A0_16 l0_16.length c0_16) := (blk_cell BK108.out 16).trans rfl; have hfz75_0 := blk_frozen BK108.out 0; have hfz75_1 := blk_frozen BK108.out 1; have hfz75_2 := blk_frozen BK108.out 2; have hfz75_3 := blk_frozen BK108.out 3; have hfz75_4 := blk_frozen BK108.out 4; have hfz75_5 := blk_frozen BK108.out 5; have hfz75_6 := blk_frozen BK108.out 6; have hfz75_7 := blk_frozen BK108.out 7; have hfz75_8 := blk_frozen BK108.out 8; have hfz75_9 := blk_frozen BK108.out 9; have hfz75_10 := blk_frozen BK108.out 10; have hfz75_11 := blk_frozen BK108.out 11; have hfz75_12 := blk_frozen BK108.out 12; have hfz75_13 := blk_frozen BK108.out 13; have hfz75_14 := blk_frozen BK108.out 14; have hfz75_15 := blk_frozen BK108.out 15; have hfz75_16 := blk_frozen BK108.out 16) | ((with_reducible refine gate_callee (f := 12) rfl ?_); refine goesL_ (some 9) rfl rfl Tryz.func12 (by kernel_rfl) rfl #[.slice A0_2 l0_2.length c0_2] rfl (by (try simp only [List.map_toArray, List.map_cons, List.map_nil]); first | done | rfl | (simp only [List.length_drop, List.length_take]; rfl)) ?_; (with_reducible refine (laws_zzFits2.calls k _ _ l0_2 true _ ?side1 ?side2 A4.out).mono ?_); (case side1 => repeat (first | exact (Kd.C_below HR0_2.out HB.out) | (with_reducible refine Kd.C_alloc ?_ _) | (with_reducible refine Kd.C_drewN ?_ _) | (with_reducible refine Kd.C_drew ?_))); (case side2 => exact HC0_2.out); rintro e w76 ⟨rfl, hb⟩; refine ⟨_, rfl, ?_⟩; have n0_ := Aside0.mk (blk_below (g := gb108) (o := .cells #[.bool a0_0, .string a0_1, .slice A0_2 l0_2.length c0_2, .bool a0_3, .string a0_4, .bool a0_5, .string a0_6, .bool a0_7, .string a0_8, .bool a0_9, .string a0_10, .bool a0_11, .string a0_12, .bool a0_13, .string a0_14, .slice A0_15 l0_15.length c0_15, .slice A0_16 l0_16.length c0_16] 29 (0, 0)) (by (with_reducible repeat (first | refine blk_drewN ?_ _ | refine blk_drew ?_ | refine blk_alloc ?_ _)); exact BK108.out) hb); have n1_ := Aside0.mk (below_step (by repeat (first | (with_reducible first | exact HB.out | apply below_alloc | apply pw_below_drewN | apply below_drew1 | refine below_set ?_ GE108.out) | exact HB.out)) hb); clear BK108; clear HB; have BK108 := n0_; have HB := n1_; clear n0_ n1_; (try clear hb); (try clear hb2); (try clear hk); (try clear hi); have hcz77_0 : w76.cell? ⟨gb108, 0, none⟩ = some (.bool a0_0) := (blk_cell BK108.out 0).trans rfl; have hcz77_1 : w76.cell? ⟨gb108, 1, none⟩ = some (.string a0_1) := (blk_cell BK108.out 1).trans rfl; have hcz77_2 : w76.cell? ⟨gb108, 2, none⟩ = some (.slice A0_2 l0_2.length c0_2) := (blk_cell BK108.out 2).trans rfl; have hcz77_3 : w76.cell? ⟨gb108, 3, none⟩ = some (.bool a0_3) := (blk_cell BK108.out 3).trans rfl; have hcz77_4 : w76.cell? ⟨gb108, 4, none⟩ = some (.string a0_4) := (blk_cell BK108.out 4).trans rfl; have hcz77_5 : w76.cell? ⟨gb108, 5, none⟩ = some (.bool a0_5) := (blk_cell BK108.out 5).trans rfl; have hcz77_6 : w76.cell? ⟨gb108, 6, none⟩ = some (.string a0_6) := (blk_cell BK108.out 6).trans rfl; have hcz77_7 : w76.cell? ⟨gb108, 7, none⟩ = some (.bool a0_7) := (blk_cell BK108.out 7).trans rfl; have hcz77_8 : w76.cell? ⟨gb108, 8, none⟩ = some (.string a0_8) := (blk_cell BK108.out 8).trans rfl; have hcz77_9 : w76.cell? ⟨gb108, 9, none⟩ = some (.bool a0_9) := (blk_cell BK108.out 9).trans rfl; have hcz77_10 : w76.cell? ⟨gb108, 10, none⟩ = some (.string a0_10) := (blk_cell BK108.out 10).trans rfl; have hcz77_11 : w76.cell? ⟨gb108, 11, none⟩ = some (.bool a0_11) := (blk_cell BK108.out 11).trans rfl; have hcz77_12 : w76.cell? ⟨gb108, 12, none⟩ = some (.string a0_12) := (blk_cell BK108.out 12).trans rfl; have hcz77_13 : w76.cell? ⟨gb108, 13, none⟩ = some (.bool a0_13) := (blk_cell BK108.out 13).trans rfl; have hcz77_14 : w76.cell? ⟨gb108, 14, none⟩ = some (.string a0_14) := (blk_cell BK108.out 14).trans rfl; have hcz77_15 : w76.cell? ⟨gb108, 15, none⟩ = some (.slice A0_15 l0_15.length c0_15) := (blk_cell BK108.out 15).trans rfl; have hcz77_16 : w76.cell? ⟨gb108, 16, none⟩ = some (.slice A0_16 l0_16.length c0_16) := (blk_cell BK108.out 16).trans rfl; have hfz77_0 := blk_frozen BK108.out 0; have hfz77_1 := blk_frozen BK108.out 1; have hfz77_2 := blk_frozen BK108.out 2; have hfz77_3 := blk_frozen BK108.out 3; have hfz77_4 := blk_frozen BK108.out 4; have hfz77_5 := blk_frozen BK108.out 5; have hfz77_6 := blk_frozen BK108.out 6; have hfz77_7 := blk_frozen BK108.out 7; have hfz77_8 := blk_frozen BK108.out 8; have hfz77_9 := blk_frozen BK108.out 9; have hfz77_10 := blk_frozen BK108.out 10; have hfz77_11 := blk_frozen BK108.out 11; have hfz77_12 := blk_frozen BK108.out 12; have hfz77_13 := blk_frozen BK108.out 13; have hfz77_14 := blk_frozen BK108.out 14; have hfz77_15 := blk_frozen BK108.out 15; have hfz77_16 := blk_frozen BK108.out 16) | ((with_reducible refine gate_callee (f := 13) rfl ?_); refine goesL_ (some 13) rfl rfl Tryz.func13 (by kernel_rfl) rfl #[.agg #[.bool a0_3, .string a0_4, .bool a0_5, .string a0_6]] rfl (by (try simp only [List.map_toArray, List.map_cons, List.map_nil]); first | done | rfl | (simp only [List.length_drop, List.length_take]; rfl)) ?_; (with_reducible refine (laws_zzFits13.calls a0_3 a0_4 a0_5 a0_6 false _ A6.out).mono ?_); rintro e w78 ⟨rfl, hb⟩; refine ⟨_, rfl, ?_⟩; have n0_ := Aside0.mk (blk_below (g := gb108) (o := .cells #[.bool a0_0, .string a0_1, .slice A0_2 l0_2.length c0_2, .bool a0_3, .string a0_4, .bool a0_5, .string a0_6, .bool a0_7, .string a0_8, .bool a0_9, .string a0_10, .bool a0_11, .string a0_12, .bool a0_13, .string a0_14, .slice A0_15 l0_15.length c0_15, .slice A0_16 l0_16.length c0_16] 29 (0, 0)) (by (with_reducible repeat (first | refine blk_drewN ?_ _ | refine blk_drew ?_ | refine blk_alloc ?_ _)); exact BK108.out) hb); have n1_ := Aside0.mk (below_step (by repeat (first | (with_reducible first | exact HB.out | apply below_alloc | apply pw_below_drewN | apply below_drew1 | refine below_set ?_ GE108.out) | exact HB.out)) hb); clear BK108; clear HB; have BK108 := n0_; have HB := n1_; clear n0_ n1_; (try clear hb); (try clear hb2); (try clear hk); (try clear hi)))
    go_ret
    exact ⟨by first | rfl | (simp [errW_none, errW_some] <;> rfl) | (simp [*, errW_none, errW_some] <;> rfl), by repeat (first | (with_reducible first | exact HB.out | apply below_alloc | apply pw_below_drewN | apply below_drew1 | refine below_set ?_ GE108.out) | exact HB.out)⟩
  case' n_c5 =>
   replace c5 := Bool.eq_false_iff.mpr c5
   subst c5
   have H1 : (some false) = some r := by rw [if_neg (show ¬ (false = true) by decide)] at H; exact H
   clear H
   have H := H1
   clear H1
   obtain rfl := Option.some.inj H
   go_enter Tryz.func5, Tryz.ntmps5
   go_wp2_with (first | ((with_reducible refine gate_dst (N := 1) rfl ?_); refine box_event ?hg (N := 1) ?hd (cs := #[.bool a0_0, .string a0_1, .slice A0_2 l0_2.length c0_2, .bool a0_3, .string a0_4, .bool a0_5, .string a0_6, .bool a0_7, .string a0_8, .bool a0_9, .string a0_10, .bool a0_11, .string a0_12, .bool a0_13, .string a0_14, .slice A0_15 l0_15.length c0_15, .slice A0_16 l0_16.length c0_16]) (t := 29) ?hr ?_; (case hd => rfl); (case hg => rfl); (case hr => first | (go_simp; done) | (go_simp; rfl)); intro gb108 hg w79 hbox hb; have n0_ := Aside0.mk (below_step (by repeat (first | (with_reducible first | exact HB.out | apply below_alloc | apply pw_below_drewN | apply below_drew1) | exact HB.out)) hb); have n1_ := Aside0.mk (hbox); have n2_ := Aside0.mk ((by rw [hg]; exact (below_size (by repeat (first | (with_reducible first | exact HB.out | apply below_alloc | apply pw_below_drewN | apply below_drew1) | exact HB.out))) : w.heap.size ≤ gb108)); have n3_ := Aside0.mk ((by rw [hg]; exact (below_size (by repeat (first | (with_reducible first | exact HB.out | apply below_alloc | apply pw_below_drewN | apply below_drew1) | exact HB.out))) : w.heap.size ≤ gb108)); clear HB; have HB := n0_; have BK108 := n1_; have GW108 := n2_; have GE108 := n3_; clear n0_ n1_ n2_ n3_; clear hb hbox hg; have hcz80_0 : w79.cell? ⟨gb108, 0, none⟩ = some (.bool a0_0) := (blk_cell BK108.out 0).trans rfl; have hcz80_1 : w79.cell? ⟨gb108, 1, none⟩ = some (.string a0_1) := (blk_cell BK108.out 1).trans rfl; have hcz80_2 : w79.cell? ⟨gb108, 2, none⟩ = some (.slice A0_2 l0_2.length c0_2) := (blk_cell BK108.out 2).trans rfl; have hcz80_3 : w79.cell? ⟨gb108, 3, none⟩ = some (.bool a0_3) := (blk_cell BK108.out 3).trans rfl; have hcz80_4 : w79.cell? ⟨gb108, 4, none⟩ = some (.string a0_4) := (blk_cell BK108.out 4).trans rfl; have hcz80_5 : w79.cell? ⟨gb108, 5, none⟩ = some (.bool a0_5) := (blk_cell BK108.out 5).trans rfl; have hcz80_6 : w79.cell? ⟨gb108, 6, none⟩ = some (.string a0_6) := (blk_cell BK108.out 6).trans rfl; have hcz80_7 : w79.cell? ⟨gb108, 7, none⟩ = some (.bool a0_7) := (blk_cell BK108.out 7).trans rfl; have hcz80_8 : w79.cell? ⟨gb108, 8, none⟩ = some (.string a0_8) := (blk_cell BK108.out 8).trans rfl; have hcz80_9 : w79.cell? ⟨gb108, 9, none⟩ = some (.bool a0_9) := (blk_cell BK108.out 9).trans rfl; have hcz80_10 : w79.cell? ⟨gb108, 10, none⟩ = some (.string a0_10) := (blk_cell BK108.out 10).trans rfl; have hcz80_11 : w79.cell? ⟨gb108, 11, none⟩ = some (.bool a0_11) := (blk_cell BK108.out 11).trans rfl; have hcz80_12 : w79.cell? ⟨gb108, 12, none⟩ = some (.string a0_12) := (blk_cell BK108.out 12).trans rfl; have hcz80_13 : w79.cell? ⟨gb108, 13, none⟩ = some (.bool a0_13) := (blk_cell BK108.out 13).trans rfl; have hcz80_14 : w79.cell? ⟨gb108, 14, none⟩ = some (.string a0_14) := (blk_cell BK108.out 14).trans rfl; have hcz80_15 : w79.cell? ⟨gb108, 15, none⟩ = some (.slice A0_15 l0_15.length c0_15) := (blk_cell BK108.out 15).trans rfl; have hcz80_16 : w79.cell? ⟨gb108, 16, none⟩ = some (.slice A0_16 l0_16.length c0_16) := (blk_cell BK108.out 16).trans rfl; have hfz80_0 := blk_frozen BK108.out 0; have hfz80_1 := blk_frozen BK108.out 1; have hfz80_2 := blk_frozen BK108.out 2; have hfz80_3 := blk_frozen BK108.out 3; have hfz80_4 := blk_frozen BK108.out 4; have hfz80_5 := blk_frozen BK108.out 5; have hfz80_6 := blk_frozen BK108.out 6; have hfz80_7 := blk_frozen BK108.out 7; have hfz80_8 := blk_frozen BK108.out 8; have hfz80_9 := blk_frozen BK108.out 9; have hfz80_10 := blk_frozen BK108.out 10; have hfz80_11 := blk_frozen BK108.out 11; have hfz80_12 := blk_frozen BK108.out 12; have hfz80_13 := blk_frozen BK108.out 13; have hfz80_14 := blk_frozen BK108.out 14; have hfz80_15 := blk_frozen BK108.out 15; have hfz80_16 := blk_frozen BK108.out 16) | ((with_reducible refine gate_callee (f := 11) rfl ?_); refine goesL_ (some 5) rfl rfl Tryz.func11 (by kernel_rfl) rfl #[.agg #[.bool a0_0, .string a0_1]] rfl (by (try simp only [List.map_toArray, List.map_cons, List.map_nil]); first | done | rfl | (simp only [List.length_drop, List.length_take]; rfl)) ?_; (with_reducible refine (laws_zzFits3.calls a0_0 a0_1 true _ A2.out).mono ?_); rintro e w81 ⟨rfl, hb⟩; refine ⟨_, rfl, ?_⟩; have n0_ := Aside0.mk (blk_below (g := gb108) (o := .cells #[.bool a0_0, .string a0_1, .slice A0_2 l0_2.length c0_2, .bool a0_3, .string a0_4, .bool a0_5, .string a0_6, .bool a0_7, .string a0_8, .bool a0_9, .string a0_10, .bool a0_11, .string a0_12, .bool a0_13, .string a0_14, .slice A0_15 l0_15.length c0_15, .slice A0_16 l0_16.length c0_16] 29 (0, 0)) (by (with_reducible repeat (first | refine blk_drewN ?_ _ | refine blk_drew ?_ | refine blk_alloc ?_ _)); exact BK108.out) hb); have n1_ := Aside0.mk (below_step (by repeat (first | (with_reducible first | exact HB.out | apply below_alloc | apply pw_below_drewN | apply below_drew1 | refine below_set ?_ GE108.out) | exact HB.out)) hb); clear BK108; clear HB; have BK108 := n0_; have HB := n1_; clear n0_ n1_; (try clear hb); (try clear hb2); (try clear hk); (try clear hi); have hcz82_0 : w81.cell? ⟨gb108, 0, none⟩ = some (.bool a0_0) := (blk_cell BK108.out 0).trans rfl; have hcz82_1 : w81.cell? ⟨gb108, 1, none⟩ = some (.string a0_1) := (blk_cell BK108.out 1).trans rfl; have hcz82_2 : w81.cell? ⟨gb108, 2, none⟩ = some (.slice A0_2 l0_2.length c0_2) := (blk_cell BK108.out 2).trans rfl; have hcz82_3 : w81.cell? ⟨gb108, 3, none⟩ = some (.bool a0_3) := (blk_cell BK108.out 3).trans rfl; have hcz82_4 : w81.cell? ⟨gb108, 4, none⟩ = some (.string a0_4) := (blk_cell BK108.out 4).trans rfl; have hcz82_5 : w81.cell? ⟨gb108, 5, none⟩ = some (.bool a0_5) := (blk_cell BK108.out 5).trans rfl; have hcz82_6 : w81.cell? ⟨gb108, 6, none⟩ = some (.string a0_6) := (blk_cell BK108.out 6).trans rfl; have hcz82_7 : w81.cell? ⟨gb108, 7, none⟩ = some (.bool a0_7) := (blk_cell BK108.out 7).trans rfl; have hcz82_8 : w81.cell? ⟨gb108, 8, none⟩ = some (.string a0_8) := (blk_cell BK108.out 8).trans rfl; have hcz82_9 : w81.cell? ⟨gb108, 9, none⟩ = some (.bool a0_9) := (blk_cell BK108.out 9).trans rfl; have hcz82_10 : w81.cell? ⟨gb108, 10, none⟩ = some (.string a0_10) := (blk_cell BK108.out 10).trans rfl; have hcz82_11 : w81.cell? ⟨gb108, 11, none⟩ = some (.bool a0_11) := (blk_cell BK108.out 11).trans rfl; have hcz82_12 : w81.cell? ⟨gb108, 12, none⟩ = some (.string a0_12) := (blk_cell BK108.out 12).trans rfl; have hcz82_13 : w81.cell? ⟨gb108, 13, none⟩ = some (.bool a0_13) := (blk_cell BK108.out 13).trans rfl; have hcz82_14 : w81.cell? ⟨gb108, 14, none⟩ = some (.string a0_14) := (blk_cell BK108.out 14).trans rfl; have hcz82_15 : w81.cell? ⟨gb108, 15, none⟩ = some (.slice A0_15 l0_15.length c0_15) := (blk_cell BK108.out 15).trans rfl; have hcz82_16 : w81.cell? ⟨gb108, 16, none⟩ = some (.slice A0_16 l0_16.length c0_16) := (blk_cell BK108.out 16).trans rfl; have hfz82_0 := blk_frozen BK108.out 0; have hfz82_1 := blk_frozen BK108.out 1; have hfz82_2 := blk_frozen BK108.out 2; have hfz82_3 := blk_frozen BK108.out 3; have hfz82_4 := blk_frozen BK108.out 4; have hfz82_5 := blk_frozen BK108.out 5; have hfz82_6 := blk_frozen BK108.out 6; have hfz82_7 := blk_frozen BK108.out 7; have hfz82_8 := blk_frozen BK108.out 8; have hfz82_9 := blk_frozen BK108.out 9; have hfz82_10 := blk_frozen BK108.out 10; have hfz82_11 := blk_frozen BK108.out 11; have hfz82_12 := blk_frozen BK108.out 12; have hfz82_13 := blk_frozen BK108.out 13; have hfz82_14 := blk_frozen BK108.out 14; have hfz82_15 := blk_frozen BK108.out 15; have hfz82_16 := blk_frozen BK108.out 16) | ((with_reducible refine gate_callee (f := 12) rfl ?_); refine goesL_ (some 9) rfl rfl Tryz.func12 (by kernel_rfl) rfl #[.slice A0_2 l0_2.length c0_2] rfl (by (try simp only [List.map_toArray, List.map_cons, List.map_nil]); first | done | rfl | (simp only [List.length_drop, List.length_take]; rfl)) ?_; (with_reducible refine (laws_zzFits2.calls k _ _ l0_2 false _ ?side1 ?side2 A4.out).mono ?_); (case side1 => repeat (first | exact (Kd.C_below HR0_2.out HB.out) | (with_reducible refine Kd.C_alloc ?_ _) | (with_reducible refine Kd.C_drewN ?_ _) | (with_reducible refine Kd.C_drew ?_))); (case side2 => exact HC0_2.out); rintro e w83 ⟨rfl, hb⟩; refine ⟨_, rfl, ?_⟩; have n0_ := Aside0.mk (blk_below (g := gb108) (o := .cells #[.bool a0_0, .string a0_1, .slice A0_2 l0_2.length c0_2, .bool a0_3, .string a0_4, .bool a0_5, .string a0_6, .bool a0_7, .string a0_8, .bool a0_9, .string a0_10, .bool a0_11, .string a0_12, .bool a0_13, .string a0_14, .slice A0_15 l0_15.length c0_15, .slice A0_16 l0_16.length c0_16] 29 (0, 0)) (by (with_reducible repeat (first | refine blk_drewN ?_ _ | refine blk_drew ?_ | refine blk_alloc ?_ _)); exact BK108.out) hb); have n1_ := Aside0.mk (below_step (by repeat (first | (with_reducible first | exact HB.out | apply below_alloc | apply pw_below_drewN | apply below_drew1 | refine below_set ?_ GE108.out) | exact HB.out)) hb); clear BK108; clear HB; have BK108 := n0_; have HB := n1_; clear n0_ n1_; (try clear hb); (try clear hb2); (try clear hk); (try clear hi)))
   go_ret
   exact ⟨by first | rfl | (simp [errW_none, errW_some] <;> rfl) | (simp [*, errW_none, errW_some] <;> rfl), by repeat (first | (with_reducible first | exact HB.out | apply below_alloc | apply pw_below_drewN | apply below_drew1 | refine below_set ?_ GE108.out) | exact HB.out)⟩
 case' n_c3 =>
  replace c3 := Bool.eq_false_iff.mpr c3
  subst c3
  have H1 : (some false) = some r := by rw [if_neg (show ¬ (false = true) by decide)] at H; exact H
  clear H
  have H := H1
  clear H1
  obtain rfl := Option.some.inj H
  go_enter Tryz.func5, Tryz.ntmps5
  go_wp2_with (first | ((with_reducible refine gate_dst (N := 1) rfl ?_); refine box_event ?hg (N := 1) ?hd (cs := #[.bool a0_0, .string a0_1, .slice A0_2 l0_2.length c0_2, .bool a0_3, .string a0_4, .bool a0_5, .string a0_6, .bool a0_7, .string a0_8, .bool a0_9, .string a0_10, .bool a0_11, .string a0_12, .bool a0_13, .string a0_14, .slice A0_15 l0_15.length c0_15, .slice A0_16 l0_16.length c0_16]) (t := 29) ?hr ?_; (case hd => rfl); (case hg => rfl); (case hr => first | (go_simp; done) | (go_simp; rfl)); intro gb108 hg w84 hbox hb; have n0_ := Aside0.mk (below_step (by repeat (first | (with_reducible first | exact HB.out | apply below_alloc | apply pw_below_drewN | apply below_drew1) | exact HB.out)) hb); have n1_ := Aside0.mk (hbox); have n2_ := Aside0.mk ((by rw [hg]; exact (below_size (by repeat (first | (with_reducible first | exact HB.out | apply below_alloc | apply pw_below_drewN | apply below_drew1) | exact HB.out))) : w.heap.size ≤ gb108)); have n3_ := Aside0.mk ((by rw [hg]; exact (below_size (by repeat (first | (with_reducible first | exact HB.out | apply below_alloc | apply pw_below_drewN | apply below_drew1) | exact HB.out))) : w.heap.size ≤ gb108)); clear HB; have HB := n0_; have BK108 := n1_; have GW108 := n2_; have GE108 := n3_; clear n0_ n1_ n2_ n3_; clear hb hbox hg; have hcz85_0 : w84.cell? ⟨gb108, 0, none⟩ = some (.bool a0_0) := (blk_cell BK108.out 0).trans rfl; have hcz85_1 : w84.cell? ⟨gb108, 1, none⟩ = some (.string a0_1) := (blk_cell BK108.out 1).trans rfl; have hcz85_2 : w84.cell? ⟨gb108, 2, none⟩ = some (.slice A0_2 l0_2.length c0_2) := (blk_cell BK108.out 2).trans rfl; have hcz85_3 : w84.cell? ⟨gb108, 3, none⟩ = some (.bool a0_3) := (blk_cell BK108.out 3).trans rfl; have hcz85_4 : w84.cell? ⟨gb108, 4, none⟩ = some (.string a0_4) := (blk_cell BK108.out 4).trans rfl; have hcz85_5 : w84.cell? ⟨gb108, 5, none⟩ = some (.bool a0_5) := (blk_cell BK108.out 5).trans rfl; have hcz85_6 : w84.cell? ⟨gb108, 6, none⟩ = some (.string a0_6) := (blk_cell BK108.out 6).trans rfl; have hcz85_7 : w84.cell? ⟨gb108, 7, none⟩ = some (.bool a0_7) := (blk_cell BK108.out 7).trans rfl; have hcz85_8 : w84.cell? ⟨gb108, 8, none⟩ = some (.string a0_8) := (blk_cell BK108.out 8).trans rfl; have hcz85_9 : w84.cell? ⟨gb108, 9, none⟩ = some (.bool a0_9) := (blk_cell BK108.out 9).trans rfl; have hcz85_10 : w84.cell? ⟨gb108, 10, none⟩ = some (.string a0_10) := (blk_cell BK108.out 10).trans rfl; have hcz85_11 : w84.cell? ⟨gb108, 11, none⟩ = some (.bool a0_11) := (blk_cell BK108.out 11).trans rfl; have hcz85_12 : w84.cell? ⟨gb108, 12, none⟩ = some (.string a0_12) := (blk_cell BK108.out 12).trans rfl; have hcz85_13 : w84.cell? ⟨gb108, 13, none⟩ = some (.bool a0_13) := (blk_cell BK108.out 13).trans rfl; have hcz85_14 : w84.cell? ⟨gb108, 14, none⟩ = some (.string a0_14) := (blk_cell BK108.out 14).trans rfl; have hcz85_15 : w84.cell? ⟨gb108, 15, none⟩ = some (.slice A0_15 l0_15.length c0_15) := (blk_cell BK108.out 15).trans rfl; have hcz85_16 : w84.cell? ⟨gb108, 16, none⟩ = some (.slice A0_16 l0_16.length c0_16) := (blk_cell BK108.out 16).trans rfl; have hfz85_0 := blk_frozen BK108.out 0; have hfz85_1 := blk_frozen BK108.out 1; have hfz85_2 := blk_frozen BK108.out 2; have hfz85_3 := blk_frozen BK108.out 3; have hfz85_4 := blk_frozen BK108.out 4; have hfz85_5 := blk_frozen BK108.out 5; have hfz85_6 := blk_frozen BK108.out 6; have hfz85_7 := blk_frozen BK108.out 7; have hfz85_8 := blk_frozen BK108.out 8; have hfz85_9 := blk_frozen BK108.out 9; have hfz85_10 := blk_frozen BK108.out 10; have hfz85_11 := blk_frozen BK108.out 11; have hfz85_12 := blk_frozen BK108.out 12; have hfz85_13 := blk_frozen BK108.out 13; have hfz85_14 := blk_frozen BK108.out 14; have hfz85_15 := blk_frozen BK108.out 15; have hfz85_16 := blk_frozen BK108.out 16) | ((with_reducible refine gate_callee (f := 11) rfl ?_); refine goesL_ (some 5) rfl rfl Tryz.func11 (by kernel_rfl) rfl #[.agg #[.bool a0_0, .string a0_1]] rfl (by (try simp only [List.map_toArray, List.map_cons, List.map_nil]); first | done | rfl | (simp only [List.length_drop, List.length_take]; rfl)) ?_; (with_reducible refine (laws_zzFits3.calls a0_0 a0_1 false _ A2.out).mono ?_); rintro e w86 ⟨rfl, hb⟩; refine ⟨_, rfl, ?_⟩; have n0_ := Aside0.mk (blk_below (g := gb108) (o := .cells #[.bool a0_0, .string a0_1, .slice A0_2 l0_2.length c0_2, .bool a0_3, .string a0_4, .bool a0_5, .string a0_6, .bool a0_7, .string a0_8, .bool a0_9, .string a0_10, .bool a0_11, .string a0_12, .bool a0_13, .string a0_14, .slice A0_15 l0_15.length c0_15, .slice A0_16 l0_16.length c0_16] 29 (0, 0)) (by (with_reducible repeat (first | refine blk_drewN ?_ _ | refine blk_drew ?_ | refine blk_alloc ?_ _)); exact BK108.out) hb); have n1_ := Aside0.mk (below_step (by repeat (first | (with_reducible first | exact HB.out | apply below_alloc | apply pw_below_drewN | apply below_drew1 | refine below_set ?_ GE108.out) | exact HB.out)) hb); clear BK108; clear HB; have BK108 := n0_; have HB := n1_; clear n0_ n1_; (try clear hb); (try clear hb2); (try clear hk); (try clear hi)))
  go_ret
  exact ⟨by first | rfl | (simp [errW_none, errW_some] <;> rfl) | (simp [*, errW_none, errW_some] <;> rfl), by repeat (first | (with_reducible first | exact HB.out | apply below_alloc | apply pw_below_drewN | apply below_drew1 | refine below_set ?_ GE108.out) | exact HB.out)⟩

/-! ### spec_numTidy: function 40 -/
def spec_numTidy.l0 : Nat → Bool → ByteArray → Option (Bool × ByteArray)
 | 0, _, _ => none
 | k + 1, x117000, x117001 => if (x117001.size : Int) > 0 then (if 0 < (x117001.size : Int) then (if (bt x117001 0) = 0 then (if 1 ≤ (x117001.size : Int) then (spec_numTidy.l0 k x117000 (x117001.extract 1 x117001.size)) else (none)) else (if x117000 = true then (some (!(x117001.toList.isEmpty), x117001)) else (some (false, x117001)))) else (none)) else (if x117000 = true then (some (!(x117001.toList.isEmpty), x117001)) else (some (false, x117001)))
def spec_numTidy.f (k : Nat) (a0_0 : Bool) (a0_1 : ByteArray) : Option (Bool × ByteArray) := spec_numTidy.l0 k a0_0 a0_1
theorem spec_numTidy.mono_l : ∀ k, (∀ y0 y1, LeO (spec_numTidy.l0 k y0 y1) (spec_numTidy.l0 (k + 1) y0 y1))
 | 0 => fun _ _ r h => by simp [spec_numTidy.l0] at h
 | k + 1 => by
  have ih0 := spec_numTidy.mono_l k
  ·intro y0 y1
   unfold spec_numTidy.l0
   repeat' first
   | (with_reducible exact ih0 _ _)
   | (with_reducible exact LeO.refl _)
   | (with_reducible exact LeO.none _)
   | (with_reducible refine LeO.ite ?_ ?_)
   | (with_reducible refine LeO.bind ?_ (fun _ => ?_))
   | exact ih0 _ _
   | exact LeO.none _
   | refine LeO.ite ?_ ?_
   | refine LeO.bind ?_ (fun _ => ?_)
theorem spec_numTidy.mono : ∀ a0 a1 k, LeO (spec_numTidy.f k a0 a1) (spec_numTidy.f (k + 1) a0 a1) := by
 intro a0 a1 k
 have ih0 := spec_numTidy.mono_l k
 unfold spec_numTidy.f
 repeat' first
   | (with_reducible exact ih0 _ _)
   | (with_reducible exact LeO.refl _)
   | (with_reducible exact LeO.none _)
   | (with_reducible refine LeO.ite ?_ ?_)
   | (with_reducible refine LeO.bind ?_ (fun _ => ?_))
   | exact ih0 _ _
   | exact LeO.none _
   | refine LeO.ite ?_ ?_
   | refine LeO.bind ?_ (fun _ => ?_)
set_option maxHeartbeats 8000000 in
set_option maxRecDepth 100000 in
theorem spec_numTidy.calls (k : Nat) (a0_0 : Bool) (a0_1 : ByteArray) (r1 : Bool) (r2 : ByteArray) (w : World) (h : spec_numTidy.f k a0_0 a0_1 = some (r1, r2)) :
  Calls Tryz.prog 40 #[.agg #[.bool a0_0, .string a0_1]] w fun e w' => e = .returned (.agg #[.bool r1, .string r2]) ∧ Below w.heap.size w w' := by
 have hu23 := Tryz.underlying23
 have HB := Aside0.mk (Below.refl w.heap.size w)
 have H : (spec_numTidy.l0 k a0_0 a0_1) = some (r1, r2) := h
 clear h
 have H' := Aside0.mk H
 clear H
 go_enter Tryz.func40, Tryz.ntmps40
 go_wp2_with (first | ((with_reducible refine gate_dst (N := 1) rfl ?_); refine box_event ?hg (N := 1) ?hd (cs := #[.bool a0_0, .string a0_1]) (t := 23) ?hr ?_; (case hd => rfl); (case hg => rfl); (case hr => first | (go_simp; done) | (go_simp; rfl)); intro gb116 hg w2 hbox hb; have n0_ := Aside0.mk (below_step (by repeat (first | (with_reducible first | exact HB.out | apply below_alloc | apply pw_below_drewN | apply below_drew1) | exact HB.out)) hb); have n1_ := Aside0.mk (hbox); have n2_ := Aside0.mk ((by rw [hg]; exact (below_size (by repeat (first | (with_reducible first | exact HB.out | apply below_alloc | apply pw_below_drewN | apply below_drew1) | exact HB.out))) : w.heap.size ≤ gb116)); have n3_ := Aside0.mk ((by rw [hg]; exact (below_size (by repeat (first | (with_reducible first | exact HB.out | apply below_alloc | apply pw_below_drewN | apply below_drew1) | exact HB.out))) : w.heap.size ≤ gb116)); clear HB; have HB := n0_; have BK116 := n1_; have GW116 := n2_; have GE116 := n3_; clear n0_ n1_ n2_ n3_; clear hb hbox hg) | ((with_reducible refine gate_dst (N := 2) rfl ?_); refine box_event ?hg (N := 2) ?hd (cs := #[.bool false, .string (⟨#[]⟩ : ByteArray)]) (t := 23) ?hr ?_; (case hd => rfl); (case hg => rfl); (case hr => first | (go_simp; done) | (go_simp; rfl)); intro gb117 hg w3 hbox hb; have n0_ := Aside0.mk (blk_below (g := gb116) (o := .cells #[.bool a0_0, .string a0_1] 23 (0, 0)) (by (with_reducible repeat (first | refine blk_drewN ?_ _ | refine blk_drew ?_ | refine blk_alloc ?_ _)); exact BK116.out) hb); have n1_ := Aside0.mk (below_step (by repeat (first | (with_reducible first | exact HB.out | apply below_alloc | apply pw_below_drewN | apply below_drew1 | refine below_set ?_ GE116.out) | exact HB.out)) hb); have n2_ := Aside0.mk (hbox); have n3_ := Aside0.mk ((by rw [hg]; exact (below_size (by repeat (first | (with_reducible first | exact HB.out | apply below_alloc | apply pw_below_drewN | apply below_drew1 | refine below_set ?_ GE116.out) | exact HB.out))) : w.heap.size ≤ gb117)); have n4_ := Aside0.mk ((by rw [hg]; exact (below_size (by repeat (first | (with_reducible first | exact HB.out | apply below_alloc | apply pw_below_drewN | apply below_drew1 | refine below_set ?_ GE116.out) | exact HB.out))) : w.heap.size ≤ gb117)); have n5_ := Aside0.mk ((by rw [hg]; exact Nat.ne_of_lt (blk_lt (g := gb116) (o := .cells #[.bool a0_0, .string a0_1] 23 (0, 0)) (by (with_reducible repeat (first | refine blk_drewN ?_ _ | refine blk_drew ?_ | refine blk_alloc ?_ _)); exact BK116.out)) : gb116 ≠ gb117)); have n6_ := Aside0.mk ((by rw [hg]; exact Nat.ne_of_gt (blk_lt (g := gb116) (o := .cells #[.bool a0_0, .string a0_1] 23 (0, 0)) (by (with_reducible repeat (first | refine blk_drewN ?_ _ | refine blk_drew ?_ | refine blk_alloc ?_ _)); exact BK116.out)) : gb117 ≠ gb116)); clear BK116; clear HB; have BK116 := n0_; have HB := n1_; have BK117 := n2_; have GW117 := n3_; have GE117 := n4_; have NB116_117 := n5_; have NB117_116 := n6_; clear n0_ n1_ n2_ n3_ n4_ n5_ n6_; clear hb hbox hg))
 (try go_simp)
 go_loopg [] k (fun kq w' => ∃ (x117001_1 : ByteArray), Aside0 (spec_numTidy.l0 kq a0_0 x117001_1 = some (r1, r2)) ∧ Aside0 (kq ≤ k) ∧ Aside0 (w'.heap[gb116]? = some (.cells #[.bool a0_0, .string x117001_1] 23 (0, 0))) ∧ Aside0 (w'.heap[gb117]? = some (.cells #[.bool false, .string (⟨#[]⟩ : ByteArray)] 23 (0, 0))) ∧ Aside0 (Below w.heap.size w w'))
 case atStart => exact ⟨(a0_1), H', ⟨Nat.le_refl _⟩, ⟨by (with_reducible repeat (first | refine blk_drewN ?_ _ | refine blk_drew ?_ | refine blk_alloc ?_ _)); exact BK116.out⟩, ⟨by (with_reducible repeat (first | refine blk_drewN ?_ _ | refine blk_drew ?_ | refine blk_alloc ?_ _)); exact BK117.out⟩, ⟨by repeat (first | (with_reducible first | exact HB.out | apply below_alloc | apply pw_below_drewN | apply below_drew1 | refine below_set ?_ GE116.out | refine below_set ?_ GE117.out) | exact HB.out)⟩⟩
 case round =>
  clear H'
  try clear p2
  obtain ⟨x117001_1, HA, HK1, BK116, BK117, HB⟩ := hrel
  cases gk with
  | zero => exact absurd HA.out (by simp [spec_numTidy.l0])
  | succ k1 =>
   have H := HA.out
   clear HA
   simp only [spec_numTidy.l0] at H
   by_cases c4 : (x117001_1.size : Int) > 0
   ·rw [if_pos c4] at H
    have c4b0 : decide (0 < (x117001_1.size : Int)) = true := decide_eq_true c4
    have c4b1 : decide (0 < x117001_1.size) = true := decide_eq_true (by omega)
    clear c4
    by_cases c5 : 0 < (x117001_1.size : Int)
    ·rw [if_pos c5] at H
     have c5b0 : decide (0 < (x117001_1.size : Int)) = true := decide_eq_true c5
     have c5b1 : decide (0 < x117001_1.size) = true := decide_eq_true (by omega)
     clear c5
     by_cases c7 : (bt x117001_1 0) = 0
     ·rw [if_pos c7] at H
      have c7b0 : ((bt x117001_1 0) == 0) = true := beq_iff_eq.mpr c7
      have c7b1 : ((bt x117001_1 0) != 0) = false := bne_eq_false_iff_eq.mpr c7
      clear c7
      by_cases c8 : 1 ≤ (x117001_1.size : Int)
      ·rw [if_pos c8] at H
       have c8b0 := eq_true c8
       have c8b1 : decide (1 ≤ (x117001_1.size : Int)) = true := decide_eq_true c8
       clear c8
       have H' := Aside0.mk H
       clear H
       have hnb9 := NB116_117.out
       have hnc9 := NB117_116.out
       have hcz10_0 : wr.cell? ⟨gb116, 0, none⟩ = some (.bool a0_0) := (blk_cell BK116.out 0).trans rfl
       have hcz10_1 : wr.cell? ⟨gb116, 1, none⟩ = some (.string x117001_1) := (blk_cell BK116.out 1).trans rfl
       have hfz10_0 := blk_frozen BK116.out 0
       have hfz10_1 := blk_frozen BK116.out 1
       have p6 : 0 ≤ (0 : Int) := (by omega)
       have q6 : 0 < x117001_1.size := (by have : (0 : Int) < (x117001_1.size : Int) := of_decide_eq_true (by first | (with_reducible assumption) | assumption); omega)
       have hx6 : ∀ h : 0 < x117001_1.size, ((x117001_1[0]'h).toNat : Int) = bt x117001_1 0 := bt_at x117001_1 0
       clear p6
       have qi6 : (0 < (x117001_1.size : Int)) = True := eq_true (of_decide_eq_true (by first | (with_reducible assumption) | assumption))
       replace q6 := eq_true q6
       go_wp2
       go_roundg k1
       case measure => have := HK1.out; omega
       case rel => exact ⟨(x117001_1.extract 1 x117001_1.size), H', ⟨by have := HK1.out; omega⟩, ⟨by (with_reducible repeat (first | refine blk_drewN ?_ _ | refine blk_drew ?_ | refine blk_alloc ?_ _)); refine blk_put (cs := #[.bool a0_0, .string x117001_1]) ?_ 1 _ rfl; (with_reducible repeat (first | refine blk_drewN ?_ _ | refine blk_drew ?_ | refine blk_alloc ?_ _)); exact BK116.out⟩, ⟨by (with_reducible repeat (first | refine blk_drewN ?_ _ | refine blk_drew ?_ | refine blk_alloc ?_ _)); refine blk_far ?_ NB117_116.out _; (with_reducible repeat (first | refine blk_drewN ?_ _ | refine blk_drew ?_ | refine blk_alloc ?_ _)); exact BK117.out⟩, ⟨by repeat (first | (with_reducible first | exact HB.out | apply below_alloc | apply pw_below_drewN | apply below_drew1 | refine below_set ?_ GE116.out | refine below_set ?_ GE117.out) | exact HB.out)⟩⟩
      ·rw [if_neg c8] at H
       exact absurd H (by simp)
     ·rw [if_neg c7] at H
      have c7b0 : ((bt x117001_1 0) == 0) = false := beq_eq_false_iff_ne.mpr c7
      have c7b1 : ((bt x117001_1 0) != 0) = true := bne_iff_ne.mpr c7
      by_cases c11 : a0_0 = true
      ·subst c11
       have H1 : (some (!(x117001_1.toList.isEmpty), x117001_1)) = some (r1, r2) := by rw [if_pos rfl] at H; exact H
       clear H
       have H := H1
       clear H1
       simp only [Option.some.injEq, Prod.mk.injEq] at H
       obtain ⟨rfl, rfl⟩ := H
       have hnb12 := NB116_117.out
       have hnc12 := NB117_116.out
       have hcz13_0 : wr.cell? ⟨gb116, 0, none⟩ = some (.bool true) := (blk_cell BK116.out 0).trans rfl
       have hcz13_1 : wr.cell? ⟨gb116, 1, none⟩ = some (.string x117001_1) := (blk_cell BK116.out 1).trans rfl
       have hfz13_0 := blk_frozen BK116.out 0
       have hfz13_1 := blk_frozen BK116.out 1
       have p6 : 0 ≤ (0 : Int) := (by omega)
       have q6 : 0 < x117001_1.size := (by have : (0 : Int) < (x117001_1.size : Int) := of_decide_eq_true (by first | (with_reducible assumption) | assumption); omega)
       have hx6 : ∀ h : 0 < x117001_1.size, ((x117001_1[0]'h).toNat : Int) = bt x117001_1 0 := bt_at x117001_1 0
       clear p6
       have qi6 : (0 < (x117001_1.size : Int)) = True := eq_true (of_decide_eq_true (by first | (with_reducible assumption) | assumption))
       replace q6 := eq_true q6
       have hcz14_0 : wr.cell? ⟨gb117, 0, none⟩ = some (.bool false) := (blk_cell BK117.out 0).trans rfl
       have hcz14_1 : wr.cell? ⟨gb117, 1, none⟩ = some (.string (⟨#[]⟩ : ByteArray)) := (blk_cell BK117.out 1).trans rfl
       have hfz14_0 := blk_frozen BK117.out 0
       have hfz14_1 := blk_frozen BK117.out 1
       go_wp2
       refine bodyPost_ret (results_cell_row rfl _ _ gb117 23 #[.bool (!x117001_1.toList.isEmpty), .string x117001_1] (0, 0) _ rfl (by (with_reducible repeat (first | refine blk_drewN ?_ _ | refine blk_drew ?_ | refine blk_alloc ?_ _)); refine blk_put (cs := #[.bool (!x117001_1.toList.isEmpty), .string (⟨#[]⟩ : ByteArray)]) ?_ 1 _ rfl; (with_reducible repeat (first | refine blk_drewN ?_ _ | refine blk_drew ?_ | refine blk_alloc ?_ _)); refine blk_put (cs := #[.bool false, .string (⟨#[]⟩ : ByteArray)]) ?_ 0 _ rfl; (with_reducible repeat (first | refine blk_drewN ?_ _ | refine blk_drew ?_ | refine blk_alloc ?_ _)); refine blk_far ?_ NB117_116.out _; (with_reducible repeat (first | refine blk_drewN ?_ _ | refine blk_drew ?_ | refine blk_alloc ?_ _)); exact BK117.out) Tryz.underlying23 rfl (by kernel_rfl)) rfl ?_
       exact ⟨by first | rfl | (simp [errW_none, errW_some] <;> rfl) | (simp [*, errW_none, errW_some] <;> rfl), by repeat (first | (with_reducible first | exact HB.out | apply below_alloc | apply pw_below_drewN | apply below_drew1 | refine below_set ?_ GE116.out | refine below_set ?_ GE117.out) | exact HB.out)⟩
      ·replace c11 := Bool.eq_false_iff.mpr c11
       subst c11
       have H1 : (some (false, x117001_1)) = some (r1, r2) := by rw [if_neg (show ¬ (false = true) by decide)] at H; exact H
       clear H
       have H := H1
       clear H1
       simp only [Option.some.injEq, Prod.mk.injEq] at H
       obtain ⟨rfl, rfl⟩ := H
       have hnb15 := NB116_117.out
       have hnc15 := NB117_116.out
       have hcz16_0 : wr.cell? ⟨gb116, 0, none⟩ = some (.bool false) := (blk_cell BK116.out 0).trans rfl
       have hcz16_1 : wr.cell? ⟨gb116, 1, none⟩ = some (.string x117001_1) := (blk_cell BK116.out 1).trans rfl
       have hfz16_0 := blk_frozen BK116.out 0
       have hfz16_1 := blk_frozen BK116.out 1
       have p6 : 0 ≤ (0 : Int) := (by omega)
       have q6 : 0 < x117001_1.size := (by have : (0 : Int) < (x117001_1.size : Int) := of_decide_eq_true (by first | (with_reducible assumption) | assumption); omega)
       have hx6 : ∀ h : 0 < x117001_1.size, ((x117001_1[0]'h).toNat : Int) = bt x117001_1 0 := bt_at x117001_1 0
       clear p6
       have qi6 : (0 < (x117001_1.size : Int)) = True := eq_true (of_decide_eq_true (by first | (with_reducible assumption) | assumption))
       replace q6 := eq_true q6
       have hcz17_0 : wr.cell? ⟨gb117, 0, none⟩ = some (.bool false) := (blk_cell BK117.out 0).trans rfl
       have hcz17_1 : wr.cell? ⟨gb117, 1, none⟩ = some (.string (⟨#[]⟩ : ByteArray)) := (blk_cell BK117.out 1).trans rfl
       have hfz17_0 := blk_frozen BK117.out 0
       have hfz17_1 := blk_frozen BK117.out 1
       go_wp2
       refine bodyPost_ret (results_cell_row rfl _ _ gb117 23 #[.bool false, .string x117001_1] (0, 0) _ rfl (by (with_reducible repeat (first | refine blk_drewN ?_ _ | refine blk_drew ?_ | refine blk_alloc ?_ _)); refine blk_put (cs := #[.bool false, .string (⟨#[]⟩ : ByteArray)]) ?_ 1 _ rfl; (with_reducible repeat (first | refine blk_drewN ?_ _ | refine blk_drew ?_ | refine blk_alloc ?_ _)); refine blk_put (cs := #[.bool false, .string (⟨#[]⟩ : ByteArray)]) ?_ 0 _ rfl; (with_reducible repeat (first | refine blk_drewN ?_ _ | refine blk_drew ?_ | refine blk_alloc ?_ _)); refine blk_far ?_ NB117_116.out _; (with_reducible repeat (first | refine blk_drewN ?_ _ | refine blk_drew ?_ | refine blk_alloc ?_ _)); exact BK117.out) Tryz.underlying23 rfl (by kernel_rfl)) rfl ?_
       exact ⟨by first | rfl | (simp [errW_none, errW_some] <;> rfl) | (simp [*, errW_none, errW_some] <;> rfl), by repeat (first | (with_reducible first | exact HB.out | apply below_alloc | apply pw_below_drewN | apply below_drew1 | refine below_set ?_ GE116.out | refine below_set ?_ GE117.out) | exact HB.out)⟩
    ·rw [if_neg c5] at H
     exact absurd H (by simp)
   ·rw [if_neg c4] at H
    have c4b0 : decide (0 < (x117001_1.size : Int)) = false := decide_eq_false c4
    have c4b1 : decide (0 < x117001_1.size) = false := decide_eq_false (by omega)
    clear c4
    by_cases c18 : a0_0 = true
    ·subst c18
     have H1 : (some (!(x117001_1.toList.isEmpty), x117001_1)) = some (r1, r2) := by rw [if_pos rfl] at H; exact H
     clear H
     have H := H1
     clear H1
     simp only [Option.some.injEq, Prod.mk.injEq] at H
     obtain ⟨rfl, rfl⟩ := H
     have hnb19 := NB116_117.out
     have hnc19 := NB117_116.out
     have hcz20_0 : wr.cell? ⟨gb116, 0, none⟩ = some (.bool true) := (blk_cell BK116.out 0).trans rfl
     have hcz20_1 : wr.cell? ⟨gb116, 1, none⟩ = some (.string x117001_1) := (blk_cell BK116.out 1).trans rfl
     have hfz20_0 := blk_frozen BK116.out 0
     have hfz20_1 := blk_frozen BK116.out 1
     have hcz21_0 : wr.cell? ⟨gb117, 0, none⟩ = some (.bool false) := (blk_cell BK117.out 0).trans rfl
     have hcz21_1 : wr.cell? ⟨gb117, 1, none⟩ = some (.string (⟨#[]⟩ : ByteArray)) := (blk_cell BK117.out 1).trans rfl
     have hfz21_0 := blk_frozen BK117.out 0
     have hfz21_1 := blk_frozen BK117.out 1
     go_wp2
     refine bodyPost_ret (results_cell_row rfl _ _ gb117 23 #[.bool (!x117001_1.toList.isEmpty), .string x117001_1] (0, 0) _ rfl (by (with_reducible repeat (first | refine blk_drewN ?_ _ | refine blk_drew ?_ | refine blk_alloc ?_ _)); refine blk_put (cs := #[.bool (!x117001_1.toList.isEmpty), .string (⟨#[]⟩ : ByteArray)]) ?_ 1 _ rfl; (with_reducible repeat (first | refine blk_drewN ?_ _ | refine blk_drew ?_ | refine blk_alloc ?_ _)); refine blk_put (cs := #[.bool false, .string (⟨#[]⟩ : ByteArray)]) ?_ 0 _ rfl; (with_reducible repeat (first | refine blk_drewN ?_ _ | refine blk_drew ?_ | refine blk_alloc ?_ _)); refine blk_far ?_ NB117_116.out _; (with_reducible repeat (first | refine blk_drewN ?_ _ | refine blk_drew ?_ | refine blk_alloc ?_ _)); exact BK117.out) Tryz.underlying23 rfl (by kernel_rfl)) rfl ?_
     exact ⟨by first | rfl | (simp [errW_none, errW_some] <;> rfl) | (simp [*, errW_none, errW_some] <;> rfl), by repeat (first | (with_reducible first | exact HB.out | apply below_alloc | apply pw_below_drewN | apply below_drew1 | refine below_set ?_ GE116.out | refine below_set ?_ GE117.out) | exact HB.out)⟩
    ·replace c18 := Bool.eq_false_iff.mpr c18
     subst c18
     have H1 : (some (false, x117001_1)) = some (r1, r2) := by rw [if_neg (show ¬ (false = true) by decide)] at H; exact H
     clear H
     have H := H1
     clear H1
     simp only [Option.some.injEq, Prod.mk.injEq] at H
     obtain ⟨rfl, rfl⟩ := H
     have hnb22 := NB116_117.out
     have hnc22 := NB117_116.out
     have hcz23_0 : wr.cell? ⟨gb116, 0, none⟩ = some (.bool false) := (blk_cell BK116.out 0).trans rfl
     have hcz23_1 : wr.cell? ⟨gb116, 1, none⟩ = some (.string x117001_1) := (blk_cell BK116.out 1).trans rfl
     have hfz23_0 := blk_frozen BK116.out 0
     have hfz23_1 := blk_frozen BK116.out 1
     have hcz24_0 : wr.cell? ⟨gb117, 0, none⟩ = some (.bool false) := (blk_cell BK117.out 0).trans rfl
     have hcz24_1 : wr.cell? ⟨gb117, 1, none⟩ = some (.string (⟨#[]⟩ : ByteArray)) := (blk_cell BK117.out 1).trans rfl
     have hfz24_0 := blk_frozen BK117.out 0
     have hfz24_1 := blk_frozen BK117.out 1
     go_wp2
     refine bodyPost_ret (results_cell_row rfl _ _ gb117 23 #[.bool false, .string x117001_1] (0, 0) _ rfl (by (with_reducible repeat (first | refine blk_drewN ?_ _ | refine blk_drew ?_ | refine blk_alloc ?_ _)); refine blk_put (cs := #[.bool false, .string (⟨#[]⟩ : ByteArray)]) ?_ 1 _ rfl; (with_reducible repeat (first | refine blk_drewN ?_ _ | refine blk_drew ?_ | refine blk_alloc ?_ _)); refine blk_put (cs := #[.bool false, .string (⟨#[]⟩ : ByteArray)]) ?_ 0 _ rfl; (with_reducible repeat (first | refine blk_drewN ?_ _ | refine blk_drew ?_ | refine blk_alloc ?_ _)); refine blk_far ?_ NB117_116.out _; (with_reducible repeat (first | refine blk_drewN ?_ _ | refine blk_drew ?_ | refine blk_alloc ?_ _)); exact BK117.out) Tryz.underlying23 rfl (by kernel_rfl)) rfl ?_
     exact ⟨by first | rfl | (simp [errW_none, errW_some] <;> rfl) | (simp [*, errW_none, errW_some] <;> rfl), by repeat (first | (with_reducible first | exact HB.out | apply below_alloc | apply pw_below_drewN | apply below_drew1 | refine below_set ?_ GE116.out | refine below_set ?_ GE117.out) | exact HB.out)⟩

/-! ### spec_IntOK: function 29 -/
def spec_IntOK.f (k : Nat) (a0_0 : Bool) (a0_1 : ByteArray) : Option (Bool) := (spec_numTidy.f k a0_0 a0_1).bind fun bt119 => (some (bt119.1 == a0_0 && (bt119.2.toList == a0_1.toList)))
theorem spec_IntOK.mono : ∀ a0 a1 k, LeO (spec_IntOK.f k a0 a1) (spec_IntOK.f (k + 1) a0 a1) := by
 intro a0 a1 k
 unfold spec_IntOK.f
 repeat' first
   | (with_reducible exact spec_numTidy.mono _ _ _)
   | (with_reducible exact LeO.refl _)
   | (with_reducible exact LeO.none _)
   | (with_reducible refine LeO.ite ?_ ?_)
   | (with_reducible refine LeO.bind ?_ (fun _ => ?_))
   | exact spec_numTidy.mono _ _ _
   | exact LeO.none _
   | refine LeO.ite ?_ ?_
   | refine LeO.bind ?_ (fun _ => ?_)
set_option maxHeartbeats 8000000 in
set_option maxRecDepth 100000 in
theorem spec_IntOK.calls (k : Nat) (a0_0 : Bool) (a0_1 : ByteArray) (r : Bool) (w : World) (h : spec_IntOK.f k a0_0 a0_1 = some r) :
  Calls Tryz.prog 29 #[.agg #[.bool a0_0, .string a0_1]] w fun e w' => e = .returned (.bool r) ∧ Below w.heap.size w w' := by
 have hu23 := Tryz.underlying23
 have HB := Aside0.mk (Below.refl w.heap.size w)
 have H : ((spec_numTidy.f k a0_0 a0_1).bind fun bt119 => (some (bt119.1 == a0_0 && (bt119.2.toList == a0_1.toList)))) = some r := h
 clear h
 replace H := Option.bind_eq_some_iff.mp H
 obtain ⟨⟨t119, t120⟩, A20, H⟩ := H
 replace H : (some (t119 == a0_0 && (t120.toList == a0_1.toList))) = some r := H
 have A2 := Aside0.mk A20
 clear A20
 obtain rfl := Option.some.inj H
 go_enter Tryz.func29, Tryz.ntmps29
 try go_wp2_with (first | ((with_reducible refine gate_dst (N := 1) rfl ?_); refine box_event ?hg (N := 1) ?hd (cs := #[.bool a0_0, .string a0_1]) (t := 23) ?hr ?_; (case hd => rfl); (case hg => rfl); (case hr => first | (go_simp; done) | (go_simp; rfl)); intro gb118 hg w3 hbox hb; have n0_ := Aside0.mk (below_step (by repeat (first | (with_reducible first | exact HB.out | apply below_alloc | apply pw_below_drewN | apply below_drew1) | exact HB.out)) hb); have n1_ := Aside0.mk (hbox); have n2_ := Aside0.mk ((by rw [hg]; exact (below_size (by repeat (first | (with_reducible first | exact HB.out | apply below_alloc | apply pw_below_drewN | apply below_drew1) | exact HB.out))) : w.heap.size ≤ gb118)); have n3_ := Aside0.mk ((by rw [hg]; exact (below_size (by repeat (first | (with_reducible first | exact HB.out | apply below_alloc | apply pw_below_drewN | apply below_drew1) | exact HB.out))) : w.heap.size ≤ gb118)); clear HB; have HB := n0_; have BK118 := n1_; have GW118 := n2_; have GE118 := n3_; clear n0_ n1_ n2_ n3_; clear hb hbox hg))
 have n0_ := Aside0.mk (blk_drew BK118.out)
 have n1_ := Aside0.mk (below_drew1 HB.out)
 clear BK118
 clear HB
 have BK118 := n0_
 have HB := n1_
 clear n0_ n1_
 refine start_ (n := 5) (S := fun w' => w'.cell? ⟨gb118, 0, none⟩ = some (.bool a0_0) ∧ w'.cell? ⟨gb118, 1, none⟩ = some (.string a0_1)) (ds := []) #[false, false, false, false, false] (by kernel_rfl) rfl rfl ⟨(blk_cell BK118.out 0).trans rfl, (blk_cell BK118.out 1).trans rfl⟩ (fun hHeld => ?_)
 generalize w3.drew = w4 at BK118 HB hHeld ⊢
 refine take_ (i := 0) (N := some 3) (v := ?_) (a' := ?_) #[true, false, false, false, false] rfl rfl (by kernel_rfl) (fun _ _ _ h => h) (Or.inl ⟨by rfl, ?_⟩) hHeld ?_ ?_
 rotate_left
 ·rintro w' ⟨s0, s1⟩
  go_simp
  with_reducible rfl
 rotate_left
 ·simp only [Act.put, List.setIfInBounds_toArray, List.set_cons_zero, List.set_cons_succ, i64_w, i32_w]
  rfl
 refine take_ (i := 2) (N := some 5) (v := ?_) (a' := ?_) #[true, false, true, false, false] rfl rfl (by kernel_rfl) (fun _ _ _ h => h) (Or.inl ⟨by rfl, ?_⟩) hHeld ?_ ?_
 rotate_left
 ·rintro w' ⟨s0, s1⟩
  go_simp
  with_reducible rfl
 rotate_left
 ·simp only [Act.put, List.setIfInBounds_toArray, List.set_cons_zero, List.set_cons_succ, i64_w, i32_w]
  rfl
 refine one_ (i := 1) (N := some 4) #[true, true, true, false, false] rfl rfl (by kernel_rfl) (by decide) (fun K hK => ?_)
 refine goes_ Tryz.func40 (by kernel_rfl) rfl #[.agg #[.bool a0_0, .string a0_1]] (by rfl) rfl rfl (by (try simp only [List.map_toArray, List.map_cons, List.map_nil]); first | done | rfl | (simp only [List.length_drop, List.length_take]; rfl)) ?_
 with_reducible refine (spec_numTidy.calls k a0_0 a0_1 t119 t120 _ A2.out).mono ?_
 rintro e w5 ⟨rfl, hb⟩
 refine ⟨_, rfl, ?_⟩
 have n0_ := Aside0.mk (blk_below (g := gb118) (o := .cells #[.bool a0_0, .string a0_1] 23 (0, 0)) (by (with_reducible repeat (first | refine blk_drewN ?_ _ | refine blk_drew ?_ | refine blk_alloc ?_ _)); exact BK118.out) hb)
 have n1_ := Aside0.mk (below_step (by repeat (first | (with_reducible first | exact HB.out | apply below_alloc | apply pw_below_drewN | apply below_drew1 | refine below_set ?_ GE118.out) | exact HB.out)) hb)
 clear BK118
 clear HB
 have BK118 := n0_
 have HB := n1_
 clear n0_ n1_
 (try clear hb)
 (try clear hb2)
 (try clear hk)
 (try clear hi)
 refine hK.out _ _ ⟨(blk_cell BK118.out 0).trans rfl, (blk_cell BK118.out 1).trans rfl⟩ (fun hHeld => ?_)
 clear hK K
 refine norm_ (a' := ?_) ?_ ?_
 rotate_left
 ·show Act.put _ (some 4) _ = _
  simp only [Act.put, List.setIfInBounds_toArray, List.set_cons_zero, List.set_cons_succ, i64_w, i32_w]
  rfl
 refine pure_ (i := 3) (N := some 6) (v := ?_) (a' := ?_) #[true, true, true, true, false] rfl rfl (by kernel_rfl) (fun _ _ _ h => h) (Or.inl ⟨by rfl, ?_⟩) ?_ ?_
 rotate_left
 ·intro w'
  go_simp
  with_reducible rfl
 rotate_left
 ·simp only [Act.put, List.setIfInBounds_toArray, List.set_cons_zero, List.set_cons_succ, i64_w, i32_w]
  rfl
 refine pure_ (i := 4) (N := some 2) (v := ?_) (a' := ?_) #[true, true, true, true, true] rfl rfl (by kernel_rfl) (fun _ _ _ h => h) (Or.inl ⟨by rfl, ?_⟩) ?_ ?_
 rotate_left
 ·intro w'
  go_simp
  with_reducible rfl
 rotate_left
 ·simp only [Act.put, List.setIfInBounds_toArray, List.set_cons_zero, List.set_cons_succ, i64_w, i32_w]
  rfl
 refine done_ (by kernel_rfl) ?_
 try go_wp2
 go_ret
 exact ⟨by first | rfl | (simp [errW_none, errW_some] <;> rfl) | (simp [*, errW_none, errW_some] <;> rfl), by repeat (first | (with_reducible first | exact HB.out | apply below_alloc | apply pw_below_drewN | apply below_drew1 | refine below_set ?_ GE118.out) | exact HB.out)⟩

/-! ### spec_IntsOK: function 30 -/
def spec_IntsOK.l0 : Nat → List (S23) → Int → Option (Bool)
 | 0, _, _ => none
 | k + 1, x0, x3 => if x3 < (x0.length : Int) then (if 0 ≤ x3 then ((spec_IntOK.f k ((rd_T23 x0 x3).f0) ((rd_T23 x0 x3).f1)).bind fun t122 => (if t122 = true then (spec_IntsOK.l0 k x0 (wrap64 (x3 + 1))) else (some false))) else (none)) else (some true)
def spec_IntsOK.f (k : Nat) (l0 : List (S23)) : Option (Bool) := spec_IntsOK.l0 k l0 0
theorem spec_IntsOK.mono_l : ∀ k, (∀ y0 y1, LeO (spec_IntsOK.l0 k y0 y1) (spec_IntsOK.l0 (k + 1) y0 y1))
 | 0 => fun _ _ r h => by simp [spec_IntsOK.l0] at h
 | k + 1 => by
  have ih0 := spec_IntsOK.mono_l k
  ·intro y0 y1
   unfold spec_IntsOK.l0
   repeat' first
   | (with_reducible exact ih0 _ _)
   | (with_reducible exact spec_IntOK.mono _ _ _)
   | (with_reducible exact LeO.refl _)
   | (with_reducible exact LeO.none _)
   | (with_reducible refine LeO.ite ?_ ?_)
   | (with_reducible refine LeO.bind ?_ (fun _ => ?_))
   | exact ih0 _ _
   | exact spec_IntOK.mono _ _ _
   | exact LeO.none _
   | refine LeO.ite ?_ ?_
   | refine LeO.bind ?_ (fun _ => ?_)
theorem spec_IntsOK.mono : ∀ a0 k, LeO (spec_IntsOK.f k a0) (spec_IntsOK.f (k + 1) a0) := by
 intro a0 k
 have ih0 := spec_IntsOK.mono_l k
 unfold spec_IntsOK.f
 repeat' first
   | (with_reducible exact ih0 _ _)
   | (with_reducible exact spec_IntOK.mono _ _ _)
   | (with_reducible exact LeO.refl _)
   | (with_reducible exact LeO.none _)
   | (with_reducible refine LeO.ite ?_ ?_)
   | (with_reducible refine LeO.bind ?_ (fun _ => ?_))
   | exact ih0 _ _
   | exact spec_IntOK.mono _ _ _
   | exact LeO.none _
   | refine LeO.ite ?_ ?_
   | refine LeO.bind ?_ (fun _ => ?_)
set_option maxHeartbeats 8000000 in
set_option maxRecDepth 100000 in
theorem spec_IntsOK.calls (k : Nat) (A0 : Option Addr) (c0 : Nat) (l0 : List (S23)) (r : Bool) (w : World) (hr0 : Kd.C k23 w A0 l0.length l0) (hc0 : l0.length ≤ c0) (h : spec_IntsOK.f k l0 = some r) :
  Calls Tryz.prog 30 #[.slice A0 l0.length c0] w fun e w' => e = .returned (.bool r) ∧ Below w.heap.size w w' := by
 have hu23 := Tryz.underlying23
 have HR0 := Aside0.mk hr0
 have HC0 := Aside0.mk hc0
 clear hr0 hc0
 have HB := Aside0.mk (Below.refl w.heap.size w)
 have H : (spec_IntsOK.l0 k l0 0) = some r := h
 clear h
 have H' := Aside0.mk H
 clear H
 go_enter Tryz.func30, Tryz.ntmps30
 go_wp2
 go_loopg [3] k (fun kq v3 w' => ∃ (x3_1 : Int), v3 = .int .i64 x3_1 ∧ Aside0 (spec_IntsOK.l0 kq l0 x3_1 = some r) ∧ Aside0 (kq ≤ k) ∧ Aside0 (Below w.heap.size w w'))
 case atStart => exact ⟨(0), (by first | rfl | (simp; done) | (simp [*]; done)), H', ⟨Nat.le_refl _⟩, ⟨by repeat (first | (with_reducible first | exact HB.out | apply below_alloc | apply pw_below_drewN | apply below_drew1) | exact HB.out)⟩⟩
 case round =>
  clear H'
  obtain ⟨x3_1, rfl, HA, HK1, HB⟩ := hrel
  cases gk with
  | zero => exact absurd HA.out (by simp [spec_IntsOK.l0])
  | succ k1 =>
   have H := HA.out
   clear HA
   simp only [spec_IntsOK.l0] at H
   by_cases c2 : x3_1 < (l0.length : Int)
   ·rw [if_pos c2] at H
    have c2b0 : decide (x3_1 < (l0.length : Int)) = true := decide_eq_true c2
    clear c2
    by_cases c3 : 0 ≤ x3_1
    ·rw [if_pos c3] at H
     have c3b0 : decide (0 ≤ x3_1) = true := decide_eq_true c3
     clear c3
     replace H := Option.bind_eq_some_iff.mp H
     obtain ⟨t122, A40, H⟩ := H
     replace H : (if t122 = true then (spec_IntsOK.l0 k1 l0 (wrap64 (x3_1 + 1))) else (some false)) = some r := H
     have A4 := Aside0.mk A40
     clear A40
     by_cases c5 : t122 = true
     ·subst c5
      have H1 : (spec_IntsOK.l0 k1 l0 (wrap64 (x3_1 + 1))) = some r := by rw [if_pos rfl] at H; exact H
      clear H
      have H := H1
      clear H1
      have H' := Aside0.mk H
      clear H
      have p121 : 0 ≤ (x3_1 : Int) := of_decide_eq_true (by first | (with_reducible assumption) | assumption)
      have q121 : x3_1 < (l0.length : Int) := of_decide_eq_true (by first | (with_reducible assumption) | assumption)
      obtain ⟨ad121, e121, hx121_0, hx121_1⟩ := at_T23 HR0.out x3_1 p121 q121
      cases e121
      replace hx121_0 := (HB.out.cell (World.block_lt_of_cell? w _ hx121_0)).trans hx121_0
      replace hx121_1 := (HB.out.cell (World.block_lt_of_cell? w _ hx121_1)).trans hx121_1
      replace p121 := eq_true p121
      replace q121 := eq_true q121
      go_wp2_with (first | ((with_reducible refine gate_callee (f := 29) rfl ?_); refine goesL_ (some 14) rfl rfl Tryz.func29 (by kernel_rfl) rfl #[.agg #[.bool ((rd_T23 l0 x3_1).f0), .string ((rd_T23 l0 x3_1).f1)]] rfl (by (try simp only [List.map_toArray, List.map_cons, List.map_nil]); first | done | rfl | (simp only [List.length_drop, List.length_take]; rfl)) ?_; (with_reducible refine (spec_IntOK.calls k1 ((rd_T23 l0 x3_1).f0) ((rd_T23 l0 x3_1).f1) true _ A4.out).mono ?_); rintro e w6 ⟨rfl, hb⟩; refine ⟨_, rfl, ?_⟩; have n0_ := Aside0.mk (below_step (by repeat (first | (with_reducible first | exact HB.out | apply below_alloc | apply pw_below_drewN | apply below_drew1) | exact HB.out)) hb); clear HB; have HB := n0_; clear n0_; (try clear hb); (try clear hb2); (try clear hk); (try clear hi)))
      go_roundg k1
      case measure => have := HK1.out; omega
      case rel => exact ⟨(wrap64 (x3_1 + 1)), (by first | rfl | (simp; done) | (simp [*]; done)), H', ⟨by have := HK1.out; omega⟩, ⟨by repeat (first | (with_reducible first | exact HB.out | apply below_alloc | apply pw_below_drewN | apply below_drew1) | exact HB.out)⟩⟩
     ·replace c5 := Bool.eq_false_iff.mpr c5
      subst c5
      have H1 : (some false) = some r := by rw [if_neg (show ¬ (false = true) by decide)] at H; exact H
      clear H
      have H := H1
      clear H1
      obtain rfl := Option.some.inj H
      have p121 : 0 ≤ (x3_1 : Int) := of_decide_eq_true (by first | (with_reducible assumption) | assumption)
      have q121 : x3_1 < (l0.length : Int) := of_decide_eq_true (by first | (with_reducible assumption) | assumption)
      obtain ⟨ad121, e121, hx121_0, hx121_1⟩ := at_T23 HR0.out x3_1 p121 q121
      cases e121
      replace hx121_0 := (HB.out.cell (World.block_lt_of_cell? w _ hx121_0)).trans hx121_0
      replace hx121_1 := (HB.out.cell (World.block_lt_of_cell? w _ hx121_1)).trans hx121_1
      replace p121 := eq_true p121
      replace q121 := eq_true q121
      go_wp2_with (first | ((with_reducible refine gate_callee (f := 29) rfl ?_); refine goesL_ (some 14) rfl rfl Tryz.func29 (by kernel_rfl) rfl #[.agg #[.bool ((rd_T23 l0 x3_1).f0), .string ((rd_T23 l0 x3_1).f1)]] rfl (by (try simp only [List.map_toArray, List.map_cons, List.map_nil]); first | done | rfl | (simp only [List.length_drop, List.length_take]; rfl)) ?_; (with_reducible refine (spec_IntOK.calls k1 ((rd_T23 l0 x3_1).f0) ((rd_T23 l0 x3_1).f1) false _ A4.out).mono ?_); rintro e w7 ⟨rfl, hb⟩; refine ⟨_, rfl, ?_⟩; have n0_ := Aside0.mk (below_step (by repeat (first | (with_reducible first | exact HB.out | apply below_alloc | apply pw_below_drewN | apply below_drew1) | exact HB.out)) hb); clear HB; have HB := n0_; clear n0_; (try clear hb); (try clear hb2); (try clear hk); (try clear hi)))
      go_ret
      exact ⟨by first | rfl | (simp [errW_none, errW_some] <;> rfl) | (simp [*, errW_none, errW_some] <;> rfl), by repeat (first | (with_reducible first | exact HB.out | apply below_alloc | apply pw_below_drewN | apply below_drew1) | exact HB.out)⟩
    ·rw [if_neg c3] at H
     exact absurd H (by simp)
   ·rw [if_neg c2] at H
    have c2b0 : decide (x3_1 < (l0.length : Int)) = false := decide_eq_false c2
    clear c2
    obtain rfl := Option.some.inj H
    go_wp2
    go_ret
    exact ⟨by first | rfl | (simp [errW_none, errW_some] <;> rfl) | (simp [*, errW_none, errW_some] <;> rfl), by repeat (first | (with_reducible first | exact HB.out | apply below_alloc | apply pw_below_drewN | apply below_drew1) | exact HB.out)⟩

/-! ### spec_Ascii: function 31 -/
def spec_Ascii.l0 : Nat → ByteArray → Int → Option (Bool)
 | 0, _, _ => none
 | k + 1, x0, x3 => if x3 < (x0.size : Int) then (if 0 ≤ x3 then (if (bt x0 x3) > 127 then (some false) else (spec_Ascii.l0 k x0 (wrap64 (x3 + 1)))) else (none)) else (some true)
def spec_Ascii.f (k : Nat) (a0 : ByteArray) : Option (Bool) := spec_Ascii.l0 k a0 0
theorem spec_Ascii.mono_l : ∀ k, (∀ y0 y1, LeO (spec_Ascii.l0 k y0 y1) (spec_Ascii.l0 (k + 1) y0 y1))
 | 0 => fun _ _ r h => by simp [spec_Ascii.l0] at h
 | k + 1 => by
  have ih0 := spec_Ascii.mono_l k
  ·intro y0 y1
   unfold spec_Ascii.l0
   repeat' first
   | (with_reducible exact ih0 _ _)
   | (with_reducible exact LeO.refl _)
   | (with_reducible exact LeO.none _)
   | (with_reducible refine LeO.ite ?_ ?_)
   | (with_reducible refine LeO.bind ?_ (fun _ => ?_))
   | exact ih0 _ _
   | exact LeO.none _
   | refine LeO.ite ?_ ?_
   | refine LeO.bind ?_ (fun _ => ?_)
theorem spec_Ascii.mono : ∀ a0 k, LeO (spec_Ascii.f k a0) (spec_Ascii.f (k + 1) a0) := by
 intro a0 k
 have ih0 := spec_Ascii.mono_l k
 unfold spec_Ascii.f
 repeat' first
   | (with_reducible exact ih0 _ _)
   | (with_reducible exact LeO.refl _)
   | (with_reducible exact LeO.none _)
   | (with_reducible refine LeO.ite ?_ ?_)
   | (with_reducible refine LeO.bind ?_ (fun _ => ?_))
   | exact ih0 _ _
   | exact LeO.none _
   | refine LeO.ite ?_ ?_
   | refine LeO.bind ?_ (fun _ => ?_)
set_option maxHeartbeats 8000000 in
set_option maxRecDepth 100000 in
theorem spec_Ascii.calls (k : Nat) (a0 : ByteArray) (r : Bool) (w : World) (h : spec_Ascii.f k a0 = some r) :
  Calls Tryz.prog 31 #[.string a0] w fun e w' => e = .returned (.bool r) ∧ Drawn0 w w' := by
 have H : (spec_Ascii.l0 k a0 0) = some r := h
 clear h
 have H' := Aside0.mk H
 clear H
 go_enter Tryz.func31, Tryz.ntmps31
 go_wp2
 go_loopg [3] k (fun kq v3 w' => ∃ (x3_1 : Int), v3 = .int .i64 x3_1 ∧ Aside0 (spec_Ascii.l0 kq a0 x3_1 = some r) ∧ Aside0 (kq ≤ k) ∧ Drawn0 w w')
 case atStart => exact ⟨(0), (by first | rfl | (simp; done) | (simp [*]; done)), H', ⟨Nat.le_refl _⟩, by repeat (first | exact Drawn0.refl _ | apply Drawn0.step)⟩
 case round =>
  clear H'
  obtain ⟨x3_1, rfl, HA, HK1, ⟨m1, rfl⟩⟩ := hrel
  cases gk with
  | zero => exact absurd HA.out (by simp [spec_Ascii.l0])
  | succ k1 =>
   have H := HA.out
   clear HA
   simp only [spec_Ascii.l0] at H
   by_cases c2 : x3_1 < (a0.size : Int)
   ·rw [if_pos c2] at H
    have c2b0 : decide (x3_1 < (a0.size : Int)) = true := decide_eq_true c2
    clear c2
    by_cases c3 : 0 ≤ x3_1
    ·rw [if_pos c3] at H
     have c3b0 : decide (0 ≤ x3_1) = true := decide_eq_true c3
     clear c3
     by_cases c5 : (bt a0 x3_1) > 127
     ·rw [if_pos c5] at H
      have c5b0 : decide (127 < (bt a0 x3_1)) = true := decide_eq_true c5
      clear c5
      obtain rfl := Option.some.inj H
      have p4 : 0 ≤ (x3_1 : Int) := of_decide_eq_true (by first | (with_reducible assumption) | assumption)
      have q4 : x3_1 < (a0.size : Int) := of_decide_eq_true (by first | (with_reducible assumption) | assumption)
      have hx4 := bt_at a0 x3_1
      replace p4 := eq_true p4
      replace q4 := eq_true q4
      go_wp2
      go_ret
      exact ⟨by first | rfl | (simp; done) | (simp [*]; done), by repeat (first | exact Drawn0.refl _ | apply Drawn0.step)⟩
     ·rw [if_neg c5] at H
      have c5b0 : decide (127 < (bt a0 x3_1)) = false := decide_eq_false c5
      clear c5
      have H' := Aside0.mk H
      clear H
      have p4 : 0 ≤ (x3_1 : Int) := of_decide_eq_true (by first | (with_reducible assumption) | assumption)
      have q4 : x3_1 < (a0.size : Int) := of_decide_eq_true (by first | (with_reducible assumption) | assumption)
      have hx4 := bt_at a0 x3_1
      replace p4 := eq_true p4
      replace q4 := eq_true q4
      go_wp2
      go_roundg k1
      case measure => have := HK1.out; omega
      case rel => exact ⟨(wrap64 (x3_1 + 1)), (by first | rfl | (simp; done) | (simp [*]; done)), H', ⟨by have := HK1.out; omega⟩, by repeat (first | exact Drawn0.refl _ | apply Drawn0.step)⟩
    ·rw [if_neg c3] at H
     exact absurd H (by simp)
   ·rw [if_neg c2] at H
    have c2b0 : decide (x3_1 < (a0.size : Int)) = false := decide_eq_false c2
    clear c2
    obtain rfl := Option.some.inj H
    go_wp2
    go_ret
    exact ⟨by first | rfl | (simp; done) | (simp [*]; done), by repeat (first | exact Drawn0.refl _ | apply Drawn0.step)⟩

/-! ### spec_pypiLetterOK: function 32 -/
def spec_pypiLetterOK.f (k : Nat) (a0_0 : Bool) (a0_1 : ByteArray) (a0_2 : Bool) (a0_3 : ByteArray) : Option (Bool) := (spec_IntOK.f k a0_2 a0_3).bind fun t124 => (if t124 = true then (if a0_2 = true then (some false) else ((spec_Ascii.f k a0_1).bind fun t125 => (if t125 = true then (if a0_0 = true then (some (!a0_1.toList.isEmpty)) else (some true)) else (some false)))) else (some false))
theorem spec_pypiLetterOK.mono : ∀ a0 a1 a2 a3 k, LeO (spec_pypiLetterOK.f k a0 a1 a2 a3) (spec_pypiLetterOK.f (k + 1) a0 a1 a2 a3) := by
 intro a0 a1 a2 a3 k
 unfold spec_pypiLetterOK.f
 repeat' first
   | (with_reducible exact spec_Ascii.mono _ _)
   | (with_reducible exact spec_IntOK.mono _ _ _)
   | (with_reducible exact LeO.refl _)
   | (with_reducible exact LeO.none _)
   | (with_reducible refine LeO.ite ?_ ?_)
   | (with_reducible refine LeO.bind ?_ (fun _ => ?_))
   | exact spec_Ascii.mono _ _
   | exact spec_IntOK.mono _ _ _
   | exact LeO.none _
   | refine LeO.ite ?_ ?_
   | refine LeO.bind ?_ (fun _ => ?_)
set_option maxHeartbeats 8000000 in
set_option maxRecDepth 100000 in
theorem spec_pypiLetterOK.calls (k : Nat) (a0_0 : Bool) (a0_1 : ByteArray) (a0_2 : Bool) (a0_3 : ByteArray) (r : Bool) (w : World) (h : spec_pypiLetterOK.f k a0_0 a0_1 a0_2 a0_3 = some r) :
  Calls Tryz.prog 32 #[.agg #[.bool a0_0, .string a0_1, .bool a0_2, .string a0_3]] w fun e w' => e = .returned (.bool r) ∧ Below w.heap.size w w' := by
 have hu26 := Tryz.underlying26
 have hu23 := Tryz.underlying23
 have HB := Aside0.mk (Below.refl w.heap.size w)
 have H : ((spec_IntOK.f k a0_2 a0_3).bind fun t124 => (if t124 = true then (if a0_2 = true then (some false) else ((spec_Ascii.f k a0_1).bind fun t125 => (if t125 = true then (if a0_0 = true then (some (!a0_1.toList.isEmpty)) else (some true)) else (some false)))) else (some false))) = some r := h
 clear h
 replace H := Option.bind_eq_some_iff.mp H
 obtain ⟨t124, A20, H⟩ := H
 replace H : (if t124 = true then (if a0_2 = true then (some false) else ((spec_Ascii.f k a0_1).bind fun t125 => (if t125 = true then (if a0_0 = true then (some (!a0_1.toList.isEmpty)) else (some true)) else (some false)))) else (some false)) = some r := H
 have A2 := Aside0.mk A20
 clear A20
 by_cases c3 : t124 = true
 ·subst c3
  have H1 : (if a0_2 = true then (some false) else ((spec_Ascii.f k a0_1).bind fun t125 => (if t125 = true then (if a0_0 = true then (some (!a0_1.toList.isEmpty)) else (some true)) else (some false)))) = some r := by rw [if_pos rfl] at H; exact H
  clear H
  have H := H1
  clear H1
  by_cases c4 : a0_2 = true
  ·subst c4
   have H1 : (some false) = some r := by rw [if_pos rfl] at H; exact H
   clear H
   have H := H1
   clear H1
   obtain rfl := Option.some.inj H
   go_enter Tryz.func32, Tryz.ntmps32
   go_wp2_with (first | ((with_reducible refine gate_dst (N := 1) rfl ?_); refine box_event ?hg (N := 1) ?hd (cs := #[.bool a0_0, .string a0_1, .bool true, .string a0_3]) (t := 26) ?hr ?_; (case hd => rfl); (case hg => rfl); (case hr => first | (go_simp; done) | (go_simp; rfl)); intro gb123 hg w5 hbox hb; have n0_ := Aside0.mk (below_step (by repeat (first | (with_reducible first | exact HB.out | apply below_alloc | apply pw_below_drewN | apply below_drew1) | exact HB.out)) hb); have n1_ := Aside0.mk (hbox); have n2_ := Aside0.mk ((by rw [hg]; exact (below_size (by repeat (first | (with_reducible first | exact HB.out | apply below_alloc | apply pw_below_drewN | apply below_drew1) | exact HB.out))) : w.heap.size ≤ gb123)); have n3_ := Aside0.mk ((by rw [hg]; exact (below_size (by repeat (first | (with_reducible first | exact HB.out | apply below_alloc | apply pw_below_drewN | apply below_drew1) | exact HB.out))) : w.heap.size ≤ gb123)); clear HB; have HB := n0_; have BK123 := n1_; have GW123 := n2_; have GE123 := n3_; clear n0_ n1_ n2_ n3_; clear hb hbox hg; have hcz6_0 : w5.cell? ⟨gb123, 0, none⟩ = some (.bool a0_0) := (blk_cell BK123.out 0).trans rfl; have hcz6_1 : w5.cell? ⟨gb123, 1, none⟩ = some (.string a0_1) := (blk_cell BK123.out 1).trans rfl; have hcz6_2 : w5.cell? ⟨gb123, 2, none⟩ = some (.bool true) := (blk_cell BK123.out 2).trans rfl; have hcz6_3 : w5.cell? ⟨gb123, 3, none⟩ = some (.string a0_3) := (blk_cell BK123.out 3).trans rfl; have hfz6_0 := blk_frozen BK123.out 0; have hfz6_1 := blk_frozen BK123.out 1; have hfz6_2 := blk_frozen BK123.out 2; have hfz6_3 := blk_frozen BK123.out 3) | ((with_reducible refine gate_callee (f := 29) rfl ?_); refine goesL_ (some 5) rfl rfl Tryz.func29 (by kernel_rfl) rfl #[.agg #[.bool true, .string a0_3]] rfl (by (try simp only [List.map_toArray, List.map_cons, List.map_nil]); first | done | rfl | (simp only [List.length_drop, List.length_take]; rfl)) ?_; (with_reducible refine (spec_IntOK.calls k true a0_3 true _ A2.out).mono ?_); rintro e w7 ⟨rfl, hb⟩; refine ⟨_, rfl, ?_⟩; have n0_ := Aside0.mk (blk_below (g := gb123) (o := .cells #[.bool a0_0, .string a0_1, .bool true, .string a0_3] 26 (0, 0)) (by (with_reducible repeat (first | refine blk_drewN ?_ _ | refine blk_drew ?_ | refine blk_alloc ?_ _)); exact BK123.out) hb); have n1_ := Aside0.mk (below_step (by repeat (first | (with_reducible first | exact HB.out | apply below_alloc | apply pw_below_drewN | apply below_drew1 | refine below_set ?_ GE123.out) | exact HB.out)) hb); clear BK123; clear HB; have BK123 := n0_; have HB := n1_; clear n0_ n1_; (try clear hb); (try clear hb2); (try clear hk); (try clear hi); have hcz8_0 : w7.cell? ⟨gb123, 0, none⟩ = some (.bool a0_0) := (blk_cell BK123.out 0).trans rfl; have hcz8_1 : w7.cell? ⟨gb123, 1, none⟩ = some (.string a0_1) := (blk_cell BK123.out 1).trans rfl; have hcz8_2 : w7.cell? ⟨gb123, 2, none⟩ = some (.bool true) := (blk_cell BK123.out 2).trans rfl; have hcz8_3 : w7.cell? ⟨gb123, 3, none⟩ = some (.string a0_3) := (blk_cell BK123.out 3).trans rfl; have hfz8_0 := blk_frozen BK123.out 0; have hfz8_1 := blk_frozen BK123.out 1; have hfz8_2 := blk_frozen BK123.out 2; have hfz8_3 := blk_frozen BK123.out 3))
   go_ret
   exact ⟨by first | rfl | (simp [errW_none, errW_some] <;> rfl) | (simp [*, errW_none, errW_some] <;> rfl), by repeat (first | (with_reducible first | exact HB.out | apply below_alloc | apply pw_below_drewN | apply below_drew1 | refine below_set ?_ GE123.out) | exact HB.out)⟩
  ·replace c4 := Bool.eq_false_iff.mpr c4
   subst c4
   have H1 : ((spec_Ascii.f k a0_1).bind fun t125 => (if t125 = true then (if a0_0 = true then (some (!a0_1.toList.isEmpty)) else (some true)) else (some false))) = some r := by rw [if_neg (show ¬ (false = true) by decide)] at H; exact H
   clear H
   have H := H1
   clear H1
   replace H := Option.bind_eq_some_iff.mp H
   obtain ⟨t125, A90, H⟩ := H
   replace H : (if t125 = true then (if a0_0 = true then (some (!a0_1.toList.isEmpty)) else (some true)) else (some false)) = some r := H
   have A9 := Aside0.mk A90
   clear A90
   by_cases c10 : t125 = true
   ·subst c10
    have H1 : (if a0_0 = true then (some (!a0_1.toList.isEmpty)) else (some true)) = some r := by rw [if_pos rfl] at H; exact H
    clear H
    have H := H1
    clear H1
    by_cases c11 : a0_0 = true
    ·subst c11
     have H1 : (some (!a0_1.toList.isEmpty)) = some r := by rw [if_pos rfl] at H; exact H
     clear H
     have H := H1
     clear H1
     obtain rfl := Option.some.inj H
     go_enter Tryz.func32, Tryz.ntmps32
     go_wp2_with (first | ((with_reducible refine gate_dst (N := 1) rfl ?_); refine box_event ?hg (N := 1) ?hd (cs := #[.bool true, .string a0_1, .bool false, .string a0_3]) (t := 26) ?hr ?_; (case hd => rfl); (case hg => rfl); (case hr => first | (go_simp; done) | (go_simp; rfl)); intro gb123 hg w12 hbox hb; have n0_ := Aside0.mk (below_step (by repeat (first | (with_reducible first | exact HB.out | apply below_alloc | apply pw_below_drewN | apply below_drew1) | exact HB.out)) hb); have n1_ := Aside0.mk (hbox); have n2_ := Aside0.mk ((by rw [hg]; exact (below_size (by repeat (first | (with_reducible first | exact HB.out | apply below_alloc | apply pw_below_drewN | apply below_drew1) | exact HB.out))) : w.heap.size ≤ gb123)); have n3_ := Aside0.mk ((by rw [hg]; exact (below_size (by repeat (first | (with_reducible first | exact HB.out | apply below_alloc | apply pw_below_drewN | apply below_drew1) | exact HB.out))) : w.heap.size ≤ gb123)); clear HB; have HB := n0_; have BK123 := n1_; have GW123 := n2_; have GE123 := n3_; clear n0_ n1_ n2_ n3_; clear hb hbox hg; have hcz13_0 : w12.cell? ⟨gb123, 0, none⟩ = some (.bool true) := (blk_cell BK123.out 0).trans rfl; have hcz13_1 : w12.cell? ⟨gb123, 1, none⟩ = some (.string a0_1) := (blk_cell BK123.out 1).trans rfl; have hcz13_2 : w12.cell? ⟨gb123, 2, none⟩ = some (.bool false) := (blk_cell BK123.out 2).trans rfl; have hcz13_3 : w12.cell? ⟨gb123, 3, none⟩ = some (.string a0_3) := (blk_cell BK123.out 3).trans rfl; have hfz13_0 := blk_frozen BK123.out 0; have hfz13_1 := blk_frozen BK123.out 1; have hfz13_2 := blk_frozen BK123.out 2; have hfz13_3 := blk_frozen BK123.out 3) | ((with_reducible refine gate_callee (f := 29) rfl ?_); refine goesL_ (some 5) rfl rfl Tryz.func29 (by kernel_rfl) rfl #[.agg #[.bool false, .string a0_3]] rfl (by (try simp only [List.map_toArray, List.map_cons, List.map_nil]); first | done | rfl | (simp only [List.length_drop, List.length_take]; rfl)) ?_; (with_reducible refine (spec_IntOK.calls k false a0_3 true _ A2.out).mono ?_); rintro e w14 ⟨rfl, hb⟩; refine ⟨_, rfl, ?_⟩; have n0_ := Aside0.mk (blk_below (g := gb123) (o := .cells #[.bool true, .string a0_1, .bool false, .string a0_3] 26 (0, 0)) (by (with_reducible repeat (first | refine blk_drewN ?_ _ | refine blk_drew ?_ | refine blk_alloc ?_ _)); exact BK123.out) hb); have n1_ := Aside0.mk (below_step (by repeat (first | (with_reducible first | exact HB.out | apply below_alloc | apply pw_below_drewN | apply below_drew1 | refine below_set ?_ GE123.out) | exact HB.out)) hb); clear BK123; clear HB; have BK123 := n0_; have HB := n1_; clear n0_ n1_; (try clear hb); (try clear hb2); (try clear hk); (try clear hi); have hcz15_0 : w14.cell? ⟨gb123, 0, none⟩ = some (.bool true) := (blk_cell BK123.out 0).trans rfl; have hcz15_1 : w14.cell? ⟨gb123, 1, none⟩ = some (.string a0_1) := (blk_cell BK123.out 1).trans rfl; have hcz15_2 : w14.cell? ⟨gb123, 2, none⟩ = some (.bool false) := (blk_cell BK123.out 2).trans rfl; have hcz15_3 : w14.cell? ⟨gb123, 3, none⟩ = some (.string a0_3) := (blk_cell BK123.out 3).trans rfl; have hfz15_0 := blk_frozen BK123.out 0; have hfz15_1 := blk_frozen BK123.out 1; have hfz15_2 := blk_frozen BK123.out 2; have hfz15_3 := blk_frozen BK123.out 3) | (go_at_call 31; (with_reducible refine (spec_Ascii.calls k a0_1 true _ A9.out).mono ?_); rintro e w' ⟨rfl, ⟨nd, rfl⟩⟩))
     go_ret
     exact ⟨by first | rfl | (simp [errW_none, errW_some] <;> rfl) | (simp [*, errW_none, errW_some] <;> rfl), by repeat (first | (with_reducible first | exact HB.out | apply below_alloc | apply pw_below_drewN | apply below_drew1 | refine below_set ?_ GE123.out) | exact HB.out)⟩
    ·replace c11 := Bool.eq_false_iff.mpr c11
     subst c11
     have H1 : (some true) = some r := by rw [if_neg (show ¬ (false = true) by decide)] at H; exact H
     clear H
     have H := H1
     clear H1
     obtain rfl := Option.some.inj H
     go_enter Tryz.func32, Tryz.ntmps32
     go_wp2_with (first | ((with_reducible refine gate_dst (N := 1) rfl ?_); refine box_event ?hg (N := 1) ?hd (cs := #[.bool false, .string a0_1, .bool false, .string a0_3]) (t := 26) ?hr ?_; (case hd => rfl); (case hg => rfl); (case hr => first | (go_simp; done) | (go_simp; rfl)); intro gb123 hg w16 hbox hb; have n0_ := Aside0.mk (below_step (by repeat (first | (with_reducible first | exact HB.out | apply below_alloc | apply pw_below_drewN | apply below_drew1) | exact HB.out)) hb); have n1_ := Aside0.mk (hbox); have n2_ := Aside0.mk ((by rw [hg]; exact (below_size (by repeat (first | (with_reducible first | exact HB.out | apply below_alloc | apply pw_below_drewN | apply below_drew1) | exact HB.out))) : w.heap.size ≤ gb123)); have n3_ := Aside0.mk ((by rw [hg]; exact (below_size (by repeat (first | (with_reducible first | exact HB.out | apply below_alloc | apply pw_below_drewN | apply below_drew1) | exact HB.out))) : w.heap.size ≤ gb123)); clear HB; have HB := n0_; have BK123 := n1_; have GW123 := n2_; have GE123 := n3_; clear n0_ n1_ n2_ n3_; clear hb hbox hg; have hcz17_0 : w16.cell? ⟨gb123, 0, none⟩ = some (.bool false) := (blk_cell BK123.out 0).trans rfl; have hcz17_1 : w16.cell? ⟨gb123, 1, none⟩ = some (.string a0_1) := (blk_cell BK123.out 1).trans rfl; have hcz17_2 : w16.cell? ⟨gb123, 2, none⟩ = some (.bool false) := (blk_cell BK123.out 2).trans rfl; have hcz17_3 : w16.cell? ⟨gb123, 3, none⟩ = some (.string a0_3) := (blk_cell BK123.out 3).trans rfl; have hfz17_0 := blk_frozen BK123.out 0; have hfz17_1 := blk_frozen BK123.out 1; have hfz17_2 := blk_frozen BK123.out 2; have hfz17_3 := blk_frozen BK123.out 3) | ((with_reducible refine gate_callee (f := 29) rfl ?_); refine goesL_ (some 5) rfl rfl Tryz.func29 (by kernel_rfl) rfl #[.agg #[.bool false, .string a0_3]] rfl (by (try simp only [List.map_toArray, List.map_cons, List.map_nil]); first | done | rfl | (simp only [List.length_drop, List.length_take]; rfl)) ?_; (with_reducible refine (spec_IntOK.calls k false a0_3 true _ A2.out).mono ?_); rintro e w18 ⟨rfl, hb⟩; refine ⟨_, rfl, ?_⟩; have n0_ := Aside0.mk (blk_below (g := gb123) (o := .cells #[.bool false, .string a0_1, .bool false, .string a0_3] 26 (0, 0)) (by (with_reducible repeat (first | refine blk_drewN ?_ _ | refine blk_drew ?_ | refine blk_alloc ?_ _)); exact BK123.out) hb); have n1_ := Aside0.mk (below_step (by repeat (first | (with_reducible first | exact HB.out | apply below_alloc | apply pw_below_drewN | apply below_drew1 | refine below_set ?_ GE123.out) | exact HB.out)) hb); clear BK123; clear HB; have BK123 := n0_; have HB := n1_; clear n0_ n1_; (try clear hb); (try clear hb2); (try clear hk); (try clear hi); have hcz19_0 : w18.cell? ⟨gb123, 0, none⟩ = some (.bool false) := (blk_cell BK123.out 0).trans rfl; have hcz19_1 : w18.cell? ⟨gb123, 1, none⟩ = some (.string a0_1) := (blk_cell BK123.out 1).trans rfl; have hcz19_2 : w18.cell? ⟨gb123, 2, none⟩ = some (.bool false) := (blk_cell BK123.out 2).trans rfl; have hcz19_3 : w18.cell? ⟨gb123, 3, none⟩ = some (.string a0_3) := (blk_cell BK123.out 3).trans rfl; have hfz19_0 := blk_frozen BK123.out 0; have hfz19_1 := blk_frozen BK123.out 1; have hfz19_2 := blk_frozen BK123.out 2; have hfz19_3 := blk_frozen BK123.out 3) | (go_at_call 31; (with_reducible refine (spec_Ascii.calls k a0_1 true _ A9.out).mono ?_); rintro e w' ⟨rfl, ⟨nd, rfl⟩⟩))
     go_ret
     exact ⟨by first | rfl | (simp [errW_none, errW_some] <;> rfl) | (simp [*, errW_none, errW_some] <;> rfl), by repeat (first | (with_reducible first | exact HB.out | apply below_alloc | apply pw_below_drewN | apply below_drew1 | refine below_set ?_ GE123.out) | exact HB.out)⟩
   ·replace c10 := Bool.eq_false_iff.mpr c10
    subst c10
    have H1 : (some false) = some r := by rw [if_neg (show ¬ (false = true) by decide)] at H; exact H
    clear H
    have H := H1
    clear H1
    obtain rfl := Option.some.inj H
    go_enter Tryz.func32, Tryz.ntmps32
    go_wp2_with (first | ((with_reducible refine gate_dst (N := 1) rfl ?_); refine box_event ?hg (N := 1) ?hd (cs := #[.bool a0_0, .string a0_1, .bool false, .string a0_3]) (t := 26) ?hr ?_; (case hd => rfl); (case hg => rfl); (case hr => first | (go_simp; done) | (go_simp; rfl)); intro gb123 hg w20 hbox hb; have n0_ := Aside0.mk (below_step (by repeat (first | (with_reducible first | exact HB.out | apply below_alloc | apply pw_below_drewN | apply below_drew1) | exact HB.out)) hb); have n1_ := Aside0.mk (hbox); have n2_ := Aside0.mk ((by rw [hg]; exact (below_size (by repeat (first | (with_reducible first | exact HB.out | apply below_alloc | apply pw_below_drewN | apply below_drew1) | exact HB.out))) : w.heap.size ≤ gb123)); have n3_ := Aside0.mk ((by rw [hg]; exact (below_size (by repeat (first | (with_reducible first | exact HB.out | apply below_alloc | apply pw_below_drewN | apply below_drew1) | exact HB.out))) : w.heap.size ≤ gb123)); clear HB; have HB := n0_; have BK123 := n1_; have GW123 := n2_; have GE123 := n3_; clear n0_ n1_ n2_ n3_; clear hb hbox hg; have hcz21_0 : w20.cell? ⟨gb123, 0, none⟩ = some (.bool a0_0) := (blk_cell BK123.out 0).trans rfl; have hcz21_1 : w20.cell? ⟨gb123, 1, none⟩ = some (.string a0_1) := (blk_cell BK123.out 1).trans rfl; have hcz21_2 : w20.cell? ⟨gb123, 2, none⟩ = some (.bool false) := (blk_cell BK123.out 2).trans rfl; have hcz21_3 : w20.cell? ⟨gb123, 3, none⟩ = some (.string a0_3) := (blk_cell BK123.out 3).trans rfl; have hfz21_0 := blk_frozen BK123.out 0; have hfz21_1 := blk_frozen BK123.out 1; have hfz21_2 := blk_frozen BK123.out 2; have hfz21_3 := blk_frozen BK123.out 3) | ((with_reducible refine gate_callee (f := 29) rfl ?_); refine goesL_ (some 5) rfl rfl Tryz.func29 (by kernel_rfl) rfl #[.agg #[.bool false, .string a0_3]] rfl (by (try simp only [List.map_toArray, List.map_cons, List.map_nil]); first | done | rfl | (simp only [List.length_drop, List.length_take]; rfl)) ?_; (with_reducible refine (spec_IntOK.calls k false a0_3 true _ A2.out).mono ?_); rintro e w22 ⟨rfl, hb⟩; refine ⟨_, rfl, ?_⟩; have n0_ := Aside0.mk (blk_below (g := gb123) (o := .cells #[.bool a0_0, .string a0_1, .bool false, .string a0_3] 26 (0, 0)) (by (with_reducible repeat (first | refine blk_drewN ?_ _ | refine blk_drew ?_ | refine blk_alloc ?_ _)); exact BK123.out) hb); have n1_ := Aside0.mk (below_step (by repeat (first | (with_reducible first | exact HB.out | apply below_alloc | apply pw_below_drewN | apply below_drew1 | refine below_set ?_ GE123.out) | exact HB.out)) hb); clear BK123; clear HB; have BK123 := n0_; have HB := n1_; clear n0_ n1_; (try clear hb); (try clear hb2); (try clear hk); (try clear hi); have hcz23_0 : w22.cell? ⟨gb123, 0, none⟩ = some (.bool a0_0) := (blk_cell BK123.out 0).trans rfl; have hcz23_1 : w22.cell? ⟨gb123, 1, none⟩ = some (.string a0_1) := (blk_cell BK123.out 1).trans rfl; have hcz23_2 : w22.cell? ⟨gb123, 2, none⟩ = some (.bool false) := (blk_cell BK123.out 2).trans rfl; have hcz23_3 : w22.cell? ⟨gb123, 3, none⟩ = some (.string a0_3) := (blk_cell BK123.out 3).trans rfl; have hfz23_0 := blk_frozen BK123.out 0; have hfz23_1 := blk_frozen BK123.out 1; have hfz23_2 := blk_frozen BK123.out 2; have hfz23_3 := blk_frozen BK123.out 3) | (go_at_call 31; (with_reducible refine (spec_Ascii.calls k a0_1 false _ A9.out).mono ?_); rintro e w' ⟨rfl, ⟨nd, rfl⟩⟩))
    go_ret
    exact ⟨by first | rfl | (simp [errW_none, errW_some] <;> rfl) | (simp [*, errW_none, errW_some] <;> rfl), by repeat (first | (with_reducible first | exact HB.out | apply below_alloc | apply pw_below_drewN | apply below_drew1 | refine below_set ?_ GE123.out) | exact HB.out)⟩
 ·replace c3 := Bool.eq_false_iff.mpr c3
  subst c3
  have H1 : (some false) = some r := by rw [if_neg (show ¬ (false = true) by decide)] at H; exact H
  clear H
  have H := H1
  clear H1
  obtain rfl := Option.some.inj H
  go_enter Tryz.func32, Tryz.ntmps32
  go_wp2_with (first | ((with_reducible refine gate_dst (N := 1) rfl ?_); refine box_event ?hg (N := 1) ?hd (cs := #[.bool a0_0, .string a0_1, .bool a0_2, .string a0_3]) (t := 26) ?hr ?_; (case hd => rfl); (case hg => rfl); (case hr => first | (go_simp; done) | (go_simp; rfl)); intro gb123 hg w24 hbox hb; have n0_ := Aside0.mk (below_step (by repeat (first | (with_reducible first | exact HB.out | apply below_alloc | apply pw_below_drewN | apply below_drew1) | exact HB.out)) hb); have n1_ := Aside0.mk (hbox); have n2_ := Aside0.mk ((by rw [hg]; exact (below_size (by repeat (first | (with_reducible first | exact HB.out | apply below_alloc | apply pw_below_drewN | apply below_drew1) | exact HB.out))) : w.heap.size ≤ gb123)); have n3_ := Aside0.mk ((by rw [hg]; exact (below_size (by repeat (first | (with_reducible first | exact HB.out | apply below_alloc | apply pw_below_drewN | apply below_drew1) | exact HB.out))) : w.heap.size ≤ gb123)); clear HB; have HB := n0_; have BK123 := n1_; have GW123 := n2_; have GE123 := n3_; clear n0_ n1_ n2_ n3_; clear hb hbox hg; have hcz25_0 : w24.cell? ⟨gb123, 0, none⟩ = some (.bool a0_0) := (blk_cell BK123.out 0).trans rfl; have hcz25_1 : w24.cell? ⟨gb123, 1, none⟩ = some (.string a0_1) := (blk_cell BK123.out 1).trans rfl; have hcz25_2 : w24.cell? ⟨gb123, 2, none⟩ = some (.bool a0_2) := (blk_cell BK123.out 2).trans rfl; have hcz25_3 : w24.cell? ⟨gb123, 3, none⟩ = some (.string a0_3) := (blk_cell BK123.out 3).trans rfl; have hfz25_0 := blk_frozen BK123.out 0; have hfz25_1 := blk_frozen BK123.out 1; have hfz25_2 := blk_frozen BK123.out 2; have hfz25_3 := blk_frozen BK123.out 3) | ((with_reducible refine gate_callee (f := 29) rfl ?_); refine goesL_ (some 5) rfl rfl Tryz.func29 (by kernel_rfl) rfl #[.agg #[.bool a0_2, .string a0_3]] rfl (by (try simp only [List.map_toArray, List.map_cons, List.map_nil]); first | done | rfl | (simp only [List.length_drop, List.length_take]; rfl)) ?_; (with_reducible refine (spec_IntOK.calls k a0_2 a0_3 false _ A2.out).mono ?_); rintro e w26 ⟨rfl, hb⟩; refine ⟨_, rfl, ?_⟩; have n0_ := Aside0.mk (blk_below (g := gb123) (o := .cells #[.bool a0_0, .string a0_1, .bool a0_2, .string a0_3] 26 (0, 0)) (by (with_reducible repeat (first | refine blk_drewN ?_ _ | refine blk_drew ?_ | refine blk_alloc ?_ _)); exact BK123.out) hb); have n1_ := Aside0.mk (below_step (by repeat (first | (with_reducible first | exact HB.out | apply below_alloc | apply pw_below_drewN | apply below_drew1 | refine below_set ?_ GE123.out) | exact HB.out)) hb); clear BK123; clear HB; have BK123 := n0_; have HB := n1_; clear n0_ n1_; (try clear hb); (try clear hb2); (try clear hk); (try clear hi)))
  go_ret
  exact ⟨by first | rfl | (simp [errW_none, errW_some] <;> rfl) | (simp [*, errW_none, errW_some] <;> rfl), by repeat (first | (with_reducible first | exact HB.out | apply below_alloc | apply pw_below_drewN | apply below_drew1 | refine below_set ?_ GE123.out) | exact HB.out)⟩

/-! ### spec_isDigit: function 49 -/
def spec_isDigit.f (a0 : Int) : Option (Bool) := if a0 ≥ 48 then (some (decide (a0 ≤ 57))) else (some false)
set_option maxHeartbeats 8000000 in
set_option maxRecDepth 100000 in
theorem spec_isDigit.calls (a0 : Int) (r : Bool) (w : World) (h : spec_isDigit.f a0 = some r) :
  Calls Tryz.prog 49 #[.int .u8 a0] w fun e w' => e = .returned (.bool r) ∧ Drawn0 w w' := by
 have H : (if a0 ≥ 48 then (some (decide (a0 ≤ 57))) else (some false)) = some r := h
 clear h
 by_cases c2 : a0 ≥ 48
 ·rw [if_pos c2] at H
  have c2b0 : decide (48 ≤ a0) = true := decide_eq_true c2
  clear c2
  obtain rfl := Option.some.inj H
  go_enter Tryz.func49, Tryz.ntmps49
  go_wp2
  go_ret
  exact ⟨by first | rfl | (simp; done) | (simp [*]; done), by repeat (first | exact Drawn0.refl _ | apply Drawn0.step)⟩
 ·rw [if_neg c2] at H
  have c2b0 : decide (48 ≤ a0) = false := decide_eq_false c2
  clear c2
  obtain rfl := Option.some.inj H
  go_enter Tryz.func49, Tryz.ntmps49
  go_wp2
  go_ret
  exact ⟨by first | rfl | (simp; done) | (simp [*]; done), by repeat (first | exact Drawn0.refl _ | apply Drawn0.step)⟩

/-! ### spec_allDigits: function 42 -/
def spec_allDigits.l0 : Nat → ByteArray → Int → Option (Bool)
 | 0, _, _ => none
 | k + 1, x0, x3 => if x3 < (x0.size : Int) then (if 0 ≤ x3 then ((spec_isDigit.f (bt x0 x3)).bind fun t126 => (if t126 = true then (spec_allDigits.l0 k x0 (wrap64 (x3 + 1))) else (some false))) else (none)) else (some (decide ((x0.size : Int) > 0)))
def spec_allDigits.f (k : Nat) (a0 : ByteArray) : Option (Bool) := spec_allDigits.l0 k a0 0
theorem spec_allDigits.mono_l : ∀ k, (∀ y0 y1, LeO (spec_allDigits.l0 k y0 y1) (spec_allDigits.l0 (k + 1) y0 y1))
 | 0 => fun _ _ r h => by simp [spec_allDigits.l0] at h
 | k + 1 => by
  have ih0 := spec_allDigits.mono_l k
  ·intro y0 y1
   unfold spec_allDigits.l0
   repeat' first
   | (with_reducible exact ih0 _ _)
   | (with_reducible exact LeO.refl _)
   | (with_reducible exact LeO.none _)
   | (with_reducible refine LeO.ite ?_ ?_)
   | (with_reducible refine LeO.bind ?_ (fun _ => ?_))
   | exact ih0 _ _
   | exact LeO.none _
   | refine LeO.ite ?_ ?_
   | refine LeO.bind ?_ (fun _ => ?_)
theorem spec_allDigits.mono : ∀ a0 k, LeO (spec_allDigits.f k a0) (spec_allDigits.f (k + 1) a0) := by
 intro a0 k
 have ih0 := spec_allDigits.mono_l k
 unfold spec_allDigits.f
 repeat' first
   | (with_reducible exact ih0 _ _)
   | (with_reducible exact LeO.refl _)
   | (with_reducible exact LeO.none _)
   | (with_reducible refine LeO.ite ?_ ?_)
   | (with_reducible refine LeO.bind ?_ (fun _ => ?_))
   | exact ih0 _ _
   | exact LeO.none _
   | refine LeO.ite ?_ ?_
   | refine LeO.bind ?_ (fun _ => ?_)
set_option maxHeartbeats 8000000 in
set_option maxRecDepth 100000 in
theorem spec_allDigits.calls (k : Nat) (a0 : ByteArray) (r : Bool) (w : World) (h : spec_allDigits.f k a0 = some r) :
  Calls Tryz.prog 42 #[.string a0] w fun e w' => e = .returned (.bool r) ∧ Drawn0 w w' := by
 have H : (spec_allDigits.l0 k a0 0) = some r := h
 clear h
 have H' := Aside0.mk H
 clear H
 go_enter Tryz.func42, Tryz.ntmps42
 go_wp2
 go_loopg [3] k (fun kq v3 w' => ∃ (x3_1 : Int), v3 = .int .i64 x3_1 ∧ Aside0 (spec_allDigits.l0 kq a0 x3_1 = some r) ∧ Aside0 (kq ≤ k) ∧ Drawn0 w w')
 case atStart => exact ⟨(0), (by first | rfl | (simp; done) | (simp [*]; done)), H', ⟨Nat.le_refl _⟩, by repeat (first | exact Drawn0.refl _ | apply Drawn0.step)⟩
 case round =>
  clear H'
  obtain ⟨x3_1, rfl, HA, HK1, ⟨m1, rfl⟩⟩ := hrel
  cases gk with
  | zero => exact absurd HA.out (by simp [spec_allDigits.l0])
  | succ k1 =>
   have H := HA.out
   clear HA
   simp only [spec_allDigits.l0] at H
   by_cases c2 : x3_1 < (a0.size : Int)
   ·rw [if_pos c2] at H
    have c2b0 : decide (x3_1 < (a0.size : Int)) = true := decide_eq_true c2
    clear c2
    by_cases c3 : 0 ≤ x3_1
    ·rw [if_pos c3] at H
     have c3b0 : decide (0 ≤ x3_1) = true := decide_eq_true c3
     clear c3
     replace H := Option.bind_eq_some_iff.mp H
     obtain ⟨t126, A50, H⟩ := H
     replace H : (if t126 = true then (spec_allDigits.l0 k1 a0 (wrap64 (x3_1 + 1))) else (some false)) = some r := H
     have A5 := Aside0.mk A50
     clear A50
     by_cases c6 : t126 = true
     ·subst c6
      have H1 : (spec_allDigits.l0 k1 a0 (wrap64 (x3_1 + 1))) = some r := by rw [if_pos rfl] at H; exact H
      clear H
      have H := H1
      clear H1
      have H' := Aside0.mk H
      clear H
      have p4 : 0 ≤ (x3_1 : Int) := of_decide_eq_true (by first | (with_reducible assumption) | assumption)
      have q4 : x3_1 < (a0.size : Int) := of_decide_eq_true (by first | (with_reducible assumption) | assumption)
      have hx4 := bt_at a0 x3_1
      replace p4 := eq_true p4
      replace q4 := eq_true q4
      go_wp2_with (first | ((with_reducible refine gate_callee (f := 49) rfl ?_); refine goesL_ (some 13) rfl rfl Tryz.func49 (by kernel_rfl) rfl #[.int .u8 (bt a0 x3_1)] rfl (by (try simp only [List.map_toArray, List.map_cons, List.map_nil]); first | done | rfl | (simp only [List.length_drop, List.length_take]; rfl)) ?_; (with_reducible refine (spec_isDigit.calls (bt a0 x3_1) true _ A5.out).mono ?_); rintro e w' ⟨rfl, ⟨nd, rfl⟩⟩; refine ⟨_, rfl, ?_⟩))
      go_roundg k1
      case measure => have := HK1.out; omega
      case rel => exact ⟨(wrap64 (x3_1 + 1)), (by first | rfl | (simp; done) | (simp [*]; done)), H', ⟨by have := HK1.out; omega⟩, by repeat (first | exact Drawn0.refl _ | apply Drawn0.step)⟩
     ·replace c6 := Bool.eq_false_iff.mpr c6
      subst c6
      have H1 : (some false) = some r := by rw [if_neg (show ¬ (false = true) by decide)] at H; exact H
      clear H
      have H := H1
      clear H1
      obtain rfl := Option.some.inj H
      have p4 : 0 ≤ (x3_1 : Int) := of_decide_eq_true (by first | (with_reducible assumption) | assumption)
      have q4 : x3_1 < (a0.size : Int) := of_decide_eq_true (by first | (with_reducible assumption) | assumption)
      have hx4 := bt_at a0 x3_1
      replace p4 := eq_true p4
      replace q4 := eq_true q4
      go_wp2_with (first | ((with_reducible refine gate_callee (f := 49) rfl ?_); refine goesL_ (some 13) rfl rfl Tryz.func49 (by kernel_rfl) rfl #[.int .u8 (bt a0 x3_1)] rfl (by (try simp only [List.map_toArray, List.map_cons, List.map_nil]); first | done | rfl | (simp only [List.length_drop, List.length_take]; rfl)) ?_; (with_reducible refine (spec_isDigit.calls (bt a0 x3_1) false _ A5.out).mono ?_); rintro e w' ⟨rfl, ⟨nd, rfl⟩⟩; refine ⟨_, rfl, ?_⟩))
      go_ret
      exact ⟨by first | rfl | (simp; done) | (simp [*]; done), by repeat (first | exact Drawn0.refl _ | apply Drawn0.step)⟩
    ·rw [if_neg c3] at H
     exact absurd H (by simp)
   ·rw [if_neg c2] at H
    have c2b0 : decide (x3_1 < (a0.size : Int)) = false := decide_eq_false c2
    clear c2
    obtain rfl := Option.some.inj H
    go_wp2
    go_ret
    exact ⟨by first | rfl | (simp; done) | (simp [*]; done), by repeat (first | exact Drawn0.refl _ | apply Drawn0.step)⟩

/-! ### spec_IdentifiersKnown: function 33 -/
def spec_IdentifiersKnown.l0 : Nat → List ByteArray → Int → Option (Bool)
 | 0, _, _ => none
 | k + 1, x0, x3 => if x3 < (x0.length : Int) then (if 0 ≤ x3 then (if ((rdOf ByteArray.empty x0 x3).size : Int) > 1 then (if 0 < ((rdOf ByteArray.empty x0 x3).size : Int) then (if (bt (rdOf ByteArray.empty x0 x3) 0) = 45 then (if 1 ≤ ((rdOf ByteArray.empty x0 x3).size : Int) then ((spec_allDigits.f k ((rdOf ByteArray.empty x0 x3).extract 1 (rdOf ByteArray.empty x0 x3).size)).bind fun t128 => (if t128 = true then (some false) else (spec_IdentifiersKnown.l0 k x0 (wrap64 (x3 + 1))))) else (none)) else (if (bt (rdOf ByteArray.empty x0 x3) 0) = 43 then (if 1 ≤ ((rdOf ByteArray.empty x0 x3).size : Int) then ((spec_allDigits.f k ((rdOf ByteArray.empty x0 x3).extract 1 (rdOf ByteArray.empty x0 x3).size)).bind fun t129 => (if t129 = true then (some false) else (spec_IdentifiersKnown.l0 k x0 (wrap64 (x3 + 1))))) else (none)) else (spec_IdentifiersKnown.l0 k x0 (wrap64 (x3 + 1))))) else (none)) else (spec_IdentifiersKnown.l0 k x0 (wrap64 (x3 + 1)))) else (none)) else (some true)
def spec_IdentifiersKnown.f (k : Nat) (l0 : List ByteArray) : Option (Bool) := spec_IdentifiersKnown.l0 k l0 0
theorem spec_IdentifiersKnown.mono_l : ∀ k, (∀ y0 y1, LeO (spec_IdentifiersKnown.l0 k y0 y1) (spec_IdentifiersKnown.l0 (k + 1) y0 y1))
 | 0 => fun _ _ r h => by simp [spec_IdentifiersKnown.l0] at h
 | k + 1 => by
  have ih0 := spec_IdentifiersKnown.mono_l k
  ·intro y0 y1
   unfold spec_IdentifiersKnown.l0
   repeat' first
   | (with_reducible exact ih0 _ _)
   | (with_reducible exact spec_allDigits.mono _ _)
   | (with_reducible exact LeO.refl _)
   | (with_reducible exact LeO.none _)
   | (with_reducible refine LeO.ite ?_ ?_)
   | (with_reducible refine LeO.bind ?_ (fun _ => ?_))
   | exact ih0 _ _
   | exact spec_allDigits.mono _ _
   | exact LeO.none _
   | refine LeO.ite ?_ ?_
   | refine LeO.bind ?_ (fun _ => ?_)
theorem spec_IdentifiersKnown.mono : ∀ a0 k, LeO (spec_IdentifiersKnown.f k a0) (spec_IdentifiersKnown.f (k + 1) a0) := by
 intro a0 k
 have ih0 := spec_IdentifiersKnown.mono_l k
 unfold spec_IdentifiersKnown.f
 repeat' first
   | (with_reducible exact ih0 _ _)
   | (with_reducible exact spec_allDigits.mono _ _)
   | (with_reducible exact LeO.refl _)
   | (with_reducible exact LeO.none _)
   | (with_reducible refine LeO.ite ?_ ?_)
   | (with_reducible refine LeO.bind ?_ (fun _ => ?_))
   | exact ih0 _ _
   | exact spec_allDigits.mono _ _
   | exact LeO.none _
   | refine LeO.ite ?_ ?_
   | refine LeO.bind ?_ (fun _ => ?_)
set_option maxHeartbeats 8000000 in
set_option maxRecDepth 100000 in
theorem spec_IdentifiersKnown.calls (k : Nat) (A0 : Option Addr) (c0 : Nat) (l0 : List ByteArray) (r : Bool) (w : World) (hr0 : Kd.C Kd.string w A0 l0.length l0) (hc0 : l0.length ≤ c0) (h : spec_IdentifiersKnown.f k l0 = some r) :
  Calls Tryz.prog 33 #[.slice A0 l0.length c0] w fun e w' => e = .returned (.bool r) ∧ Drawn0 w w' := by
 have HR0 := Aside0.mk hr0
 have HC0 := Aside0.mk hc0
 clear hr0 hc0
 have H : (spec_IdentifiersKnown.l0 k l0 0) = some r := h
 clear h
 have H' := Aside0.mk H
 clear H
 go_enter Tryz.func33, Tryz.ntmps33
 go_wp2
 go_loopg [3] k (fun kq v3 w' => ∃ (x3_1 : Int), v3 = .int .i64 x3_1 ∧ Aside0 (spec_IdentifiersKnown.l0 kq l0 x3_1 = some r) ∧ Aside0 (kq ≤ k) ∧ Drawn0 w w')
 case atStart => exact ⟨(0), (by first | rfl | (simp; done) | (simp [*]; done)), H', ⟨Nat.le_refl _⟩, by repeat (first | exact Drawn0.refl _ | apply Drawn0.step)⟩
 case round =>
  clear H'
  obtain ⟨x3_1, rfl, HA, HK1, ⟨m1, rfl⟩⟩ := hrel
  cases gk with
  | zero => exact absurd HA.out (by simp [spec_IdentifiersKnown.l0])
  | succ k1 =>
   have H := HA.out
   clear HA
   simp only [spec_IdentifiersKnown.l0] at H
   by_cases c2 : x3_1 < (l0.length : Int)
   ·rw [if_pos c2] at H
    have c2b0 : decide (x3_1 < (l0.length : Int)) = true := decide_eq_true c2
    clear c2
    by_cases c3 : 0 ≤ x3_1
    ·rw [if_pos c3] at H
     have c3b0 : decide (0 ≤ x3_1) = true := decide_eq_true c3
     clear c3
     by_cases c4 : ((rdOf ByteArray.empty l0 x3_1).size : Int) > 1
     ·rw [if_pos c4] at H
      have c4b0 : decide (1 < ((rdOf ByteArray.empty l0 x3_1).size : Int)) = true := decide_eq_true c4
      have c4b1 : decide (1 < (rdOf ByteArray.empty l0 x3_1).size) = true := decide_eq_true (by omega)
      clear c4
      by_cases c5 : 0 < ((rdOf ByteArray.empty l0 x3_1).size : Int)
      ·rw [if_pos c5] at H
       have c5b0 : decide (0 < ((rdOf ByteArray.empty l0 x3_1).size : Int)) = true := decide_eq_true c5
       have c5b1 : decide (0 < (rdOf ByteArray.empty l0 x3_1).size) = true := decide_eq_true (by omega)
       clear c5
       by_cases c7 : (bt (rdOf ByteArray.empty l0 x3_1) 0) = 45
       ·rw [if_pos c7] at H
        have c7b0 : ((bt (rdOf ByteArray.empty l0 x3_1) 0) == 45) = true := beq_iff_eq.mpr c7
        have c7b1 : ((bt (rdOf ByteArray.empty l0 x3_1) 0) != 45) = false := bne_eq_false_iff_eq.mpr c7
        clear c7
        by_cases c8 : 1 ≤ ((rdOf ByteArray.empty l0 x3_1).size : Int)
        ·rw [if_pos c8] at H
         have c8b0 := eq_true c8
         have c8b1 : decide (1 ≤ ((rdOf ByteArray.empty l0 x3_1).size : Int)) = true := decide_eq_true c8
         clear c8
         replace H := Option.bind_eq_some_iff.mp H
         obtain ⟨t128, A90, H⟩ := H
         replace H : (if t128 = true then (some false) else (spec_IdentifiersKnown.l0 k1 l0 (wrap64 (x3_1 + 1)))) = some r := H
         have A9 := Aside0.mk A90
         clear A90
         by_cases c10 : t128 = true
         ·subst c10
          have H1 : (some false) = some r := by rw [if_pos rfl] at H; exact H
          clear H
          have H := H1
          clear H1
          obtain rfl := Option.some.inj H
          have p127 : 0 ≤ (x3_1 : Int) := of_decide_eq_true (by first | (with_reducible assumption) | assumption)
          have q127 : x3_1 < (l0.length : Int) := of_decide_eq_true (by first | (with_reducible assumption) | assumption)
          obtain ⟨ad127, e127, hx127_0⟩ := Kd.at_string HR0.out x3_1 p127 q127
          cases e127
          replace p127 := eq_true p127
          replace q127 := eq_true q127
          have p6 : 0 ≤ (0 : Int) := (by omega)
          have q6 : 0 < (rdOf ByteArray.empty l0 x3_1).size := (by have : (0 : Int) < ((rdOf ByteArray.empty l0 x3_1).size : Int) := of_decide_eq_true (by first | (with_reducible assumption) | assumption); omega)
          have hx6 : ∀ h : 0 < (rdOf ByteArray.empty l0 x3_1).size, (((rdOf ByteArray.empty l0 x3_1)[0]'h).toNat : Int) = bt (rdOf ByteArray.empty l0 x3_1) 0 := bt_at (rdOf ByteArray.empty l0 x3_1) 0
          clear p6
          have qi6 : (0 < ((rdOf ByteArray.empty l0 x3_1).size : Int)) = True := eq_true (of_decide_eq_true (by first | (with_reducible assumption) | assumption))
          replace q6 := eq_true q6
          go_wp2_with (first | (go_at_call 42; (with_reducible refine (spec_allDigits.calls k1 ((rdOf ByteArray.empty l0 x3_1).extract 1 (rdOf ByteArray.empty l0 x3_1).size) true _ A9.out).mono ?_); rintro e w' ⟨rfl, ⟨nd, rfl⟩⟩))
          go_ret
          exact ⟨by first | rfl | (simp; done) | (simp [*]; done), by repeat (first | exact Drawn0.refl _ | apply Drawn0.step)⟩
         ·replace c10 := Bool.eq_false_iff.mpr c10
          subst c10
          have H1 : (spec_IdentifiersKnown.l0 k1 l0 (wrap64 (x3_1 + 1))) = some r := by rw [if_neg (show ¬ (false = true) by decide)] at H; exact H
          clear H
          have H := H1
          clear H1
          have H' := Aside0.mk H
          clear H
          have p127 : 0 ≤ (x3_1 : Int) := of_decide_eq_true (by first | (with_reducible assumption) | assumption)
          have q127 : x3_1 < (l0.length : Int) := of_decide_eq_true (by first | (with_reducible assumption) | assumption)
          obtain ⟨ad127, e127, hx127_0⟩ := Kd.at_string HR0.out x3_1 p127 q127
          cases e127
          replace p127 := eq_true p127
          replace q127 := eq_true q127
          have p6 : 0 ≤ (0 : Int) := (by omega)
          have q6 : 0 < (rdOf ByteArray.empty l0 x3_1).size := (by have : (0 : Int) < ((rdOf ByteArray.empty l0 x3_1).size : Int) := of_decide_eq_true (by first | (with_reducible assumption) | assumption); omega)
          have hx6 : ∀ h : 0 < (rdOf ByteArray.empty l0 x3_1).size, (((rdOf ByteArray.empty l0 x3_1)[0]'h).toNat : Int) = bt (rdOf ByteArray.empty l0 x3_1) 0 := bt_at (rdOf ByteArray.empty l0 x3_1) 0
          clear p6
          have qi6 : (0 < ((rdOf ByteArray.empty l0 x3_1).size : Int)) = True := eq_true (of_decide_eq_true (by first | (with_reducible assumption) | assumption))
          replace q6 := eq_true q6
          go_wp2_with (first | (go_at_call 42; (with_reducible refine (spec_allDigits.calls k1 ((rdOf ByteArray.empty l0 x3_1).extract 1 (rdOf ByteArray.empty l0 x3_1).size) false _ A9.out).mono ?_); rintro e w' ⟨rfl, ⟨nd, rfl⟩⟩))
          go_roundg k1
          case measure => have := HK1.out; omega
          case rel => exact ⟨(wrap64 (x3_1 + 1)), (by first | rfl | (simp; done) | (simp [*]; done)), H', ⟨by have := HK1.out; omega⟩, by repeat (first | exact Drawn0.refl _ | apply Drawn0.step)⟩
        ·rw [if_neg c8] at H
         exact absurd H (by simp)
       ·rw [if_neg c7] at H
        have c7b0 : ((bt (rdOf ByteArray.empty l0 x3_1) 0) == 45) = false := beq_eq_false_iff_ne.mpr c7
        have c7b1 : ((bt (rdOf ByteArray.empty l0 x3_1) 0) != 45) = true := bne_iff_ne.mpr c7
        by_cases c12 : (bt (rdOf ByteArray.empty l0 x3_1) 0) = 43
        ·rw [if_pos c12] at H
         have c12b0 : ((bt (rdOf ByteArray.empty l0 x3_1) 0) == 43) = true := beq_iff_eq.mpr c12
         have c12b1 : ((bt (rdOf ByteArray.empty l0 x3_1) 0) != 43) = false := bne_eq_false_iff_eq.mpr c12
         clear c12
         by_cases c13 : 1 ≤ ((rdOf ByteArray.empty l0 x3_1).size : Int)
         ·rw [if_pos c13] at H
          have c13b0 := eq_true c13
          have c13b1 : decide (1 ≤ ((rdOf ByteArray.empty l0 x3_1).size : Int)) = true := decide_eq_true c13
          clear c13
          replace H := Option.bind_eq_some_iff.mp H
          obtain ⟨t129, A140, H⟩ := H
          replace H : (if t129 = true then (some false) else (spec_IdentifiersKnown.l0 k1 l0 (wrap64 (x3_1 + 1)))) = some r := H
          have A14 := Aside0.mk A140
          clear A140
          by_cases c15 : t129 = true
          ·subst c15
           have H1 : (some false) = some r := by rw [if_pos rfl] at H; exact H
           clear H
           have H := H1
           clear H1
           obtain rfl := Option.some.inj H
           have p127 : 0 ≤ (x3_1 : Int) := of_decide_eq_true (by first | (with_reducible assumption) | assumption)
           have q127 : x3_1 < (l0.length : Int) := of_decide_eq_true (by first | (with_reducible assumption) | assumption)
           obtain ⟨ad127, e127, hx127_0⟩ := Kd.at_string HR0.out x3_1 p127 q127
           cases e127
           replace p127 := eq_true p127
           replace q127 := eq_true q127
           have p6 : 0 ≤ (0 : Int) := (by omega)
           have q6 : 0 < (rdOf ByteArray.empty l0 x3_1).size := (by have : (0 : Int) < ((rdOf ByteArray.empty l0 x3_1).size : Int) := of_decide_eq_true (by first | (with_reducible assumption) | assumption); omega)
           have hx6 : ∀ h : 0 < (rdOf ByteArray.empty l0 x3_1).size, (((rdOf ByteArray.empty l0 x3_1)[0]'h).toNat : Int) = bt (rdOf ByteArray.empty l0 x3_1) 0 := bt_at (rdOf ByteArray.empty l0 x3_1) 0
           clear p6
           have qi6 : (0 < ((rdOf ByteArray.empty l0 x3_1).size : Int)) = True := eq_true (of_decide_eq_true (by first | (with_reducible assumption) | assumption))
           replace q6 := eq_true q6
           have p11 : 0 ≤ (0 : Int) := (by omega)
           have q11 : 0 < (rdOf ByteArray.empty l0 x3_1).size := (by have : (0 : Int) < ((rdOf ByteArray.empty l0 x3_1).size : Int) := of_decide_eq_true (by first | (with_reducible assumption) | assumption); omega)
           have hx11 : ∀ h : 0 < (rdOf ByteArray.empty l0 x3_1).size, (((rdOf ByteArray.empty l0 x3_1)[0]'h).toNat : Int) = bt (rdOf ByteArray.empty l0 x3_1) 0 := bt_at (rdOf ByteArray.empty l0 x3_1) 0
           clear p11
           have qi11 : (0 < ((rdOf ByteArray.empty l0 x3_1).size : Int)) = True := eq_true (of_decide_eq_true (by first | (with_reducible assumption) | assumption))
           replace q11 := eq_true q11
           go_wp2_with (first | (go_at_call 42; (with_reducible refine (spec_allDigits.calls k1 ((rdOf ByteArray.empty l0 x3_1).extract 1 (rdOf ByteArray.empty l0 x3_1).size) true _ A14.out).mono ?_); rintro e w' ⟨rfl, ⟨nd, rfl⟩⟩))
           go_ret
           exact ⟨by first | rfl | (simp; done) | (simp [*]; done), by repeat (first | exact Drawn0.refl _ | apply Drawn0.step)⟩
          ·replace c15 := Bool.eq_false_iff.mpr c15
           subst c15
           have H1 : (spec_IdentifiersKnown.l0 k1 l0 (wrap64 (x3_1 + 1))) = some r := by rw [if_neg (show ¬ (false = true) by decide)] at H; exact H
           clear H
           have H := H1
           clear H1
           have H' := Aside0.mk H
           clear H
           have p127 : 0 ≤ (x3_1 : Int) := of_decide_eq_true (by first | (with_reducible assumption) | assumption)
           have q127 : x3_1 < (l0.length : Int) := of_decide_eq_true (by first | (with_reducible assumption) | assumption)
           obtain ⟨ad127, e127, hx127_0⟩ := Kd.at_string HR0.out x3_1 p127 q127
           cases e127
           replace p127 := eq_true p127
           replace q127 := eq_true q127
           have p6 : 0 ≤ (0 : Int) := (by omega)
           have q6 : 0 < (rdOf ByteArray.empty l0 x3_1).size := (by have : (0 : Int) < ((rdOf ByteArray.empty l0 x3_1).size : Int) := of_decide_eq_true (by first | (with_reducible assumption) | assumption); omega)
           have hx6 : ∀ h : 0 < (rdOf ByteArray.empty l0 x3_1).size, (((rdOf ByteArray.empty l0 x3_1)[0]'h).toNat : Int) = bt (rdOf ByteArray.empty l0 x3_1) 0 := bt_at (rdOf ByteArray.empty l0 x3_1) 0
           clear p6
           have qi6 : (0 < ((rdOf ByteArray.empty l0 x3_1).size : Int)) = True := eq_true (of_decide_eq_true (by first | (with_reducible assumption) | assumption))
           replace q6 := eq_true q6
           have p11 : 0 ≤ (0 : Int) := (by omega)
           have q11 : 0 < (rdOf ByteArray.empty l0 x3_1).size := (by have : (0 : Int) < ((rdOf ByteArray.empty l0 x3_1).size : Int) := of_decide_eq_true (by first | (with_reducible assumption) | assumption); omega)
           have hx11 : ∀ h : 0 < (rdOf ByteArray.empty l0 x3_1).size, (((rdOf ByteArray.empty l0 x3_1)[0]'h).toNat : Int) = bt (rdOf ByteArray.empty l0 x3_1) 0 := bt_at (rdOf ByteArray.empty l0 x3_1) 0
           clear p11
           have qi11 : (0 < ((rdOf ByteArray.empty l0 x3_1).size : Int)) = True := eq_true (of_decide_eq_true (by first | (with_reducible assumption) | assumption))
           replace q11 := eq_true q11
           go_wp2_with (first | (go_at_call 42; (with_reducible refine (spec_allDigits.calls k1 ((rdOf ByteArray.empty l0 x3_1).extract 1 (rdOf ByteArray.empty l0 x3_1).size) false _ A14.out).mono ?_); rintro e w' ⟨rfl, ⟨nd, rfl⟩⟩))
           go_roundg k1
           case measure => have := HK1.out; omega
           case rel => exact ⟨(wrap64 (x3_1 + 1)), (by first | rfl | (simp; done) | (simp [*]; done)), H', ⟨by have := HK1.out; omega⟩, by repeat (first | exact Drawn0.refl _ | apply Drawn0.step)⟩
         ·rw [if_neg c13] at H
          exact absurd H (by simp)
        ·rw [if_neg c12] at H
         have c12b0 : ((bt (rdOf ByteArray.empty l0 x3_1) 0) == 43) = false := beq_eq_false_iff_ne.mpr c12
         have c12b1 : ((bt (rdOf ByteArray.empty l0 x3_1) 0) != 43) = true := bne_iff_ne.mpr c12
         have H' := Aside0.mk H
         clear H
         have p127 : 0 ≤ (x3_1 : Int) := of_decide_eq_true (by first | (with_reducible assumption) | assumption)
         have q127 : x3_1 < (l0.length : Int) := of_decide_eq_true (by first | (with_reducible assumption) | assumption)
         obtain ⟨ad127, e127, hx127_0⟩ := Kd.at_string HR0.out x3_1 p127 q127
         cases e127
         replace p127 := eq_true p127
         replace q127 := eq_true q127
         have p6 : 0 ≤ (0 : Int) := (by omega)
         have q6 : 0 < (rdOf ByteArray.empty l0 x3_1).size := (by have : (0 : Int) < ((rdOf ByteArray.empty l0 x3_1).size : Int) := of_decide_eq_true (by first | (with_reducible assumption) | assumption); omega)
         have hx6 : ∀ h : 0 < (rdOf ByteArray.empty l0 x3_1).size, (((rdOf ByteArray.empty l0 x3_1)[0]'h).toNat : Int) = bt (rdOf ByteArray.empty l0 x3_1) 0 := bt_at (rdOf ByteArray.empty l0 x3_1) 0
         clear p6
         have qi6 : (0 < ((rdOf ByteArray.empty l0 x3_1).size : Int)) = True := eq_true (of_decide_eq_true (by first | (with_reducible assumption) | assumption))
         replace q6 := eq_true q6
         have p11 : 0 ≤ (0 : Int) := (by omega)
         have q11 : 0 < (rdOf ByteArray.empty l0 x3_1).size := (by have : (0 : Int) < ((rdOf ByteArray.empty l0 x3_1).size : Int) := of_decide_eq_true (by first | (with_reducible assumption) | assumption); omega)
         have hx11 : ∀ h : 0 < (rdOf ByteArray.empty l0 x3_1).size, (((rdOf ByteArray.empty l0 x3_1)[0]'h).toNat : Int) = bt (rdOf ByteArray.empty l0 x3_1) 0 := bt_at (rdOf ByteArray.empty l0 x3_1) 0
         clear p11
         have qi11 : (0 < ((rdOf ByteArray.empty l0 x3_1).size : Int)) = True := eq_true (of_decide_eq_true (by first | (with_reducible assumption) | assumption))
         replace q11 := eq_true q11
         go_wp2
         go_roundg k1
         case measure => have := HK1.out; omega
         case rel => exact ⟨(wrap64 (x3_1 + 1)), (by first | rfl | (simp; done) | (simp [*]; done)), H', ⟨by have := HK1.out; omega⟩, by repeat (first | exact Drawn0.refl _ | apply Drawn0.step)⟩
      ·rw [if_neg c5] at H
       exact absurd H (by simp)
     ·rw [if_neg c4] at H
      have c4b0 : decide (1 < ((rdOf ByteArray.empty l0 x3_1).size : Int)) = false := decide_eq_false c4
      have c4b1 : decide (1 < (rdOf ByteArray.empty l0 x3_1).size) = false := decide_eq_false (by omega)
      clear c4
      have H' := Aside0.mk H
      clear H
      have p127 : 0 ≤ (x3_1 : Int) := of_decide_eq_true (by first | (with_reducible assumption) | assumption)
      have q127 : x3_1 < (l0.length : Int) := of_decide_eq_true (by first | (with_reducible assumption) | assumption)
      obtain ⟨ad127, e127, hx127_0⟩ := Kd.at_string HR0.out x3_1 p127 q127
      cases e127
      replace p127 := eq_true p127
      replace q127 := eq_true q127
      go_wp2
      go_roundg k1
      case measure => have := HK1.out; omega
      case rel => exact ⟨(wrap64 (x3_1 + 1)), (by first | rfl | (simp; done) | (simp [*]; done)), H', ⟨by have := HK1.out; omega⟩, by repeat (first | exact Drawn0.refl _ | apply Drawn0.step)⟩
    ·rw [if_neg c3] at H
     exact absurd H (by simp)
   ·rw [if_neg c2] at H
    have c2b0 : decide (x3_1 < (l0.length : Int)) = false := decide_eq_false c2
    clear c2
    obtain rfl := Option.some.inj H
    go_wp2
    go_ret
    exact ⟨by first | rfl | (simp; done) | (simp [*]; done), by repeat (first | exact Drawn0.refl _ | apply Drawn0.step)⟩

end Go.Proofs.YtipfmkfpaglkkaaGreatDoor.Z
