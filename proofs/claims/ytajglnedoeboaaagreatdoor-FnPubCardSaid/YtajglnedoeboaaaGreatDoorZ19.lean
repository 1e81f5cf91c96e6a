-- Written by a program of this session (myprint.py).
import Derived.Test.YtajglnedoeboaaaGreatDoorZ0
import Derived.Test.YtajglnedoeboaaaGreatDoorZ2
import Derived.Test.YtajglnedoeboaaaGreatDoorZ3
import Derived.Test.YtajglnedoeboaaaGreatDoorZ4
import Derived.Test.YtajglnedoeboaaaGreatDoorZ17
import Derived.Test.YtajglnedoeboaaaGreatDoorZ18
import Derived.Test.YtajglnedoeboaaaGreatDoorGe
namespace Go.Proofs.YtajglnedoeboaaaGreatDoor.Z
open Go.Proofs.YtajglnedoeboaaaGreatDoor.Gw
open Go.RowKit Go.Proofs.YtajglnedoeboaaaGreatDoorW.PrintWords Go.Proofs.YtajglnedoeboaaaGreatDoorW.PrintLast Go.Proofs.YtajglnedoeboaaaGreatDoorW.PrintMore
attribute [local go_sem high] Go.Proofs.YtajglnedoeboaaaGreatDoor.Ge.gtr_str
attribute [local go_sem] max2_int min2_int max_two min_two max_three min_three max_four min_four   -- for this text's walks alone
set_option linter.unusedVariables false
set_option linter.unusedSimpArgs false

/-! ### laws_FnPub: function 3 -/
def laws_FnPub.j0 : Nat → Bool → Bool → List (S66) → ByteArray → ByteArray → Bool → List (S66) → ByteArray → ByteArray → Option (Bool)
  | 0, _, _, _, _, _, _, _, _, _ => none
  | k + 1, x18, x242000, x242001, x242002, x242003, x243000, x243001, x243002, x243003 => if x18 = true then (some true) else ((laws_likes.f k (([(⟨x242000, x242001, x242002, x242003⟩ : S24), (⟨x243000, x243001, x243002, x243003⟩ : S24)] : List (S24)))).bind fun t248 => (if t248 = true then ((spec_PubCompare.f k x242000 x242001 x242002 x242003 x243000 x243001 x243002 x243003).bind fun bt249 => ((impl_PubCompare.f k x242000 x242001 x242002 x242003 x243000 x243001 x243002 x243003).bind fun bt251 => ((impl_PubCompare.f k x243000 x243001 x243002 x243003 x242000 x242001 x242002 x242003).bind fun bt253 => (if bt251.1 = bt249.1 then (if (bt251.2 == bt249.2) = true then (if (bt253.2 == bt249.2) = true then ((laws_turned.f bt251.1 bt253.1).bind fun t255 => (some t255)) else (some false)) else (some false)) else (some false))))) else (some true)))
def laws_FnPub.f (k : Nat) (a0_0 : Bool) (l0_1 : List (S66)) (a0_2 : ByteArray) (a0_3 : ByteArray) (a1_0 : Bool) (l1_1 : List (S66)) (a1_2 : ByteArray) (a1_3 : ByteArray) : Option (Bool) := (laws_zzFits4.f k a0_0 l0_1 a0_2 a0_3).bind fun t243 => (if t243 = true then ((laws_zzFits4.f k a1_0 l1_1 a1_2 a1_3).bind fun t244 => (laws_FnPub.j0 k (!t244) a0_0 l0_1 a0_2 a0_3 a1_0 l1_1 a1_2 a1_3)) else (laws_FnPub.j0 k true a0_0 l0_1 a0_2 a0_3 a1_0 l1_1 a1_2 a1_3))
theorem laws_FnPub.mono_l : ∀ k, (∀ y0 y1 y2 y3 y4 y5 y6 y7 y8, LeO (laws_FnPub.j0 k y0 y1 y2 y3 y4 y5 y6 y7 y8) (laws_FnPub.j0 (k + 1) y0 y1 y2 y3 y4 y5 y6 y7 y8))
  | 0 => fun _ _ _ _ _ _ _ _ _ r h => by simp [laws_FnPub.j0] at h
  | k + 1 => by
    have ih0 := laws_FnPub.mono_l k
    · intro y0 y1 y2 y3 y4 y5 y6 y7 y8
      unfold laws_FnPub.j0
      repeat' first
      | (with_reducible exact ih0 _ _ _ _ _ _ _ _ _)
      | (with_reducible exact impl_PubCompare.mono _ _ _ _ _ _ _ _ _)
      | (with_reducible exact laws_likes.mono _ _)
      | (with_reducible exact laws_zzFits4.mono _ _ _ _ _)
      | (with_reducible exact spec_PubCompare.mono _ _ _ _ _ _ _ _ _)
      | (with_reducible exact LeO.refl _)
      | (with_reducible exact LeO.none _)
      | (with_reducible refine LeO.ite ?_ ?_)
      | (with_reducible refine LeO.bind ?_ (fun _ => ?_))
      | exact ih0 _ _ _ _ _ _ _ _ _
      | exact impl_PubCompare.mono _ _ _ _ _ _ _ _ _
      | exact laws_likes.mono _ _
      | exact laws_zzFits4.mono _ _ _ _ _
      | exact spec_PubCompare.mono _ _ _ _ _ _ _ _ _
      | exact LeO.none _
      | refine LeO.ite ?_ ?_
      | refine LeO.bind ?_ (fun _ => ?_)
theorem laws_FnPub.mono : ∀ a0 a1 a2 a3 a4 a5 a6 a7 k, LeO (laws_FnPub.f k a0 a1 a2 a3 a4 a5 a6 a7) (laws_FnPub.f (k + 1) a0 a1 a2 a3 a4 a5 a6 a7) := by
  intro a0 a1 a2 a3 a4 a5 a6 a7 k
  have ih0 := laws_FnPub.mono_l k
  unfold laws_FnPub.f
  repeat' first
      | (with_reducible exact ih0 _ _ _ _ _ _ _ _ _)
      | (with_reducible exact impl_PubCompare.mono _ _ _ _ _ _ _ _ _)
      | (with_reducible exact laws_likes.mono _ _)
      | (with_reducible exact laws_zzFits4.mono _ _ _ _ _)
      | (with_reducible exact spec_PubCompare.mono _ _ _ _ _ _ _ _ _)
      | (with_reducible exact LeO.refl _)
      | (with_reducible exact LeO.none _)
      | (with_reducible refine LeO.ite ?_ ?_)
      | (with_reducible refine LeO.bind ?_ (fun _ => ?_))
      | exact ih0 _ _ _ _ _ _ _ _ _
      | exact impl_PubCompare.mono _ _ _ _ _ _ _ _ _
      | exact laws_likes.mono _ _
      | exact laws_zzFits4.mono _ _ _ _ _
      | exact spec_PubCompare.mono _ _ _ _ _ _ _ _ _
      | exact LeO.none _
      | refine LeO.ite ?_ ?_
      | refine LeO.bind ?_ (fun _ => ?_)
set_option maxHeartbeats 8000000 in
set_option maxRecDepth 100000 in
theorem laws_FnPub.calls (k : Nat) (a0_0 : Bool) (P0_1_ : Nat → Prop) (A0_1 : Option Addr) (c0_1 : Nat) (l0_1 : List (S66)) (a0_2 : ByteArray) (a0_3 : ByteArray) (a1_0 : Bool) (P1_1_ : Nat → Prop) (A1_1 : Option Addr) (c1_1 : Nat) (l1_1 : List (S66)) (a1_2 : ByteArray) (a1_3 : ByteArray) (r : Bool) (w : World) (hs0_1 : Kd.V k66 66 w w.heap.size (fun k_ => P0_1_ k_) (.slice A0_1 l0_1.length c0_1) l0_1) (hs1_1 : Kd.V k66 66 w w.heap.size (fun k_ => P1_1_ k_) (.slice A1_1 l1_1.length c1_1) l1_1) (hG : GW w) (h : laws_FnPub.f k a0_0 l0_1 a0_2 a0_3 a1_0 l1_1 a1_2 a1_3 = some r) :
    Calls Tryz.prog 3 #[.agg #[.bool a0_0, .slice A0_1 l0_1.length c0_1, .string a0_2, .string a0_3], .agg #[.bool a1_0, .slice A1_1 l1_1.length c1_1, .string a1_2, .string a1_3]] w fun e w' => e = .returned (.bool r) ∧ Below w.heap.size w w' := by
  have HG := Aside0.mk hG
  clear hG
  have hu24 := Tryz.underlying24
  have HO0_1 := Aside0.mk (show Kd.V k66 66 w w.heap.size (fun k_ => ((P0_1_ k_ ∨ P1_1_ k_) ∨ w.heap.size ≤ k_)) (.slice A0_1 l0_1.length c0_1) l0_1 from Kd.V_mono hs0_1 (fun k_ hk => .inl (.inl hk)))
  have HO1_1 := Aside0.mk (show Kd.V k66 66 w w.heap.size (fun k_ => ((P0_1_ k_ ∨ P1_1_ k_) ∨ w.heap.size ≤ k_)) (.slice A1_1 l1_1.length c1_1) l1_1 from Kd.V_mono hs1_1 (fun k_ hk => .inl (.inr hk)))
  have HB := Aside0.mk (Below.refl w.heap.size w)
  have H : ((laws_zzFits4.f k a0_0 l0_1 a0_2 a0_3).bind fun t243 => (if t243 = true then ((laws_zzFits4.f k a1_0 l1_1 a1_2 a1_3).bind fun t244 => (laws_FnPub.j0 k (!t244) a0_0 l0_1 a0_2 a0_3 a1_0 l1_1 a1_2 a1_3)) else (laws_FnPub.j0 k true a0_0 l0_1 a0_2 a0_3 a1_0 l1_1 a1_2 a1_3))) = some r := h
  clear h
  have HC3 := Aside0.mk H
  clear H
  go_enter Tryz.func3, Tryz.ntmps3
  go_upto_region 1 with (first | ((with_reducible refine gate_dst (N := 2) rfl ?_); refine box_event ?hg (N := 2) ?hd (cs := #[.bool a0_0, .slice A0_1 l0_1.length c0_1, .string a0_2, .string a0_3]) (t := 24) ?hr ?_; (case hd => rfl); (case hg => rfl); (case hr => first | (go_simp; done) | (go_simp; rfl)); intro gb241 hg w4 hbox hb; have n0_ := Aside0.mk (Kd.V_below (Kd.V_elderB (by (with_reducible repeat (first | apply Kd.V_alloc | apply Kd.V_drewN | apply Kd.V_drew)); exact HO0_1.out) gb241 (Nat.le_of_eq hg.symm)) hb); have n1_ := Aside0.mk (Kd.V_below (Kd.V_elderB (by (with_reducible repeat (first | apply Kd.V_alloc | apply Kd.V_drewN | apply Kd.V_drew)); exact HO1_1.out) gb241 (Nat.le_of_eq hg.symm)) hb); have n2_ := Aside0.mk (below_step (by repeat (first | (with_reducible first | exact HB.out | apply below_alloc | apply pw_below_drewN | apply below_drew1) | exact HB.out)) hb); have n3_ := Aside0.mk (hbox); have n4_ := Aside0.mk ((by rw [hg]; exact (below_size (by repeat (first | (with_reducible first | exact HB.out | apply below_alloc | apply pw_below_drewN | apply below_drew1) | exact HB.out))) : w.heap.size ≤ gb241)); have n5_ := Aside0.mk ((by rw [hg]; exact (below_size (by repeat (first | (with_reducible first | exact HB.out | apply below_alloc | apply pw_below_drewN | apply below_drew1) | exact HB.out))) : w.heap.size ≤ gb241)); clear HO0_1; clear HO1_1; clear HB; have HO0_1 := n0_; have HO1_1 := n1_; have HB := n2_; have BK241 := n3_; have GW241 := n4_; have GE241 := n5_; clear n0_ n1_ n2_ n3_ n4_ n5_; clear hb hbox hg) | ((with_reducible refine gate_dst (N := 3) rfl ?_); refine box_event ?hg (N := 3) ?hd (cs := #[.bool a1_0, .slice A1_1 l1_1.length c1_1, .string a1_2, .string a1_3]) (t := 24) ?hr ?_; (case hd => rfl); (case hg => rfl); (case hr => first | (go_simp; done) | (go_simp; rfl)); intro gb242 hg w5 hbox hb; have n0_ := Aside0.mk (Kd.V_below (Kd.V_elderB (by (with_reducible repeat (first | apply Kd.V_alloc | apply Kd.V_drewN | apply Kd.V_drew)); exact HO0_1.out) gb242 (Nat.le_of_eq hg.symm)) hb); have n1_ := Aside0.mk (Kd.V_below (Kd.V_elderB (by (with_reducible repeat (first | apply Kd.V_alloc | apply Kd.V_drewN | apply Kd.V_drew)); exact HO1_1.out) gb242 (Nat.le_of_eq hg.symm)) hb); have n2_ := Aside0.mk (blk_below (g := gb241) (o := .cells #[.bool a0_0, .slice A0_1 l0_1.length c0_1, .string a0_2, .string a0_3] 24 (0, 0)) (by (with_reducible repeat (first | refine blk_drewN ?_ _ | refine blk_drew ?_ | refine blk_alloc ?_ _)); exact BK241.out) hb); have n3_ := Aside0.mk (below_step (by repeat (first | (with_reducible first | exact HB.out | apply below_alloc | apply pw_below_drewN | apply below_drew1 | refine below_set ?_ GE241.out) | exact HB.out)) hb); have n4_ := Aside0.mk (hbox); have n5_ := Aside0.mk ((by rw [hg]; exact (below_size (by repeat (first | (with_reducible first | exact HB.out | apply below_alloc | apply pw_below_drewN | apply below_drew1 | refine below_set ?_ GE241.out) | exact HB.out))) : w.heap.size ≤ gb242)); have n6_ := Aside0.mk ((by rw [hg]; exact (below_size (by repeat (first | (with_reducible first | exact HB.out | apply below_alloc | apply pw_below_drewN | apply below_drew1 | refine below_set ?_ GE241.out) | exact HB.out))) : w.heap.size ≤ gb242)); have n7_ := Aside0.mk ((by rw [hg]; exact Nat.ne_of_lt (blk_lt (g := gb241) (o := .cells #[.bool a0_0, .slice A0_1 l0_1.length c0_1, .string a0_2, .string a0_3] 24 (0, 0)) (by (with_reducible repeat (first | refine blk_drewN ?_ _ | refine blk_drew ?_ | refine blk_alloc ?_ _)); exact BK241.out)) : gb241 ≠ gb242)); have n8_ := Aside0.mk ((by rw [hg]; exact Nat.ne_of_gt (blk_lt (g := gb241) (o := .cells #[.bool a0_0, .slice A0_1 l0_1.length c0_1, .string a0_2, .string a0_3] 24 (0, 0)) (by (with_reducible repeat (first | refine blk_drewN ?_ _ | refine blk_drew ?_ | refine blk_alloc ?_ _)); exact BK241.out)) : gb242 ≠ gb241)); clear HO0_1; clear HO1_1; clear BK241; clear HB; have HO0_1 := n0_; have HO1_1 := n1_; have BK241 := n2_; have HB := n3_; have BK242 := n4_; have GW242 := n5_; have GE242 := n6_; have NB241_242 := n7_; have NB242_241 := n8_; clear n0_ n1_ n2_ n3_ n4_ n5_ n6_ n7_ n8_; clear hb hbox hg))
  (try simp only [Act.put, List.setIfInBounds_toArray, List.set_cons_zero, List.set_cons_succ])
  go_cut [18] (fun v18 wc => ∃ (kq : Nat) (x18_2 : Bool), v18 = .bool x18_2 ∧ Aside0 (laws_FnPub.j0 kq x18_2 a0_0 l0_1 a0_2 a0_3 a1_0 l1_1 a1_2 a1_3 = some r) ∧ Aside0 (kq ≤ k) ∧ Aside0 (Kd.V k66 66 wc w.heap.size (fun k_ => ((P0_1_ k_ ∨ P1_1_ k_) ∨ w.heap.size ≤ k_) ∧ k_ ≠ gb241 ∧ k_ ≠ gb242) (.slice A0_1 l0_1.length c0_1) l0_1) ∧ Aside0 (Kd.V k66 66 wc w.heap.size (fun k_ => ((P0_1_ k_ ∨ P1_1_ k_) ∨ w.heap.size ≤ k_) ∧ k_ ≠ gb241 ∧ k_ ≠ gb242) (.slice A1_1 l1_1.length c1_1) l1_1) ∧ Aside0 (wc.heap[gb241]? = some (.cells #[.bool a0_0, (.slice A0_1 l0_1.length c0_1), .string a0_2, .string a0_3] 24 (0, 0))) ∧ Aside0 (wc.heap[gb242]? = some (.cells #[.bool a1_0, (.slice A1_1 l1_1.length c1_1), .string a1_2, .string a1_3] 24 (0, 0))) ∧ Aside0 (Below w.heap.size w wc))
  case first =>
    have H := HC3.out
    clear HC3
    replace H := Option.bind_eq_some_iff.mp H
    obtain ⟨t243, A60, H⟩ := H
    replace H : (if t243 = true then ((laws_zzFits4.f k a1_0 l1_1 a1_2 a1_3).bind fun t244 => (laws_FnPub.j0 k (!t244) a0_0 l0_1 a0_2 a0_3 a1_0 l1_1 a1_2 a1_3)) else (laws_FnPub.j0 k true a0_0 l0_1 a0_2 a0_3 a1_0 l1_1 a1_2 a1_3)) = some r := H
    have A6 := Aside0.mk A60
    clear A60
    by_cases c7 : t243 = true
    · subst c7
      have H1 : ((laws_zzFits4.f k a1_0 l1_1 a1_2 a1_3).bind fun t244 => (laws_FnPub.j0 k (!t244) a0_0 l0_1 a0_2 a0_3 a1_0 l1_1 a1_2 a1_3)) = some r := by rw [if_pos rfl] at H; exact H
      clear H
      have H := H1
      clear H1
      replace H := Option.bind_eq_some_iff.mp H
      obtain ⟨t244, A80, H⟩ := H
      replace H : (laws_FnPub.j0 k (!t244) a0_0 l0_1 a0_2 a0_3 a1_0 l1_1 a1_2 a1_3) = some r := H
      have A8 := Aside0.mk A80
      clear A80
      have H' := Aside0.mk H
      clear H
      have hnb9 := NB241_242.out
      have hnc9 := NB242_241.out
      have hcz10_0 : w5.cell? ⟨gb241, 0, none⟩ = some (.bool a0_0) := (blk_cell BK241.out 0).trans rfl
      have hcz10_1 : w5.cell? ⟨gb241, 1, none⟩ = some (.slice A0_1 l0_1.length c0_1) := (blk_cell BK241.out 1).trans rfl
      have hcz10_2 : w5.cell? ⟨gb241, 2, none⟩ = some (.string a0_2) := (blk_cell BK241.out 2).trans rfl
      have hcz10_3 : w5.cell? ⟨gb241, 3, none⟩ = some (.string a0_3) := (blk_cell BK241.out 3).trans rfl
      have hfz10_0 := blk_frozen BK241.out 0
      have hfz10_1 := blk_frozen BK241.out 1
      have hfz10_2 := blk_frozen BK241.out 2
      have hfz10_3 := blk_frozen BK241.out 3
      go_wp2_with (first | ((with_reducible refine gate_callee (f := 6) rfl ?_); refine goesL_ (some 12) rfl rfl Tryz.func6 (by kernel_rfl) rfl #[.agg #[.bool a0_0, .slice A0_1 l0_1.length c0_1, .string a0_2, .string a0_3]] rfl (by (try simp only [List.map_toArray, List.map_cons, List.map_nil]); first | done | rfl | (simp only [List.length_drop, List.length_take]; rfl)) ?_; (with_reducible refine (laws_zzFits4.calls k a0_0 _ _ l0_1 a0_2 a0_3 true _ ?side1 ?side2 A6.out).mono ?_); (case side1 => repeat (first | exact (Kd.V_reads' HO0_1.out).2.2 | (with_reducible refine Kd.C_alloc ?_ _) | (with_reducible refine Kd.C_drewN ?_ _) | (with_reducible refine Kd.C_drew ?_))); (case side2 => exact (Kd.V_reads' HO0_1.out).2.1); rintro e w11 ⟨rfl, hb⟩; refine ⟨_, rfl, ?_⟩; have n0_ := Aside0.mk (Kd.V_below (by (with_reducible repeat (first | apply Kd.V_alloc | apply Kd.V_drewN | apply Kd.V_drew)); exact HO0_1.out) hb); have n1_ := Aside0.mk (Kd.V_below (by (with_reducible repeat (first | apply Kd.V_alloc | apply Kd.V_drewN | apply Kd.V_drew)); exact HO1_1.out) hb); have n2_ := Aside0.mk (blk_below (g := gb241) (o := .cells #[.bool a0_0, .slice A0_1 l0_1.length c0_1, .string a0_2, .string a0_3] 24 (0, 0)) (by (with_reducible repeat (first | refine blk_drewN ?_ _ | refine blk_drew ?_ | refine blk_alloc ?_ _)); exact BK241.out) hb); have n3_ := Aside0.mk (blk_below (g := gb242) (o := .cells #[.bool a1_0, .slice A1_1 l1_1.length c1_1, .string a1_2, .string a1_3] 24 (0, 0)) (by (with_reducible repeat (first | refine blk_drewN ?_ _ | refine blk_drew ?_ | refine blk_alloc ?_ _)); exact BK242.out) hb); have n4_ := Aside0.mk (below_step (by repeat (first | (with_reducible first | exact HB.out | apply below_alloc | apply pw_below_drewN | apply below_drew1 | refine below_set ?_ GE241.out | refine below_set ?_ GE242.out) | exact HB.out)) hb); clear HO0_1; clear HO1_1; clear BK241; clear BK242; clear HB; have HO0_1 := n0_; have HO1_1 := n1_; have BK241 := n2_; have BK242 := n3_; have HB := n4_; clear n0_ n1_ n2_ n3_ n4_; (try clear hb); (try clear hb2); (try clear hk); (try clear hi); have hcz12_0 : w11.cell? ⟨gb242, 0, none⟩ = some (.bool a1_0) := (blk_cell BK242.out 0).trans rfl; have hcz12_1 : w11.cell? ⟨gb242, 1, none⟩ = some (.slice A1_1 l1_1.length c1_1) := (blk_cell BK242.out 1).trans rfl; have hcz12_2 : w11.cell? ⟨gb242, 2, none⟩ = some (.string a1_2) := (blk_cell BK242.out 2).trans rfl; have hcz12_3 : w11.cell? ⟨gb242, 3, none⟩ = some (.string a1_3) := (blk_cell BK242.out 3).trans rfl; have hfz12_0 := blk_frozen BK242.out 0; have hfz12_1 := blk_frozen BK242.out 1; have hfz12_2 := blk_frozen BK242.out 2; have hfz12_3 := blk_frozen BK242.out 3) | (go_at_call 6; (with_reducible refine (laws_zzFits4.calls k a1_0 _ _ l1_1 a1_2 a1_3 t244 _ ?side1 ?side2 A8.out).mono ?_); (case side1 => repeat (first | exact (Kd.V_reads' HO1_1.out).2.2 | (with_reducible refine Kd.C_alloc ?_ _) | (with_reducible refine Kd.C_drewN ?_ _) | (with_reducible refine Kd.C_drew ?_))); (case side2 => exact (Kd.V_reads' HO1_1.out).2.1); rintro e w13 ⟨rfl, hb⟩; have n0_ := Aside0.mk (Kd.V_below (by (with_reducible repeat (first | apply Kd.V_alloc | apply Kd.V_drewN | apply Kd.V_drew)); exact HO0_1.out) hb); have n1_ := Aside0.mk (Kd.V_below (by (with_reducible repeat (first | apply Kd.V_alloc | apply Kd.V_drewN | apply Kd.V_drew)); exact HO1_1.out) hb); have n2_ := Aside0.mk (blk_below (g := gb241) (o := .cells #[.bool a0_0, .slice A0_1 l0_1.length c0_1, .string a0_2, .string a0_3] 24 (0, 0)) (by (with_reducible repeat (first | refine blk_drewN ?_ _ | refine blk_drew ?_ | refine blk_alloc ?_ _)); exact BK241.out) hb); have n3_ := Aside0.mk (blk_below (g := gb242) (o := .cells #[.bool a1_0, .slice A1_1 l1_1.length c1_1, .string a1_2, .string a1_3] 24 (0, 0)) (by (with_reducible repeat (first | refine blk_drewN ?_ _ | refine blk_drew ?_ | refine blk_alloc ?_ _)); exact BK242.out) hb); have n4_ := Aside0.mk (below_step (by repeat (first | (with_reducible first | exact HB.out | apply below_alloc | apply pw_below_drewN | apply below_drew1 | refine below_set ?_ GE241.out | refine below_set ?_ GE242.out) | exact HB.out)) hb); clear HO0_1; clear HO1_1; clear BK241; clear BK242; clear HB; have HO0_1 := n0_; have HO1_1 := n1_; have BK241 := n2_; have BK242 := n3_; have HB := n4_; clear n0_ n1_ n2_ n3_ n4_; (try clear hb); (try clear hb2); (try clear hk); (try clear hi)))
      go_meet
      case rel => exact ⟨_, (!t244), (by first | rfl | (simp; done) | (simp [*]; done)), H', ⟨by first | omega | exact Nat.le_refl _⟩, ⟨by (with_reducible repeat (first | apply Kd.V_alloc | apply Kd.V_drewN | apply Kd.V_drew)); exact Kd.V_mono HO0_1.out (fun _ hk => ⟨hk.1.1, ⟨hk.1.2, hk.2⟩⟩)⟩, ⟨by (with_reducible repeat (first | apply Kd.V_alloc | apply Kd.V_drewN | apply Kd.V_drew)); exact Kd.V_mono HO1_1.out (fun _ hk => ⟨hk.1.1, ⟨hk.1.2, hk.2⟩⟩)⟩, ⟨by (with_reducible repeat (first | refine blk_drewN ?_ _ | refine blk_drew ?_ | refine blk_alloc ?_ _)); exact BK241.out⟩, ⟨by (with_reducible repeat (first | refine blk_drewN ?_ _ | refine blk_drew ?_ | refine blk_alloc ?_ _)); exact BK242.out⟩, ⟨by repeat (first | (with_reducible first | exact HB.out | apply below_alloc | apply pw_below_drewN | apply below_drew1 | refine below_set ?_ GE241.out | refine below_set ?_ GE242.out) | exact HB.out)⟩⟩
    · replace c7 := Bool.eq_false_iff.mpr c7
      subst c7
      have H1 : (laws_FnPub.j0 k true a0_0 l0_1 a0_2 a0_3 a1_0 l1_1 a1_2 a1_3) = some r := by rw [if_neg (show ¬ (false = true) by decide)] at H; exact H
      clear H
      have H := H1
      clear H1
      have H' := Aside0.mk H
      clear H
      have hnb14 := NB241_242.out
      have hnc14 := NB242_241.out
      have hcz15_0 : w5.cell? ⟨gb241, 0, none⟩ = some (.bool a0_0) := (blk_cell BK241.out 0).trans rfl
      have hcz15_1 : w5.cell? ⟨gb241, 1, none⟩ = some (.slice A0_1 l0_1.length c0_1) := (blk_cell BK241.out 1).trans rfl
      have hcz15_2 : w5.cell? ⟨gb241, 2, none⟩ = some (.string a0_2) := (blk_cell BK241.out 2).trans rfl
      have hcz15_3 : w5.cell? ⟨gb241, 3, none⟩ = some (.string a0_3) := (blk_cell BK241.out 3).trans rfl
      have hfz15_0 := blk_frozen BK241.out 0
      have hfz15_1 := blk_frozen BK241.out 1
      have hfz15_2 := blk_frozen BK241.out 2
      have hfz15_3 := blk_frozen BK241.out 3
      go_wp2_with (first | ((with_reducible refine gate_callee (f := 6) rfl ?_); refine goesL_ (some 12) rfl rfl Tryz.func6 (by kernel_rfl) rfl #[.agg #[.bool a0_0, .slice A0_1 l0_1.length c0_1, .string a0_2, .string a0_3]] rfl (by (try simp only [List.map_toArray, List.map_cons, List.map_nil]); first | done | rfl | (simp only [List.length_drop, List.length_take]; rfl)) ?_; (with_reducible refine (laws_zzFits4.calls k a0_0 _ _ l0_1 a0_2 a0_3 false _ ?side1 ?side2 A6.out).mono ?_); (case side1 => repeat (first | exact (Kd.V_reads' HO0_1.out).2.2 | (with_reducible refine Kd.C_alloc ?_ _) | (with_reducible refine Kd.C_drewN ?_ _) | (with_reducible refine Kd.C_drew ?_))); (case side2 => exact (Kd.V_reads' HO0_1.out).2.1); rintro e w16 ⟨rfl, hb⟩; refine ⟨_, rfl, ?_⟩; have n0_ := Aside0.mk (Kd.V_below (by (with_reducible repeat (first | apply Kd.V_alloc | apply Kd.V_drewN | apply Kd.V_drew)); exact HO0_1.out) hb); have n1_ := Aside0.mk (Kd.V_below (by (with_reducible repeat (first | apply Kd.V_alloc | apply Kd.V_drewN | apply Kd.V_drew)); exact HO1_1.out) hb); have n2_ := Aside0.mk (blk_below (g := gb241) (o := .cells #[.bool a0_0, .slice A0_1 l0_1.length c0_1, .string a0_2, .string a0_3] 24 (0, 0)) (by (with_reducible repeat (first | refine blk_drewN ?_ _ | refine blk_drew ?_ | refine blk_alloc ?_ _)); exact BK241.out) hb); have n3_ := Aside0.mk (blk_below (g := gb242) (o := .cells #[.bool a1_0, .slice A1_1 l1_1.length c1_1, .string a1_2, .string a1_3] 24 (0, 0)) (by (with_reducible repeat (first | refine blk_drewN ?_ _ | refine blk_drew ?_ | refine blk_alloc ?_ _)); exact BK242.out) hb); have n4_ := Aside0.mk (below_step (by repeat (first | (with_reducible first | exact HB.out | apply below_alloc | apply pw_below_drewN | apply below_drew1 | refine below_set ?_ GE241.out | refine below_set ?_ GE242.out) | exact HB.out)) hb); clear HO0_1; clear HO1_1; clear BK241; clear BK242; clear HB; have HO0_1 := n0_; have HO1_1 := n1_; have BK241 := n2_; have BK242 := n3_; have HB := n4_; clear n0_ n1_ n2_ n3_ n4_; (try clear hb); (try clear hb2); (try clear hk); (try clear hi)))
      go_meet
      case rel => exact ⟨_, (true), (by first | rfl | (simp; done) | (simp [*]; done)), H', ⟨by first | omega | exact Nat.le_refl _⟩, ⟨by (with_reducible repeat (first | apply Kd.V_alloc | apply Kd.V_drewN | apply Kd.V_drew)); exact Kd.V_mono HO0_1.out (fun _ hk => ⟨hk.1.1, ⟨hk.1.2, hk.2⟩⟩)⟩, ⟨by (with_reducible repeat (first | apply Kd.V_alloc | apply Kd.V_drewN | apply Kd.V_drew)); exact Kd.V_mono HO1_1.out (fun _ hk => ⟨hk.1.1, ⟨hk.1.2, hk.2⟩⟩)⟩, ⟨by (with_reducible repeat (first | refine blk_drewN ?_ _ | refine blk_drew ?_ | refine blk_alloc ?_ _)); exact BK241.out⟩, ⟨by (with_reducible repeat (first | refine blk_drewN ?_ _ | refine blk_drew ?_ | refine blk_alloc ?_ _)); exact BK242.out⟩, ⟨by repeat (first | (with_reducible first | exact HB.out | apply below_alloc | apply pw_below_drewN | apply below_drew1 | refine below_set ?_ GE241.out | refine below_set ?_ GE242.out) | exact HB.out)⟩⟩
  case rest =>
    clear HC3
    try clear c1
    try clear p2
    try clear c3
    try clear c6
    try clear c7
    try clear c9
    try clear c14
    try clear hcz10_0
    try clear hcz10_1
    try clear hcz10_2
    try clear hcz10_3
    try clear hcz12_0
    try clear hcz12_1
    try clear hcz12_2
    try clear hcz12_3
    try clear hcz15_0
    try clear hcz15_1
    try clear hcz15_2
    try clear hcz15_3
    try clear hfz10_0
    try clear hfz10_1
    try clear hfz10_2
    try clear hfz10_3
    try clear hfz12_0
    try clear hfz12_1
    try clear hfz12_2
    try clear hfz12_3
    try clear hfz15_0
    try clear hfz15_1
    try clear hfz15_2
    try clear hfz15_3
    obtain ⟨kq, x18_2, rfl, HA, HJ2, HO_242001, HO_243001, BK241, BK242, HB⟩ := hcut
    cases kq with
    | zero => exact absurd HA.out (by simp [laws_FnPub.j0])
    | succ kj2 =>
      have H := HA.out
      clear HA
      simp only [laws_FnPub.j0] at H
      refine dite (x18_2 = true) (fun c17 => ?p_c17) (fun c17 => ?n_c17)
      case' p_c17 =>
        subst c17
        have H1 : (some true) = some r := by rw [if_pos rfl] at H; exact H
        clear H
        have H := H1
        clear H1
        obtain rfl := Option.some.inj H
        go_wp2
        go_ret
        exact ⟨by first | rfl | (simp [errW_none, errW_some] <;> rfl) | (simp [*, errW_none, errW_some] <;> rfl), by repeat (first | (with_reducible first | exact HB.out | apply below_alloc | apply pw_below_drewN | apply below_drew1 | refine below_set ?_ GE241.out | refine below_set ?_ GE242.out) | exact HB.out)⟩
      case' n_c17 =>
        replace c17 := Bool.eq_false_iff.mpr c17
        subst c17
        have H1 : ((laws_likes.f kj2 (([(⟨a0_0, l0_1, a0_2, a0_3⟩ : S24), (⟨a1_0, l1_1, a1_2, a1_3⟩ : S24)] : List (S24)))).bind fun t248 => (if t248 = true then ((spec_PubCompare.f kj2 a0_0 l0_1 a0_2 a0_3 a1_0 l1_1 a1_2 a1_3).bind fun bt249 => ((impl_PubCompare.f kj2 a0_0 l0_1 a0_2 a0_3 a1_0 l1_1 a1_2 a1_3).bind fun bt251 => ((impl_PubCompare.f kj2 a1_0 l1_1 a1_2 a1_3 a0_0 l0_1 a0_2 a0_3).bind fun bt253 => (if bt251.1 = bt249.1 then (if (bt251.2 == bt249.2) = true then (if (bt253.2 == bt249.2) = true then ((laws_turned.f bt251.1 bt253.1).bind fun t255 => (some t255)) else (some false)) else (some false)) else (some false))))) else (some true))) = some r := by rw [if_neg (show ¬ (false = true) by decide)] at H; exact H
        clear H
        have H := H1
        clear H1
        obtain ⟨y245, hy245⟩ : ∃ y_ : List (S24), y_ = (([(⟨a0_0, l0_1, a0_2, a0_3⟩ : S24), (⟨a1_0, l1_1, a1_2, a1_3⟩ : S24)] : List (S24))) := ⟨_, rfl⟩
        replace H : ((laws_likes.f kj2 y245).bind fun t248 => (if t248 = true then ((spec_PubCompare.f kj2 a0_0 l0_1 a0_2 a0_3 a1_0 l1_1 a1_2 a1_3).bind fun bt249 => ((impl_PubCompare.f kj2 a0_0 l0_1 a0_2 a0_3 a1_0 l1_1 a1_2 a1_3).bind fun bt251 => ((impl_PubCompare.f kj2 a1_0 l1_1 a1_2 a1_3 a0_0 l0_1 a0_2 a0_3).bind fun bt253 => (if bt251.1 = bt249.1 then (if (bt251.2 == bt249.2) = true then (if (bt253.2 == bt249.2) = true then ((laws_turned.f bt251.1 bt253.1).bind fun t255 => (some t255)) else (some false)) else (some false)) else (some false))))) else (some true))) = some r := by first | (rw [hy245]; with_reducible exact H) | (have H2_ := (Option.bind_some _ _).symm.trans H; rw [hy245]; with_reducible exact H2_) | (have H2_ := (Option.bind_some _ _).symm.trans H; with_reducible exact H2_) | with_reducible exact H | (rw [hy245]; exact H) | exact H
        have Ny245 := Aside0.mk hy245
        clear hy245
        replace H := Option.bind_eq_some_iff.mp H
        obtain ⟨t248, A180, H⟩ := H
        replace H : (if t248 = true then ((spec_PubCompare.f kj2 a0_0 l0_1 a0_2 a0_3 a1_0 l1_1 a1_2 a1_3).bind fun bt249 => ((impl_PubCompare.f kj2 a0_0 l0_1 a0_2 a0_3 a1_0 l1_1 a1_2 a1_3).bind fun bt251 => ((impl_PubCompare.f kj2 a1_0 l1_1 a1_2 a1_3 a0_0 l0_1 a0_2 a0_3).bind fun bt253 => (if bt251.1 = bt249.1 then (if (bt251.2 == bt249.2) = true then (if (bt253.2 == bt249.2) = true then ((laws_turned.f bt251.1 bt253.1).bind fun t255 => (some t255)) else (some false)) else (some false)) else (some false))))) else (some true)) = some r := H
        have A18 := Aside0.mk A180
        clear A180
        refine dite (t248 = true) (fun c19 => ?p_c19) (fun c19 => ?n_c19)
        case' p_c19 =>
          subst c19
          have H1 : ((spec_PubCompare.f kj2 a0_0 l0_1 a0_2 a0_3 a1_0 l1_1 a1_2 a1_3).bind fun bt249 => ((impl_PubCompare.f kj2 a0_0 l0_1 a0_2 a0_3 a1_0 l1_1 a1_2 a1_3).bind fun bt251 => ((impl_PubCompare.f kj2 a1_0 l1_1 a1_2 a1_3 a0_0 l0_1 a0_2 a0_3).bind fun bt253 => (if bt251.1 = bt249.1 then (if (bt251.2 == bt249.2) = true then (if (bt253.2 == bt249.2) = true then ((laws_turned.f bt251.1 bt253.1).bind fun t255 => (some t255)) else (some false)) else (some false)) else (some false))))) = some r := by rw [if_pos rfl] at H; exact H
          clear H
          have H := H1
          clear H1
          replace H := Option.bind_eq_some_iff.mp H
          obtain ⟨⟨t249, t250⟩, A200, H⟩ := H
          replace H : ((impl_PubCompare.f kj2 a0_0 l0_1 a0_2 a0_3 a1_0 l1_1 a1_2 a1_3).bind fun bt251 => ((impl_PubCompare.f kj2 a1_0 l1_1 a1_2 a1_3 a0_0 l0_1 a0_2 a0_3).bind fun bt253 => (if bt251.1 = t249 then (if (bt251.2 == t250) = true then (if (bt253.2 == t250) = true then ((laws_turned.f bt251.1 bt253.1).bind fun t255 => (some t255)) else (some false)) else (some false)) else (some false)))) = some r := H
          have A20 := Aside0.mk A200
          clear A200
          replace H := Option.bind_eq_some_iff.mp H
          obtain ⟨⟨t251, t252⟩, A210, H⟩ := H
          replace H : ((impl_PubCompare.f kj2 a1_0 l1_1 a1_2 a1_3 a0_0 l0_1 a0_2 a0_3).bind fun bt253 => (if t251 = t249 then (if (t252 == t250) = true then (if (bt253.2 == t250) = true then ((laws_turned.f t251 bt253.1).bind fun t255 => (some t255)) else (some false)) else (some false)) else (some false))) = some r := H
          have A21 := Aside0.mk A210
          clear A210
          replace H := Option.bind_eq_some_iff.mp H
          obtain ⟨⟨t253, t254⟩, A220, H⟩ := H
          replace H : (if t251 = t249 then (if (t252 == t250) = true then (if (t254 == t250) = true then ((laws_turned.f t251 t253).bind fun t255 => (some t255)) else (some false)) else (some false)) else (some false)) = some r := H
          have A22 := Aside0.mk A220
          clear A220
          refine dite (t251 = t249) (fun c23 => ?p_c23) (fun c23 => ?n_c23)
          case' p_c23 =>
            rw [if_pos c23] at H
            have c23b0 : (t251 == t249) = true := beq_iff_eq.mpr c23
            have c23b1 : (t251 != t249) = false := bne_eq_false_iff_eq.mpr c23
            clear c23
            refine dite ((t252 == t250) = true) (fun c24 => ?p_c24) (fun c24 => ?n_c24)
            case' p_c24 =>
              rw [if_pos c24] at H
              have c24b0 : (t252 == t250) = true := c24
              (try (have c24b1 : decide (t252 = t250) = true := by simpa using c24))
              (try (have c24b2 : (t252 == t250) = true := by simpa using c24))
              clear c24
              refine dite ((t254 == t250) = true) (fun c25 => ?p_c25) (fun c25 => ?n_c25)
              case' p_c25 =>
                rw [if_pos c25] at H
                have c25b0 : (t254 == t250) = true := c25
                (try (have c25b1 : decide (t254 = t250) = true := by simpa using c25))
                (try (have c25b2 : (t254 == t250) = true := by simpa using c25))
                clear c25
                replace H := Option.bind_eq_some_iff.mp H
                obtain ⟨t255, A260, H⟩ := H
                replace H : (some t255) = some r := H
                have A26 := Aside0.mk A260
                clear A260
                obtain rfl := Option.some.inj H
              case' n_c25 =>
                rw [if_neg c25] at H
                have c25b0 : (t254 == t250) = false := by simpa using c25
                (try (have c25b1 : decide (t254 = t250) = false := by simpa using c25))
                (try (have c25b2 : (t254 == t250) = false := by simpa using c25))
                (try (have c25b3 : ¬ (t254 = t250) := by simpa using c25))
                clear c25
                obtain rfl := Option.some.inj H
            case' n_c24 =>
              rw [if_neg c24] at H
              have c24b0 : (t252 == t250) = false := by simpa using c24
              (try (have c24b1 : decide (t252 = t250) = false := by simpa using c24))
              (try (have c24b2 : (t252 == t250) = false := by simpa using c24))
              (try (have c24b3 : ¬ (t252 = t250) := by simpa using c24))
              clear c24
              obtain rfl := Option.some.inj H
          case' n_c23 =>
            rw [if_neg c23] at H
            have c23b0 : (t251 == t249) = false := beq_eq_false_iff_ne.mpr c23
            have c23b1 : (t251 != t249) = true := bne_iff_ne.mpr c23
            obtain rfl := Option.some.inj H
        case' n_c19 =>
          replace c19 := Bool.eq_false_iff.mpr c19
          subst c19
          have H1 : (some true) = some r := by rw [if_neg (show ¬ (false = true) by decide)] at H; exact H
          clear H
          have H := H1
          clear H1
          obtain rfl := Option.some.inj H
          have hnb91 := NB241_242.out
          have hnc91 := NB242_241.out
          have hcz92_0 : wc.cell? ⟨gb241, 0, none⟩ = some (.bool a0_0) := (blk_cell BK241.out 0).trans rfl
          have hcz92_1 : wc.cell? ⟨gb241, 1, none⟩ = some (.slice A0_1 l0_1.length c0_1) := (blk_cell BK241.out 1).trans rfl
          have hcz92_2 : wc.cell? ⟨gb241, 2, none⟩ = some (.string a0_2) := (blk_cell BK241.out 2).trans rfl
          have hcz92_3 : wc.cell? ⟨gb241, 3, none⟩ = some (.string a0_3) := (blk_cell BK241.out 3).trans rfl
          have hfz92_0 := blk_frozen BK241.out 0
          have hfz92_1 := blk_frozen BK241.out 1
          have hfz92_2 := blk_frozen BK241.out 2
          have hfz92_3 := blk_frozen BK241.out 3
          have hcz93_0 : wc.cell? ⟨gb242, 0, none⟩ = some (.bool a1_0) := (blk_cell BK242.out 0).trans rfl
          have hcz93_1 : wc.cell? ⟨gb242, 1, none⟩ = some (.slice A1_1 l1_1.length c1_1) := (blk_cell BK242.out 1).trans rfl
          have hcz93_2 : wc.cell? ⟨gb242, 2, none⟩ = some (.string a1_2) := (blk_cell BK242.out 2).trans rfl
          have hcz93_3 : wc.cell? ⟨gb242, 3, none⟩ = some (.string a1_3) := (blk_cell BK242.out 3).trans rfl
          have hfz93_0 := blk_frozen BK242.out 0
          have hfz93_1 := blk_frozen BK242.out 1
          have hfz93_2 := blk_frozen BK242.out 2
          have hfz93_3 := blk_frozen BK242.out 3
          go_wp2_with (first | ((with_reducible refine gate_dst (N := 21) rfl ?_); refine Kd.N_lit k24 _ 24 ?hg (N' := 21) ?hd (xs := ([(⟨a0_0, l0_1, a0_2, a0_3⟩ : S24), (⟨a1_0, l1_1, a1_2, a1_3⟩ : S24)] : List (S24))) (inner := [.bool a0_0, .slice A0_1 l0_1.length c0_1, .string a0_2, .string a0_3, .bool a1_0, .slice A1_1 l1_1.length c1_1, .string a1_2, .string a1_3]) (ok := (fun k_ => ((P0_1_ k_ ∨ P1_1_ k_) ∨ w.heap.size ≤ k_) ∧ k_ ≠ gb241 ∧ k_ ≠ gb242)) (okp := (fun k_ => ((P0_1_ k_ ∨ P1_1_ k_) ∨ w.heap.size ≤ k_) ∧ k_ ≠ gb241 ∧ k_ ≠ gb242)) ?hr ?hp (fun _ hk => hk) ((show ∀ k_, wc.heap.size ≤ k_ → (fun k_ => ((P0_1_ k_ ∨ P1_1_ k_) ∨ w.heap.size ≤ k_) ∧ k_ ≠ gb241 ∧ k_ ≠ gb242) k_ from fun k_ hk => ⟨(.inr (Nat.le_trans (below_size (by repeat (first | (with_reducible first | exact HB.out | apply below_alloc | apply pw_below_drewN | apply below_drew1 | refine below_set ?_ GE241.out | refine below_set ?_ GE242.out) | exact HB.out))) hk)), Kd.freshB (g := gb241) (o := .cells #[.bool a0_0, .slice A0_1 l0_1.length c0_1, .string a0_2, .string a0_3] 24 (0, 0)) (by (with_reducible repeat (first | refine blk_drewN ?_ _ | refine blk_drew ?_ | refine blk_alloc ?_ _)); exact BK241.out) k_ hk, Kd.freshB (g := gb242) (o := .cells #[.bool a1_0, .slice A1_1 l1_1.length c1_1, .string a1_2, .string a1_3] 24 (0, 0)) (by (with_reducible repeat (first | refine blk_drewN ?_ _ | refine blk_drew ?_ | refine blk_alloc ?_ _)); exact BK242.out) k_ hk⟩) _ (Nat.le_refl _)) (Below.refl _ _) (Nat.le_refl _) (by simp) ?_; (case hd => rfl); (case hg => rfl); (case hr => first | (go_simp; done) | (go_simp; rfl)); (case hp => exact (Reps.c4 (show Kd.FK k24 _ _ (⟨a0_0, l0_1, a0_2, a0_3⟩ : S24) [.bool a0_0, .slice A0_1 l0_1.length c0_1, .string a0_2, .string a0_3] from (k24_mkF _ _ (⟨a0_0, l0_1, a0_2, a0_3⟩ : S24) (Kd.V_reads' (Kd.V_mono (ok' := (fun k_ => ((P0_1_ k_ ∨ P1_1_ k_) ∨ w.heap.size ≤ k_) ∧ k_ ≠ gb241 ∧ k_ ≠ gb242)) (HO_242001.out) (fun k_ hk => ⟨hk.1, ⟨hk.2.1, hk.2.2⟩⟩))).2.1 (Kd.V_F (Kd.V_mono (ok' := (fun k_ => ((P0_1_ k_ ∨ P1_1_ k_) ∨ w.heap.size ≤ k_) ∧ k_ ≠ gb241 ∧ k_ ≠ gb242)) (HO_242001.out) (fun k_ hk => ⟨hk.1, ⟨hk.2.1, hk.2.2⟩⟩))))) (Reps.c4 (show Kd.FK k24 _ _ (⟨a1_0, l1_1, a1_2, a1_3⟩ : S24) [.bool a1_0, .slice A1_1 l1_1.length c1_1, .string a1_2, .string a1_3] from (k24_mkF _ _ (⟨a1_0, l1_1, a1_2, a1_3⟩ : S24) (Kd.V_reads' (Kd.V_mono (ok' := (fun k_ => ((P0_1_ k_ ∨ P1_1_ k_) ∨ w.heap.size ≤ k_) ∧ k_ ≠ gb241 ∧ k_ ≠ gb242)) (HO_243001.out) (fun k_ hk => ⟨hk.1, ⟨hk.2.1, hk.2.2⟩⟩))).2.1 (Kd.V_F (Kd.V_mono (ok' := (fun k_ => ((P0_1_ k_ ∨ P1_1_ k_) ∨ w.heap.size ≤ k_) ∧ k_ ≠ gb241 ∧ k_ ≠ gb242)) (HO_243001.out) (fun k_ hk => ⟨hk.1, ⟨hk.2.1, hk.2.2⟩⟩))))) (Reps.none _ _)))); intro v246 w94 ho95 hb hg_ hnew_; clear hg_ hnew_; (first | rw [← Ny245.out] at ho95 | (simp only [Int.reduceToNat] at ho95; rw [← Ny245.out] at ho95)); have n0_ := Aside0.mk (Kd.V_elder' (by (with_reducible repeat (first | apply Kd.V_alloc | apply Kd.V_drewN | apply Kd.V_drew)); exact HO_242001.out) (Kd.N_base ho95) hb); have n1_ := Aside0.mk (Kd.V_elder' (by (with_reducible repeat (first | apply Kd.V_alloc | apply Kd.V_drewN | apply Kd.V_drew)); exact HO_243001.out) (Kd.N_base ho95) hb); have n2_ := Aside0.mk (Kd.N_lower ho95 (below_size (by repeat (first | (with_reducible first | exact HB.out | apply below_alloc | apply pw_below_drewN | apply below_drew1 | refine below_set ?_ GE241.out | refine below_set ?_ GE242.out) | exact HB.out)))); have n3_ := Aside0.mk (blk_below (g := gb241) (o := .cells #[.bool a0_0, .slice A0_1 l0_1.length c0_1, .string a0_2, .string a0_3] 24 (0, 0)) (by (with_reducible repeat (first | refine blk_drewN ?_ _ | refine blk_drew ?_ | refine blk_alloc ?_ _)); exact BK241.out) hb); have n4_ := Aside0.mk (blk_below (g := gb242) (o := .cells #[.bool a1_0, .slice A1_1 l1_1.length c1_1, .string a1_2, .string a1_3] 24 (0, 0)) (by (with_reducible repeat (first | refine blk_drewN ?_ _ | refine blk_drew ?_ | refine blk_alloc ?_ _)); exact BK242.out) hb); have n5_ := Aside0.mk (below_step (by repeat (first | (with_reducible first | exact HB.out | apply below_alloc | apply pw_below_drewN | apply below_drew1 | refine below_set ?_ GE241.out | refine below_set ?_ GE242.out) | exact HB.out)) hb); clear HO_242001; clear HO_243001; clear BK241; clear BK242; clear HB; have HO_242001 := n0_; have HO_243001 := n1_; have HO247 := n2_; have BK241 := n3_; have BK242 := n4_; have HB := n5_; clear n0_ n1_ n2_ n3_ n4_ n5_; clear hb ho95; obtain ⟨Ao96, co96, eo96⟩ := Kd.N_slice HO247.out; subst eo96) | ((with_reducible refine gate_callee (f := 7) rfl ?_); refine goesL_ (some 22) rfl rfl Tryz.func7 (by kernel_rfl) rfl #[.slice Ao96 y245.length co96] rfl (by (try simp only [List.map_toArray, List.map_cons, List.map_nil]); first | done | rfl | (simp only [List.length_drop, List.length_take]; rfl)) ?_; (with_reducible refine (laws_likes.calls kj2 _ _ y245 false _ ?side1 ?side2 A18.out).mono ?_); (case side1 => repeat (first | exact (Kd.N_reads' HO247.out).2.2 | (with_reducible refine Kd.C_alloc ?_ _) | (with_reducible refine Kd.C_drewN ?_ _) | (with_reducible refine Kd.C_drew ?_))); (case side2 => exact (Kd.N_reads' HO247.out).2.1); rintro e w97 ⟨rfl, hb⟩; refine ⟨_, rfl, ?_⟩; have n0_ := Aside0.mk (Kd.V_below (by (with_reducible repeat (first | apply Kd.V_alloc | apply Kd.V_drewN | apply Kd.V_drew)); exact HO_242001.out) hb); have n1_ := Aside0.mk (Kd.V_below (by (with_reducible repeat (first | apply Kd.V_alloc | apply Kd.V_drewN | apply Kd.V_drew)); exact HO_243001.out) hb); have n2_ := Aside0.mk (Kd.N_below (by (with_reducible repeat (first | apply Kd.N_alloc | apply Kd.N_drewN | apply Kd.N_drew)); exact HO247.out) hb); have n3_ := Aside0.mk (blk_below (g := gb241) (o := .cells #[.bool a0_0, .slice A0_1 l0_1.length c0_1, .string a0_2, .string a0_3] 24 (0, 0)) (by (with_reducible repeat (first | refine blk_drewN ?_ _ | refine blk_drew ?_ | refine blk_alloc ?_ _)); exact BK241.out) hb); have n4_ := Aside0.mk (blk_below (g := gb242) (o := .cells #[.bool a1_0, .slice A1_1 l1_1.length c1_1, .string a1_2, .string a1_3] 24 (0, 0)) (by (with_reducible repeat (first | refine blk_drewN ?_ _ | refine blk_drew ?_ | refine blk_alloc ?_ _)); exact BK242.out) hb); have n5_ := Aside0.mk (below_step (by repeat (first | (with_reducible first | exact HB.out | apply below_alloc | apply pw_below_drewN | apply below_drew1 | refine below_set ?_ GE241.out | refine below_set ?_ GE242.out) | exact HB.out)) hb); clear HO_242001; clear HO_243001; clear HO247; clear BK241; clear BK242; clear HB; have HO_242001 := n0_; have HO_243001 := n1_; have HO247 := n2_; have BK241 := n3_; have BK242 := n4_; have HB := n5_; clear n0_ n1_ n2_ n3_ n4_ n5_; (try clear hb); (try clear hb2); (try clear hk); (try clear hi)))
          go_ret
          exact ⟨by first | rfl | (simp [errW_none, errW_some] <;> rfl) | (simp [*, errW_none, errW_some] <;> rfl), by repeat (first | (with_reducible first | exact HB.out | apply below_alloc | apply pw_below_drewN | apply below_drew1 | refine below_set ?_ GE241.out | refine below_set ?_ GE242.out) | exact HB.out)⟩

      all_goals
        have hnbq1 := NB241_242.out
        have hncq1 := NB242_241.out
        have hczq1 : wc.cell? ⟨gb241, 0, none⟩ = some (.bool a0_0) := (blk_cell BK241.out 0).trans rfl
        have hczq2 : wc.cell? ⟨gb241, 1, none⟩ = some (.slice A0_1 l0_1.length c0_1) := (blk_cell BK241.out 1).trans rfl
        have hczq3 : wc.cell? ⟨gb241, 2, none⟩ = some (.string a0_2) := (blk_cell BK241.out 2).trans rfl
        have hczq4 : wc.cell? ⟨gb241, 3, none⟩ = some (.string a0_3) := (blk_cell BK241.out 3).trans rfl
        have hfzq1 := blk_frozen BK241.out 0
        have hfzq2 := blk_frozen BK241.out 1
        have hfzq3 := blk_frozen BK241.out 2
        have hfzq4 := blk_frozen BK241.out 3
        have hczq5 : wc.cell? ⟨gb242, 0, none⟩ = some (.bool a1_0) := (blk_cell BK242.out 0).trans rfl
        have hczq6 : wc.cell? ⟨gb242, 1, none⟩ = some (.slice A1_1 l1_1.length c1_1) := (blk_cell BK242.out 1).trans rfl
        have hczq7 : wc.cell? ⟨gb242, 2, none⟩ = some (.string a1_2) := (blk_cell BK242.out 2).trans rfl
        have hczq8 : wc.cell? ⟨gb242, 3, none⟩ = some (.string a1_3) := (blk_cell BK242.out 3).trans rfl
        have hfzq5 := blk_frozen BK242.out 0
        have hfzq6 := blk_frozen BK242.out 1
        have hfzq7 := blk_frozen BK242.out 2
        have hfzq8 := blk_frozen BK242.out 3
        go_wp2_with (first | ((with_reducible refine gate_dst (N := 21) rfl ?_); refine Kd.N_lit k24 _ 24 ?hg (N' := 21) ?hd (xs := ([(⟨a0_0, l0_1, a0_2, a0_3⟩ : S24), (⟨a1_0, l1_1, a1_2, a1_3⟩ : S24)] : List (S24))) (inner := [.bool a0_0, .slice A0_1 l0_1.length c0_1, .string a0_2, .string a0_3, .bool a1_0, .slice A1_1 l1_1.length c1_1, .string a1_2, .string a1_3]) (ok := (fun k_ => ((P0_1_ k_ ∨ P1_1_ k_) ∨ w.heap.size ≤ k_) ∧ k_ ≠ gb241 ∧ k_ ≠ gb242)) (okp := (fun k_ => ((P0_1_ k_ ∨ P1_1_ k_) ∨ w.heap.size ≤ k_) ∧ k_ ≠ gb241 ∧ k_ ≠ gb242)) ?hr ?hp (fun _ hk => hk) ((show ∀ k_, wc.heap.size ≤ k_ → (fun k_ => ((P0_1_ k_ ∨ P1_1_ k_) ∨ w.heap.size ≤ k_) ∧ k_ ≠ gb241 ∧ k_ ≠ gb242) k_ from fun k_ hk => ⟨(.inr (Nat.le_trans (below_size (by repeat (first | (with_reducible first | exact HB.out | apply below_alloc | apply pw_below_drewN | apply below_drew1 | refine below_set ?_ GE241.out | refine below_set ?_ GE242.out) | exact HB.out))) hk)), Kd.freshB (g := gb241) (o := .cells #[.bool a0_0, .slice A0_1 l0_1.length c0_1, .string a0_2, .string a0_3] 24 (0, 0)) (by (with_reducible repeat (first | refine blk_drewN ?_ _ | refine blk_drew ?_ | refine blk_alloc ?_ _)); exact BK241.out) k_ hk, Kd.freshB (g := gb242) (o := .cells #[.bool a1_0, .slice A1_1 l1_1.length c1_1, .string a1_2, .string a1_3] 24 (0, 0)) (by (with_reducible repeat (first | refine blk_drewN ?_ _ | refine blk_drew ?_ | refine blk_alloc ?_ _)); exact BK242.out) k_ hk⟩) _ (Nat.le_refl _)) (Below.refl _ _) (Nat.le_refl _) (by simp) ?_; (case hd => rfl); (case hg => rfl); (case hr => first | (go_simp; done) | (go_simp; rfl)); (case hp => exact (Reps.c4 (show Kd.FK k24 _ _ (⟨a0_0, l0_1, a0_2, a0_3⟩ : S24) [.bool a0_0, .slice A0_1 l0_1.length c0_1, .string a0_2, .string a0_3] from (k24_mkF _ _ (⟨a0_0, l0_1, a0_2, a0_3⟩ : S24) (Kd.V_reads' (Kd.V_mono (ok' := (fun k_ => ((P0_1_ k_ ∨ P1_1_ k_) ∨ w.heap.size ≤ k_) ∧ k_ ≠ gb241 ∧ k_ ≠ gb242)) (HO_242001.out) (fun k_ hk => ⟨hk.1, ⟨hk.2.1, hk.2.2⟩⟩))).2.1 (Kd.V_F (Kd.V_mono (ok' := (fun k_ => ((P0_1_ k_ ∨ P1_1_ k_) ∨ w.heap.size ≤ k_) ∧ k_ ≠ gb241 ∧ k_ ≠ gb242)) (HO_242001.out) (fun k_ hk => ⟨hk.1, ⟨hk.2.1, hk.2.2⟩⟩))))) (Reps.c4 (show Kd.FK k24 _ _ (⟨a1_0, l1_1, a1_2, a1_3⟩ : S24) [.bool a1_0, .slice A1_1 l1_1.length c1_1, .string a1_2, .string a1_3] from (k24_mkF _ _ (⟨a1_0, l1_1, a1_2, a1_3⟩ : S24) (Kd.V_reads' (Kd.V_mono (ok' := (fun k_ => ((P0_1_ k_ ∨ P1_1_ k_) ∨ w.heap.size ≤ k_) ∧ k_ ≠ gb241 ∧ k_ ≠ gb242)) (HO_243001.out) (fun k_ hk => ⟨hk.1, ⟨hk.2.1, hk.2.2⟩⟩))).2.1 (Kd.V_F (Kd.V_mono (ok' := (fun k_ => ((P0_1_ k_ ∨ P1_1_ k_) ∨ w.heap.size ≤ k_) ∧ k_ ≠ gb241 ∧ k_ ≠ gb242)) (HO_243001.out) (fun k_ hk => ⟨hk.1, ⟨hk.2.1, hk.2.2⟩⟩))))) (Reps.none _ _)))); intro vq1 wq1 hoq1 hb hg_ hnew_; clear hg_ hnew_; (first | rw [← Ny245.out] at hoq1 | (simp only [Int.reduceToNat] at hoq1; rw [← Ny245.out] at hoq1)); have n0_ := Aside0.mk (Kd.V_elder' (by (with_reducible repeat (first | apply Kd.V_alloc | apply Kd.V_drewN | apply Kd.V_drew)); exact HO_242001.out) (Kd.N_base hoq1) hb); have n1_ := Aside0.mk (Kd.V_elder' (by (with_reducible repeat (first | apply Kd.V_alloc | apply Kd.V_drewN | apply Kd.V_drew)); exact HO_243001.out) (Kd.N_base hoq1) hb); have n2_ := Aside0.mk (Kd.N_lower hoq1 (below_size (by repeat (first | (with_reducible first | exact HB.out | apply below_alloc | apply pw_below_drewN | apply below_drew1 | refine below_set ?_ GE241.out | refine below_set ?_ GE242.out) | exact HB.out)))); have n3_ := Aside0.mk (blk_below (g := gb241) (o := .cells #[.bool a0_0, .slice A0_1 l0_1.length c0_1, .string a0_2, .string a0_3] 24 (0, 0)) (by (with_reducible repeat (first | refine blk_drewN ?_ _ | refine blk_drew ?_ | refine blk_alloc ?_ _)); exact BK241.out) hb); have n4_ := Aside0.mk (blk_below (g := gb242) (o := .cells #[.bool a1_0, .slice A1_1 l1_1.length c1_1, .string a1_2, .string a1_3] 24 (0, 0)) (by (with_reducible repeat (first | refine blk_drewN ?_ _ | refine blk_drew ?_ | refine blk_alloc ?_ _)); exact BK242.out) hb); have n5_ := Aside0.mk (below_step (by repeat (first | (with_reducible first | exact HB.out | apply below_alloc | apply pw_below_drewN | apply below_drew1 | refine below_set ?_ GE241.out | refine below_set ?_ GE242.out) | exact HB.out)) hb); clear HO_242001; clear HO_243001; clear BK241; clear BK242; clear HB; have HO_242001 := n0_; have HO_243001 := n1_; have HOq1 := n2_; have BK241 := n3_; have BK242 := n4_; have HB := n5_; clear n0_ n1_ n2_ n3_ n4_ n5_; clear hb hoq1; obtain ⟨Aoq1, coq1, eoq1⟩ := Kd.N_slice HOq1.out; subst eoq1) | ((with_reducible refine gate_callee (f := 7) rfl ?_); refine goesL_ (some 22) rfl rfl Tryz.func7 (by kernel_rfl) rfl #[.slice Aoq1 y245.length coq1] rfl (by (try simp only [List.map_toArray, List.map_cons, List.map_nil]); first | done | rfl | (simp only [List.length_drop, List.length_take]; rfl)) ?_; (with_reducible refine (laws_likes.calls kj2 _ _ y245 true _ ?side1 ?side2 A18.out).mono ?_); (case side1 => repeat (first | exact (Kd.N_reads' HOq1.out).2.2 | (with_reducible refine Kd.C_alloc ?_ _) | (with_reducible refine Kd.C_drewN ?_ _) | (with_reducible refine Kd.C_drew ?_))); (case side2 => exact (Kd.N_reads' HOq1.out).2.1); rintro e wq2 ⟨rfl, hb⟩; refine ⟨_, rfl, ?_⟩; have n0_ := Aside0.mk (Kd.V_below (by (with_reducible repeat (first | apply Kd.V_alloc | apply Kd.V_drewN | apply Kd.V_drew)); exact HO_242001.out) hb); have n1_ := Aside0.mk (Kd.V_below (by (with_reducible repeat (first | apply Kd.V_alloc | apply Kd.V_drewN | apply Kd.V_drew)); exact HO_243001.out) hb); have n2_ := Aside0.mk (Kd.N_below (by (with_reducible repeat (first | apply Kd.N_alloc | apply Kd.N_drewN | apply Kd.N_drew)); exact HOq1.out) hb); have n3_ := Aside0.mk (blk_below (g := gb241) (o := .cells #[.bool a0_0, .slice A0_1 l0_1.length c0_1, .string a0_2, .string a0_3] 24 (0, 0)) (by (with_reducible repeat (first | refine blk_drewN ?_ _ | refine blk_drew ?_ | refine blk_alloc ?_ _)); exact BK241.out) hb); have n4_ := Aside0.mk (blk_below (g := gb242) (o := .cells #[.bool a1_0, .slice A1_1 l1_1.length c1_1, .string a1_2, .string a1_3] 24 (0, 0)) (by (with_reducible repeat (first | refine blk_drewN ?_ _ | refine blk_drew ?_ | refine blk_alloc ?_ _)); exact BK242.out) hb); have n5_ := Aside0.mk (below_step (by repeat (first | (with_reducible first | exact HB.out | apply below_alloc | apply pw_below_drewN | apply below_drew1 | refine below_set ?_ GE241.out | refine below_set ?_ GE242.out) | exact HB.out)) hb); clear HO_242001; clear HO_243001; clear HOq1; clear BK241; clear BK242; clear HB; have HO_242001 := n0_; have HO_243001 := n1_; have HOq1 := n2_; have BK241 := n3_; have BK242 := n4_; have HB := n5_; clear n0_ n1_ n2_ n3_ n4_ n5_; (try clear hb); (try clear hb2); (try clear hk); (try clear hi); have hczq9 : wq2.cell? ⟨gb241, 0, none⟩ = some (.bool a0_0) := (blk_cell BK241.out 0).trans rfl; have hczq10 : wq2.cell? ⟨gb241, 1, none⟩ = some (.slice A0_1 l0_1.length c0_1) := (blk_cell BK241.out 1).trans rfl; have hczq11 : wq2.cell? ⟨gb241, 2, none⟩ = some (.string a0_2) := (blk_cell BK241.out 2).trans rfl; have hczq12 : wq2.cell? ⟨gb241, 3, none⟩ = some (.string a0_3) := (blk_cell BK241.out 3).trans rfl; have hfzq9 := blk_frozen BK241.out 0; have hfzq10 := blk_frozen BK241.out 1; have hfzq11 := blk_frozen BK241.out 2; have hfzq12 := blk_frozen BK241.out 3; have hczq13 : wq2.cell? ⟨gb242, 0, none⟩ = some (.bool a1_0) := (blk_cell BK242.out 0).trans rfl; have hczq14 : wq2.cell? ⟨gb242, 1, none⟩ = some (.slice A1_1 l1_1.length c1_1) := (blk_cell BK242.out 1).trans rfl; have hczq15 : wq2.cell? ⟨gb242, 2, none⟩ = some (.string a1_2) := (blk_cell BK242.out 2).trans rfl; have hczq16 : wq2.cell? ⟨gb242, 3, none⟩ = some (.string a1_3) := (blk_cell BK242.out 3).trans rfl; have hfzq13 := blk_frozen BK242.out 0; have hfzq14 := blk_frozen BK242.out 1; have hfzq15 := blk_frozen BK242.out 2; have hfzq16 := blk_frozen BK242.out 3) | ((with_reducible refine gate_callee (f := 8) rfl ?_); refine goesL_ (some 27) rfl rfl Tryz.func8 (by kernel_rfl) rfl #[.agg #[.bool a0_0, .slice A0_1 l0_1.length c0_1, .string a0_2, .string a0_3], .agg #[.bool a1_0, .slice A1_1 l1_1.length c1_1, .string a1_2, .string a1_3]] rfl (by (try simp only [List.map_toArray, List.map_cons, List.map_nil]); first | done | rfl | (simp only [List.length_drop, List.length_take]; rfl)) ?_; (with_reducible refine (spec_PubCompare.calls kj2 a0_0 _ _ l0_1 a0_2 a0_3 a1_0 _ _ l1_1 a1_2 a1_3 t249 t250 _ ?side1 ?side2 ?side3 ?side4 A20.out).mono ?_); (case side1 => repeat (first | exact (Kd.V_reads' HO_242001.out).2.2 | (with_reducible refine Kd.C_alloc ?_ _) | (with_reducible refine Kd.C_drewN ?_ _) | (with_reducible refine Kd.C_drew ?_))); (case side2 => exact (Kd.V_reads' HO_242001.out).2.1); (case side3 => repeat (first | exact (Kd.V_reads' HO_243001.out).2.2 | (with_reducible refine Kd.C_alloc ?_ _) | (with_reducible refine Kd.C_drewN ?_ _) | (with_reducible refine Kd.C_drew ?_))); (case side4 => exact (Kd.V_reads' HO_243001.out).2.1); rintro e wq3 ⟨rfl, hb⟩; refine ⟨_, rfl, ?_⟩; have n0_ := Aside0.mk (Kd.V_below (by (with_reducible repeat (first | apply Kd.V_alloc | apply Kd.V_drewN | apply Kd.V_drew)); exact HO_242001.out) hb); have n1_ := Aside0.mk (Kd.V_below (by (with_reducible repeat (first | apply Kd.V_alloc | apply Kd.V_drewN | apply Kd.V_drew)); exact HO_243001.out) hb); have n2_ := Aside0.mk (Kd.N_below (by (with_reducible repeat (first | apply Kd.N_alloc | apply Kd.N_drewN | apply Kd.N_drew)); exact HOq1.out) hb); have n3_ := Aside0.mk (blk_below (g := gb241) (o := .cells #[.bool a0_0, .slice A0_1 l0_1.length c0_1, .string a0_2, .string a0_3] 24 (0, 0)) (by (with_reducible repeat (first | refine blk_drewN ?_ _ | refine blk_drew ?_ | refine blk_alloc ?_ _)); exact BK241.out) hb); have n4_ := Aside0.mk (blk_below (g := gb242) (o := .cells #[.bool a1_0, .slice A1_1 l1_1.length c1_1, .string a1_2, .string a1_3] 24 (0, 0)) (by (with_reducible repeat (first | refine blk_drewN ?_ _ | refine blk_drew ?_ | refine blk_alloc ?_ _)); exact BK242.out) hb); have n5_ := Aside0.mk (below_step (by repeat (first | (with_reducible first | exact HB.out | apply below_alloc | apply pw_below_drewN | apply below_drew1 | refine below_set ?_ GE241.out | refine below_set ?_ GE242.out) | exact HB.out)) hb); clear HO_242001; clear HO_243001; clear HOq1; clear BK241; clear BK242; clear HB; have HO_242001 := n0_; have HO_243001 := n1_; have HOq1 := n2_; have BK241 := n3_; have BK242 := n4_; have HB := n5_; clear n0_ n1_ n2_ n3_ n4_ n5_; (try clear hb); (try clear hb2); (try clear hk); (try clear hi); have hczq17 : wq3.cell? ⟨gb241, 0, none⟩ = some (.bool a0_0) := (blk_cell BK241.out 0).trans rfl; have hczq18 : wq3.cell? ⟨gb241, 1, none⟩ = some (.slice A0_1 l0_1.length c0_1) := (blk_cell BK241.out 1).trans rfl; have hczq19 : wq3.cell? ⟨gb241, 2, none⟩ = some (.string a0_2) := (blk_cell BK241.out 2).trans rfl; have hczq20 : wq3.cell? ⟨gb241, 3, none⟩ = some (.string a0_3) := (blk_cell BK241.out 3).trans rfl; have hfzq17 := blk_frozen BK241.out 0; have hfzq18 := blk_frozen BK241.out 1; have hfzq19 := blk_frozen BK241.out 2; have hfzq20 := blk_frozen BK241.out 3; have hczq21 : wq3.cell? ⟨gb242, 0, none⟩ = some (.bool a1_0) := (blk_cell BK242.out 0).trans rfl; have hczq22 : wq3.cell? ⟨gb242, 1, none⟩ = some (.slice A1_1 l1_1.length c1_1) := (blk_cell BK242.out 1).trans rfl; have hczq23 : wq3.cell? ⟨gb242, 2, none⟩ = some (.string a1_2) := (blk_cell BK242.out 2).trans rfl; have hczq24 : wq3.cell? ⟨gb242, 3, none⟩ = some (.string a1_3) := (blk_cell BK242.out 3).trans rfl; have hfzq21 := blk_frozen BK242.out 0; have hfzq22 := blk_frozen BK242.out 1; have hfzq23 := blk_frozen BK242.out 2; have hfzq24 := blk_frozen BK242.out 3) | ((with_reducible refine gate_callee (f := 9) rfl ?_); refine goesL_ (some 33) rfl rfl Tryz.func9 (by kernel_rfl) rfl #[.agg #[.bool a0_0, .slice A0_1 l0_1.length c0_1, .string a0_2, .string a0_3], .agg #[.bool a1_0, .slice A1_1 l1_1.length c1_1, .string a1_2, .string a1_3]] rfl (by (try simp only [List.map_toArray, List.map_cons, List.map_nil]); first | done | rfl | (simp only [List.length_drop, List.length_take]; rfl)) ?_; (with_reducible refine (impl_PubCompare.calls kj2 a0_0 _ _ l0_1 a0_2 a0_3 a1_0 _ _ l1_1 a1_2 a1_3 t251 t252 _ ?side1 ?side2 ?side3 ?side4 ?side5 A21.out).mono ?_); (case side1 => repeat (first | exact (Kd.V_reads' HO_242001.out).2.2 | (with_reducible refine Kd.C_alloc ?_ _) | (with_reducible refine Kd.C_drewN ?_ _) | (with_reducible refine Kd.C_drew ?_))); (case side2 => exact (Kd.V_reads' HO_242001.out).2.1); (case side3 => repeat (first | exact (Kd.V_reads' HO_243001.out).2.2 | (with_reducible refine Kd.C_alloc ?_ _) | (with_reducible refine Kd.C_drewN ?_ _) | (with_reducible refine Kd.C_drew ?_))); (case side4 => exact (Kd.V_reads' HO_243001.out).2.1); (case side5 => first | exact HG.out | exact GW.below HG.out (by repeat (first | (with_reducible first | exact HB.out | exact Below.refl _ _ | apply below_alloc | apply pw_below_drewN | apply below_drew1 | apply below_drew | refine below_set ?_ (Aside0.out (by assumption))) | exact HB.out))); rintro e wq4 ⟨rfl, hb⟩; refine ⟨_, rfl, ?_⟩; have n0_ := Aside0.mk (Kd.V_below (by (with_reducible repeat (first | apply Kd.V_alloc | apply Kd.V_drewN | apply Kd.V_drew)); exact HO_242001.out) hb); have n1_ := Aside0.mk (Kd.V_below (by (with_reducible repeat (first | apply Kd.V_alloc | apply Kd.V_drewN | apply Kd.V_drew)); exact HO_243001.out) hb); have n2_ := Aside0.mk (Kd.N_below (by (with_reducible repeat (first | apply Kd.N_alloc | apply Kd.N_drewN | apply Kd.N_drew)); exact HOq1.out) hb); have n3_ := Aside0.mk (blk_below (g := gb241) (o := .cells #[.bool a0_0, .slice A0_1 l0_1.length c0_1, .string a0_2, .string a0_3] 24 (0, 0)) (by (with_reducible repeat (first | refine blk_drewN ?_ _ | refine blk_drew ?_ | refine blk_alloc ?_ _)); exact BK241.out) hb); have n4_ := Aside0.mk (blk_below (g := gb242) (o := .cells #[.bool a1_0, .slice A1_1 l1_1.length c1_1, .string a1_2, .string a1_3] 24 (0, 0)) (by (with_reducible repeat (first | refine blk_drewN ?_ _ | refine blk_drew ?_ | refine blk_alloc ?_ _)); exact BK242.out) hb); have n5_ := Aside0.mk (below_step (by repeat (first | (with_reducible first | exact HB.out | apply below_alloc | apply pw_below_drewN | apply below_drew1 | refine below_set ?_ GE241.out | refine below_set ?_ GE242.out) | exact HB.out)) hb); clear HO_242001; clear HO_243001; clear HOq1; clear BK241; clear BK242; clear HB; have HO_242001 := n0_; have HO_243001 := n1_; have HOq1 := n2_; have BK241 := n3_; have BK242 := n4_; have HB := n5_; clear n0_ n1_ n2_ n3_ n4_ n5_; (try clear hb); (try clear hb2); (try clear hk); (try clear hi); have hczq25 : wq4.cell? ⟨gb242, 0, none⟩ = some (.bool a1_0) := (blk_cell BK242.out 0).trans rfl; have hczq26 : wq4.cell? ⟨gb242, 1, none⟩ = some (.slice A1_1 l1_1.length c1_1) := (blk_cell BK242.out 1).trans rfl; have hczq27 : wq4.cell? ⟨gb242, 2, none⟩ = some (.string a1_2) := (blk_cell BK242.out 2).trans rfl; have hczq28 : wq4.cell? ⟨gb242, 3, none⟩ = some (.string a1_3) := (blk_cell BK242.out 3).trans rfl; have hfzq25 := blk_frozen BK242.out 0; have hfzq26 := blk_frozen BK242.out 1; have hfzq27 := blk_frozen BK242.out 2; have hfzq28 := blk_frozen BK242.out 3; have hczq29 : wq4.cell? ⟨gb241, 0, none⟩ = some (.bool a0_0) := (blk_cell BK241.out 0).trans rfl; have hczq30 : wq4.cell? ⟨gb241, 1, none⟩ = some (.slice A0_1 l0_1.length c0_1) := (blk_cell BK241.out 1).trans rfl; have hczq31 : wq4.cell? ⟨gb241, 2, none⟩ = some (.string a0_2) := (blk_cell BK241.out 2).trans rfl; have hczq32 : wq4.cell? ⟨gb241, 3, none⟩ = some (.string a0_3) := (blk_cell BK241.out 3).trans rfl; have hfzq29 := blk_frozen BK241.out 0; have hfzq30 := blk_frozen BK241.out 1; have hfzq31 := blk_frozen BK241.out 2; have hfzq32 := blk_frozen BK241.out 3) | ((with_reducible refine gate_callee (f := 9) rfl ?_); refine goesL_ (some 39) rfl rfl Tryz.func9 (by kernel_rfl) rfl #[.agg #[.bool a1_0, .slice A1_1 l1_1.length c1_1, .string a1_2, .string a1_3], .agg #[.bool a0_0, .slice A0_1 l0_1.length c0_1, .string a0_2, .string a0_3]] rfl (by (try simp only [List.map_toArray, List.map_cons, List.map_nil]); first | done | rfl | (simp only [List.length_drop, List.length_take]; rfl)) ?_; (with_reducible refine (impl_PubCompare.calls kj2 a1_0 _ _ l1_1 a1_2 a1_3 a0_0 _ _ l0_1 a0_2 a0_3 t253 t254 _ ?side1 ?side2 ?side3 ?side4 ?side5 A22.out).mono ?_); (case side1 => repeat (first | exact (Kd.V_reads' HO_243001.out).2.2 | (with_reducible refine Kd.C_alloc ?_ _) | (with_reducible refine Kd.C_drewN ?_ _) | (with_reducible refine Kd.C_drew ?_))); (case side2 => exact (Kd.V_reads' HO_243001.out).2.1); (case side3 => repeat (first | exact (Kd.V_reads' HO_242001.out).2.2 | (with_reducible refine Kd.C_alloc ?_ _) | (with_reducible refine Kd.C_drewN ?_ _) | (with_reducible refine Kd.C_drew ?_))); (case side4 => exact (Kd.V_reads' HO_242001.out).2.1); (case side5 => first | exact HG.out | exact GW.below HG.out (by repeat (first | (with_reducible first | exact HB.out | exact Below.refl _ _ | apply below_alloc | apply pw_below_drewN | apply below_drew1 | apply below_drew | refine below_set ?_ (Aside0.out (by assumption))) | exact HB.out))); rintro e wq5 ⟨rfl, hb⟩; refine ⟨_, rfl, ?_⟩; have n0_ := Aside0.mk (Kd.V_below (by (with_reducible repeat (first | apply Kd.V_alloc | apply Kd.V_drewN | apply Kd.V_drew)); exact HO_242001.out) hb); have n1_ := Aside0.mk (Kd.V_below (by (with_reducible repeat (first | apply Kd.V_alloc | apply Kd.V_drewN | apply Kd.V_drew)); exact HO_243001.out) hb); have n2_ := Aside0.mk (Kd.N_below (by (with_reducible repeat (first | apply Kd.N_alloc | apply Kd.N_drewN | apply Kd.N_drew)); exact HOq1.out) hb); have n3_ := Aside0.mk (blk_below (g := gb241) (o := .cells #[.bool a0_0, .slice A0_1 l0_1.length c0_1, .string a0_2, .string a0_3] 24 (0, 0)) (by (with_reducible repeat (first | refine blk_drewN ?_ _ | refine blk_drew ?_ | refine blk_alloc ?_ _)); exact BK241.out) hb); have n4_ := Aside0.mk (blk_below (g := gb242) (o := .cells #[.bool a1_0, .slice A1_1 l1_1.length c1_1, .string a1_2, .string a1_3] 24 (0, 0)) (by (with_reducible repeat (first | refine blk_drewN ?_ _ | refine blk_drew ?_ | refine blk_alloc ?_ _)); exact BK242.out) hb); have n5_ := Aside0.mk (below_step (by repeat (first | (with_reducible first | exact HB.out | apply below_alloc | apply pw_below_drewN | apply below_drew1 | refine below_set ?_ GE241.out | refine below_set ?_ GE242.out) | exact HB.out)) hb); clear HO_242001; clear HO_243001; clear HOq1; clear BK241; clear BK242; clear HB; have HO_242001 := n0_; have HO_243001 := n1_; have HOq1 := n2_; have BK241 := n3_; have BK242 := n4_; have HB := n5_; clear n0_ n1_ n2_ n3_ n4_ n5_; (try clear hb); (try clear hb2); (try clear hk); (try clear hi)) | (go_at_call 10; (with_reducible refine (laws_turned.calls t251 t253 t255 _ A26.out).mono ?_); rintro e w' ⟨rfl, ⟨nd, rfl⟩⟩))
        go_ret
        exact ⟨by first | rfl | (simp [errW_none, errW_some] <;> rfl) | (simp [*, errW_none, errW_some] <;> rfl), by repeat (first | (with_reducible first | exact HB.out | apply below_alloc | apply pw_below_drewN | apply below_drew1 | refine below_set ?_ GE241.out | refine below_set ?_ GE242.out) | exact HB.out)⟩
/-- THE ONE PURE STATEMENT of laws_FnPub. -/
def laws_FnPub.Pure : Prop := ∀ (a0_0 : Bool) (l0_1 : List (S66)) (a0_2 : ByteArray) (a0_3 : ByteArray) (a1_0 : Bool) (l1_1 : List (S66)) (a1_2 : ByteArray) (a1_3 : ByteArray), l0_1.length ≤ 9223372036854775807 → l1_1.length ≤ 9223372036854775807 → ∃ k, laws_FnPub.f k a0_0 l0_1 a0_2 a0_3 a1_0 l1_1 a1_2 a1_3 = some true
theorem laws_FnPub.walk (P : laws_FnPub.Pure) (a0_0 : Bool) (A0_1 : Option Addr) (c0_1 : Nat) (l0_1 : List (S66)) (a0_2 : ByteArray) (a0_3 : ByteArray) (a1_0 : Bool) (A1_1 : Option Addr) (c1_1 : Nat) (l1_1 : List (S66)) (a1_2 : ByteArray) (a1_3 : ByteArray) (w : World) (hm0_1 : l0_1.length ≤ 9223372036854775807) (hm1_1 : l1_1.length ≤ 9223372036854775807) (hr0_1 : Kd.C k66 w A0_1 l0_1.length l0_1) (hc0_1 : l0_1.length ≤ c0_1) (hr1_1 : Kd.C k66 w A1_1 l1_1.length l1_1) (hc1_1 : l1_1.length ≤ c1_1) (hG : GW w) :
    Calls Tryz.prog 3 #[.agg #[.bool a0_0, .slice A0_1 l0_1.length c0_1, .string a0_2, .string a0_3], .agg #[.bool a1_0, .slice A1_1 l1_1.length c1_1, .string a1_2, .string a1_3]] w fun e w' => e = .returned (.bool true) ∧ Below w.heap.size w w' := by
  obtain ⟨k, h⟩ := P a0_0 l0_1 a0_2 a0_3 a1_0 l1_1 a1_2 a1_3 hm0_1 hm1_1
  refine (laws_FnPub.calls k a0_0 (fun k_ => k_ < w.heap.size) _ _ l0_1 a0_2 a0_3 a1_0 (fun k_ => k_ < w.heap.size) _ _ l1_1 a1_2 a1_3 true w (Kd.V_mk hc0_1 (Kd.C_F (by repeat (first | exact Kd.heap_bool | exact Kd.heap_string | exact Kd.heap_int _ | (with_reducible apply Kd.heap_iso) | (with_reducible apply Kd.heap_pair) | (with_reducible apply Kd.heap_slice) | apply Kd.heap_iso | apply Kd.heap_pair | apply Kd.heap_slice)) hr0_1)) (Kd.V_mk hc1_1 (Kd.C_F (by repeat (first | exact Kd.heap_bool | exact Kd.heap_string | exact Kd.heap_int _ | (with_reducible apply Kd.heap_iso) | (with_reducible apply Kd.heap_pair) | (with_reducible apply Kd.heap_slice) | apply Kd.heap_iso | apply Kd.heap_pair | apply Kd.heap_slice)) hr1_1)) hG h).mono ?_
  rintro e w' ⟨rfl, hd⟩
  exact ⟨rfl, hd⟩

end Go.Proofs.YtajglnedoeboaaaGreatDoor.Z
