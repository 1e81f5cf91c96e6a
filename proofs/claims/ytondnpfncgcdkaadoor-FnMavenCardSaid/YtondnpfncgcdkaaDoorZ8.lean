-- Written by a program of this session (myprint.py).
import Derived.Test.YtondnpfncgcdkaaDoorZ0
import Derived.Test.YtondnpfncgcdkaaDoorZ3
import Derived.Test.YtondnpfncgcdkaaDoorGe
namespace Go.Proofs.YtondnpfncgcdkaaDoor.Z
open Go.Proofs.YtondnpfncgcdkaaDoor.Gw
open Go.RowKit Go.Proofs.YtondnpfncgcdkaaDoorW.PrintWords Go.Proofs.YtondnpfncgcdkaaDoorW.PrintLast Go.Proofs.YtondnpfncgcdkaaDoorW.PrintMore
attribute [local go_sem high] Go.Proofs.YtondnpfncgcdkaaDoor.Ge.gtr_str
attribute [local go_sem] max2_int min2_int max_two min_two max_three min_three max_four min_four   -- for this text's walks alone
set_option linter.unusedVariables false
set_option linter.unusedSimpArgs false

/-! ### semantic_ZZMaven: function 42 -/
def semantic_ZZMaven.l0 : Nat → List (S53) → Int → Int → List (S70) → Option ((List (S70)))
  | 0, _, _, _, _ => none
  | k + 1, x6, x7, x8, x182000 => if x8 < x7 then (if 0 ≤ x8 then (if x8 < (x6.length : Int) then ((semantic_ZZToken_token.f ((rd_T53 x6 x8).f0) ((rd_T53 x6 x8).f1) ((rd_T53 x6 x8).f2)).bind fun bt184 => (if x182000.length < 3518437208883 then (semantic_ZZMaven.l0 k x6 x7 (wrap64 (x8 + 1)) (x182000 ++ [(⟨bt184.1, bt184.2.1, bt184.2.2⟩ : S70)])) else (none))) else (none)) else (none)) else (some x182000)
def semantic_ZZMaven.f (k : Nat) (l0 : List (S53)) : Option ((List (S70))) := semantic_ZZMaven.l0 k l0 (l0.length : Int) 0 ([] : List (S70))
theorem semantic_ZZMaven.mono_l : ∀ k, (∀ y0 y1 y2 y3, LeO (semantic_ZZMaven.l0 k y0 y1 y2 y3) (semantic_ZZMaven.l0 (k + 1) y0 y1 y2 y3))
  | 0 => fun _ _ _ _ r h => by simp [semantic_ZZMaven.l0] at h
  | k + 1 => by
    have ih0 := semantic_ZZMaven.mono_l k
    · intro y0 y1 y2 y3
      unfold semantic_ZZMaven.l0
      repeat' first
      | (with_reducible exact ih0 _ _ _ _)
      | (with_reducible exact LeO.refl _)
      | (with_reducible exact LeO.none _)
      | (with_reducible refine LeO.ite ?_ ?_)
      | (with_reducible refine LeO.bind ?_ (fun _ => ?_))
      | exact ih0 _ _ _ _
      | exact LeO.none _
      | refine LeO.ite ?_ ?_
      | refine LeO.bind ?_ (fun _ => ?_)
theorem semantic_ZZMaven.mono : ∀ a0 k, LeO (semantic_ZZMaven.f k a0) (semantic_ZZMaven.f (k + 1) a0) := by
  intro a0 k
  have ih0 := semantic_ZZMaven.mono_l k
  unfold semantic_ZZMaven.f
  repeat' first
      | (with_reducible exact ih0 _ _ _ _)
      | (with_reducible exact LeO.refl _)
      | (with_reducible exact LeO.none _)
      | (with_reducible refine LeO.ite ?_ ?_)
      | (with_reducible refine LeO.bind ?_ (fun _ => ?_))
      | exact ih0 _ _ _ _
      | exact LeO.none _
      | refine LeO.ite ?_ ?_
      | refine LeO.bind ?_ (fun _ => ?_)
def semantic_ZZMaven.T5 : Bool × List (List Nat × List Nat) := (true, [([], []), ([0], [0]), ([], []), ([2], [2]), ([3], [3]), ([1, 4, 3], [1, 4]), ([0, 1, 2, 3, 4, 5], []), ([6, 5, 5, 0, 1, 2, 3, 4, 5], [5, 6])])
def semantic_ZZMaven.B5 : List Nat := [0, 1, 0, 4, 12, 31, 63, 127]
theorem semantic_ZZMaven.tab5 : rtab .any (opsOf Tryd.f42 5) = semantic_ZZMaven.T5 := by kernel_rfl
theorem semantic_ZZMaven.bits5 : waitsOk semantic_ZZMaven.T5.2 semantic_ZZMaven.B5 = true := by kernel_rfl
set_option maxHeartbeats 8000000 in
set_option maxRecDepth 100000 in
theorem semantic_ZZMaven.calls (k : Nat) (A0 : Option Addr) (c0 : Nat) (l0 : List (S53)) (r : List (S70)) (w : World) (hr0 : Kd.C k53 w A0 l0.length l0) (hc0 : l0.length ≤ c0) (h : semantic_ZZMaven.f k l0 = some r) :
    Calls Tryd.prog 42 #[.slice A0 l0.length c0] w fun e w' => ∃ v0_ : Value, e = .returned (.agg #[v0_]) ∧ Kd.R k70 70 w' w.heap.size (fun _ => True) v0_ r ∧ Below w.heap.size w w' := by
  have hu62 := Tryd.underlying62
  have hu53 := Tryd.underlying53
  have HR0 := Aside0.mk hr0
  have HC0 := Aside0.mk hc0
  clear hr0 hc0
  have HB := Aside0.mk (Below.refl w.heap.size w)
  have H : (semantic_ZZMaven.l0 k l0 (l0.length : Int) 0 ([] : List (S70))) = some r := h
  clear h
  have H' := Aside0.mk H
  clear H
  go_enter Tryd.func42, Tryd.ntmps42
  go_wp2_with (first | ((with_reducible refine gate_dst (N := 2) rfl ?_); refine box_event ?hg (N := 2) ?hd (cs := #[.slice none 0 0]) (t := 62) ?hr ?_; (case hd => rfl); (case hg => rfl); (case hr => first | (go_simp; done) | (go_simp; rfl)); intro gb180 hg w2 hbox hb; have n0_ := Aside0.mk (below_step (by repeat (first | (with_reducible first | exact HB.out | apply below_alloc | apply pw_below_drewN | apply below_drew1) | exact HB.out)) hb); have n1_ := Aside0.mk (hbox); have n2_ := Aside0.mk ((by rw [hg]; exact (below_size (by repeat (first | (with_reducible first | exact HB.out | apply below_alloc | apply pw_below_drewN | apply below_drew1) | exact HB.out))) : w.heap.size ≤ gb180)); have n3_ := Aside0.mk ((by rw [hg]; exact (below_size (by repeat (first | (with_reducible first | exact HB.out | apply below_alloc | apply pw_below_drewN | apply below_drew1) | exact HB.out))) : w.heap.size ≤ gb180)); clear HB; have HB := n0_; have BK180 := n1_; have GW180 := n2_; have GE180 := n3_; clear n0_ n1_ n2_ n3_; clear hb hbox hg) | ((with_reducible refine gate_dst (N := 3) rfl ?_); refine box_event ?hg (N := 3) ?hd (cs := #[.slice none 0 0]) (t := 62) ?hr ?_; (case hd => rfl); (case hg => rfl); (case hr => first | (go_simp; done) | (go_simp; rfl)); intro gb181 hg w3 hbox hb; have n0_ := Aside0.mk (blk_below (g := gb180) (o := .cells #[.slice none 0 0] 62 (0, 0)) (by (with_reducible repeat (first | refine blk_drewN ?_ _ | refine blk_drew ?_ | refine blk_alloc ?_ _)); exact BK180.out) hb); have n1_ := Aside0.mk (below_step (by repeat (first | (with_reducible first | exact HB.out | apply below_alloc | apply pw_below_drewN | apply below_drew1 | refine below_set ?_ GE180.out) | exact HB.out)) hb); have n2_ := Aside0.mk (hbox); have n3_ := Aside0.mk ((by rw [hg]; exact (below_size (by repeat (first | (with_reducible first | exact HB.out | apply below_alloc | apply pw_below_drewN | apply below_drew1 | refine below_set ?_ GE180.out) | exact HB.out))) : w.heap.size ≤ gb181)); have n4_ := Aside0.mk ((by rw [hg]; exact (below_size (by repeat (first | (with_reducible first | exact HB.out | apply below_alloc | apply pw_below_drewN | apply below_drew1 | refine below_set ?_ GE180.out) | exact HB.out))) : w.heap.size ≤ gb181)); have n5_ := Aside0.mk ((by rw [hg]; exact Nat.ne_of_lt (blk_lt (g := gb180) (o := .cells #[.slice none 0 0] 62 (0, 0)) (by (with_reducible repeat (first | refine blk_drewN ?_ _ | refine blk_drew ?_ | refine blk_alloc ?_ _)); exact BK180.out)) : gb180 ≠ gb181)); have n6_ := Aside0.mk ((by rw [hg]; exact Nat.ne_of_gt (blk_lt (g := gb180) (o := .cells #[.slice none 0 0] 62 (0, 0)) (by (with_reducible repeat (first | refine blk_drewN ?_ _ | refine blk_drew ?_ | refine blk_alloc ?_ _)); exact BK180.out)) : gb181 ≠ gb180)); clear BK180; clear HB; have BK180 := n0_; have HB := n1_; have BK181 := n2_; have GW181 := n3_; have GE181 := n4_; have NB180_181 := n5_; have NB181_180 := n6_; clear n0_ n1_ n2_ n3_ n4_ n5_ n6_; clear hb hbox hg))
  (try go_simp)
  go_loopg [8] k (fun kq v8 w' => ∃ (x8_1 : Int) (x182000_1 : List (S70)) (u182000 : Value), v8 = .int .i64 x8_1 ∧ Aside0 (semantic_ZZMaven.l0 kq l0 (l0.length : Int) x8_1 x182000_1 = some r) ∧ Aside0 (kq ≤ k) ∧ Aside0 (Kd.R k70 70 w' w.heap.size (fun _ => True) u182000 x182000_1) ∧ Aside0 (w'.heap[gb180]? = some (.cells #[(.slice none 0 0)] 62 (0, 0))) ∧ Aside0 (w'.heap[gb181]? = some (.cells #[u182000] 62 (0, 0))) ∧ Aside0 (Below w.heap.size w w'))
  case atStart => exact ⟨(0), (([] : List (S70))), (.slice none 0 0), (by first | rfl | (simp; done) | (simp [*]; done)), H', ⟨Nat.le_refl _⟩, ⟨by first | exact Kd.R_nil _ _ _ _ _ | exact Kd.N_nil _ _ _ _ _ | exact Kd.V_nil _ _ _ _ _ | exact Kd.Q_nil _ _ _ _ _ | exact Kd.S_nil _ _ _ _ _⟩, ⟨by (with_reducible repeat (first | refine blk_drewN ?_ _ | refine blk_drew ?_ | refine blk_alloc ?_ _)); exact BK180.out⟩, ⟨by (with_reducible repeat (first | refine blk_drewN ?_ _ | refine blk_drew ?_ | refine blk_alloc ?_ _)); exact BK181.out⟩, ⟨by repeat (first | (with_reducible first | exact HB.out | apply below_alloc | apply pw_below_drewN | apply below_drew1 | refine below_set ?_ GE180.out | refine below_set ?_ GE181.out) | exact HB.out)⟩⟩
  case round =>
    clear H'
    try clear p2
    obtain ⟨x8_1, x182000_1, u182000, rfl, HA, HK1, HO_182000, BK180, BK181, HB⟩ := hrel
    cases gk with
    | zero => exact absurd HA.out (by simp [semantic_ZZMaven.l0])
    | succ k1 =>
      have H := HA.out
      clear HA
      simp only [semantic_ZZMaven.l0] at H
      by_cases c4 : x8_1 < (l0.length : Int)
      · rw [if_pos c4] at H
        have c4b0 : decide (x8_1 < (l0.length : Int)) = true := decide_eq_true c4
        clear c4
        by_cases c5 : 0 ≤ x8_1
        · rw [if_pos c5] at H
          have c5b0 : decide (0 ≤ x8_1) = true := decide_eq_true c5
          clear c5
          by_cases c6 : x8_1 < (l0.length : Int)
          · rw [if_pos c6] at H
            have c6b0 : decide (x8_1 < (l0.length : Int)) = true := decide_eq_true c6
            clear c6
            replace H := Option.bind_eq_some_iff.mp H
            obtain ⟨⟨t184, t185, t186⟩, A70, H⟩ := H
            replace H : (if x182000_1.length < 3518437208883 then (semantic_ZZMaven.l0 k1 l0 (l0.length : Int) (wrap64 (x8_1 + 1)) (x182000_1 ++ [(⟨t184, t185, t186⟩ : S70)])) else (none)) = some r := H
            have A7 := Aside0.mk A70
            clear A70
            by_cases c8 : x182000_1.length < 3518437208883
            · rw [if_pos c8] at H
              have LMc8 := Aside0.mk c8
              clear c8
              obtain ⟨y187, hy187⟩ : ∃ y_ : List (S70), y_ = (x182000_1 ++ [(⟨t184, t185, t186⟩ : S70)]) := ⟨_, rfl⟩
              replace H : (semantic_ZZMaven.l0 k1 l0 (l0.length : Int) (wrap64 (x8_1 + 1)) y187) = some r := by first | (rw [hy187]; with_reducible exact H) | (have H2_ := (Option.bind_some _ _).symm.trans H; rw [hy187]; with_reducible exact H2_) | (have H2_ := (Option.bind_some _ _).symm.trans H; with_reducible exact H2_) | with_reducible exact H | (rw [hy187]; exact H) | exact H
              have Ny187 := Aside0.mk hy187
              clear hy187
              have H' := Aside0.mk H
              clear H
              have p182 : 0 ≤ (x8_1 : Int) := of_decide_eq_true (by first | (with_reducible assumption) | assumption)
              have q182 : x8_1 < (l0.length : Int) := of_decide_eq_true (by first | (with_reducible assumption) | assumption)
              obtain ⟨ad182, e182, hx182_0, hx182_1, hx182_2⟩ := at_T53 HR0.out x8_1 p182 q182
              cases e182
              replace hx182_0 := (HB.out.cell (World.block_lt_of_cell? w _ hx182_0)).trans hx182_0
              replace hx182_1 := (HB.out.cell (World.block_lt_of_cell? w _ hx182_1)).trans hx182_1
              replace hx182_2 := (HB.out.cell (World.block_lt_of_cell? w _ hx182_2)).trans hx182_2
              replace p182 := eq_true p182
              replace q182 := eq_true q182
              try go_wp2_with (first | ((with_reducible refine gate_dst (N := 5) rfl ?_); refine box_event ?hg (N := 5) ?hd (cs := #[.string (⟨#[]⟩ : ByteArray), .string (⟨#[]⟩ : ByteArray), .bool false]) (t := 53) ?hr ?_; (case hd => rfl); (case hg => rfl); (case hr => first | (go_simp; done) | (go_simp; rfl)); intro gb183 hg w9 hbox hb; have n0_ := Aside0.mk (Kd.R_below (by (with_reducible repeat (first | apply Kd.R_alloc | apply Kd.R_drewN | apply Kd.R_drew)); exact HO_182000.out) hb); have n1_ := Aside0.mk (blk_below (g := gb180) (o := .cells #[.slice none 0 0] 62 (0, 0)) (by (with_reducible repeat (first | refine blk_drewN ?_ _ | refine blk_drew ?_ | refine blk_alloc ?_ _)); exact BK180.out) hb); have n2_ := Aside0.mk (blk_below (g := gb181) (o := .cells #[u182000] 62 (0, 0)) (by (with_reducible repeat (first | refine blk_drewN ?_ _ | refine blk_drew ?_ | refine blk_alloc ?_ _)); exact BK181.out) hb); have n3_ := Aside0.mk (below_step (by repeat (first | (with_reducible first | exact HB.out | apply below_alloc | apply pw_below_drewN | apply below_drew1 | refine below_set ?_ GE180.out | refine below_set ?_ GE181.out) | exact HB.out)) hb); have n4_ := Aside0.mk (hbox); have n5_ := Aside0.mk ((by rw [hg]; exact (below_size (by repeat (first | (with_reducible first | exact HB.out | apply below_alloc | apply pw_below_drewN | apply below_drew1 | refine below_set ?_ GE180.out | refine below_set ?_ GE181.out) | exact HB.out))) : w.heap.size ≤ gb183)); have n6_ := Aside0.mk ((by rw [hg]; exact (below_size (by repeat (first | (with_reducible first | exact HB.out | apply below_alloc | apply pw_below_drewN | apply below_drew1 | refine below_set ?_ GE180.out | refine below_set ?_ GE181.out) | exact HB.out))) : w.heap.size ≤ gb183)); have n7_ := Aside0.mk ((by rw [hg]; exact Nat.ne_of_lt (blk_lt (g := gb180) (o := .cells #[.slice none 0 0] 62 (0, 0)) (by (with_reducible repeat (first | refine blk_drewN ?_ _ | refine blk_drew ?_ | refine blk_alloc ?_ _)); exact BK180.out)) : gb180 ≠ gb183)); have n8_ := Aside0.mk ((by rw [hg]; exact Nat.ne_of_gt (blk_lt (g := gb180) (o := .cells #[.slice none 0 0] 62 (0, 0)) (by (with_reducible repeat (first | refine blk_drewN ?_ _ | refine blk_drew ?_ | refine blk_alloc ?_ _)); exact BK180.out)) : gb183 ≠ gb180)); have n9_ := Aside0.mk ((by rw [hg]; exact Nat.ne_of_lt (blk_lt (g := gb181) (o := .cells #[u182000] 62 (0, 0)) (by (with_reducible repeat (first | refine blk_drewN ?_ _ | refine blk_drew ?_ | refine blk_alloc ?_ _)); exact BK181.out)) : gb181 ≠ gb183)); have n10_ := Aside0.mk ((by rw [hg]; exact Nat.ne_of_gt (blk_lt (g := gb181) (o := .cells #[u182000] 62 (0, 0)) (by (with_reducible repeat (first | refine blk_drewN ?_ _ | refine blk_drew ?_ | refine blk_alloc ?_ _)); exact BK181.out)) : gb183 ≠ gb181)); clear HO_182000; clear BK180; clear BK181; clear HB; have HO_182000 := n0_; have BK180 := n1_; have BK181 := n2_; have HB := n3_; have BK183 := n4_; have GW183 := n5_; have GE183 := n6_; have NB180_183 := n7_; have NB183_180 := n8_; have NB181_183 := n9_; have NB183_181 := n10_; clear n0_ n1_ n2_ n3_ n4_ n5_ n6_ n7_ n8_ n9_ n10_; clear hb hbox hg; have hnb10 := NB183_180.out; have hnc10 := NB180_183.out; have hnb11 := NB183_181.out; have hnc11 := NB181_183.out; have hcz12_0 : w9.cell? ⟨gb183, 0, none⟩ = some (.string (⟨#[]⟩ : ByteArray)) := (blk_cell BK183.out 0).trans rfl; have hcz12_1 : w9.cell? ⟨gb183, 1, none⟩ = some (.string (⟨#[]⟩ : ByteArray)) := (blk_cell BK183.out 1).trans rfl; have hcz12_2 : w9.cell? ⟨gb183, 2, none⟩ = some (.bool false) := (blk_cell BK183.out 2).trans rfl; have hfz12_0 := blk_frozen BK183.out 0; have hfz12_1 := blk_frozen BK183.out 1; have hfz12_2 := blk_frozen BK183.out 2))
              have n0_ : Aside0 (Kd.R k70 70 (((w9.setCell ⟨gb183, 0, none⟩ (.string ((rd_T53 l0 x8_1).f0))).setCell ⟨gb183, 1, none⟩ (.string ((rd_T53 l0 x8_1).f1))).setCell ⟨gb183, 2, none⟩ (.bool ((rd_T53 l0 x8_1).f2))) w.heap.size (fun _ => True) u182000 x182000_1) := ⟨by (with_reducible repeat (first | apply Kd.R_alloc | apply Kd.R_drewN | apply Kd.R_drew)); exact Kd.R_mono (Kd.R_far (p := ⟨gb183, 2, none⟩) (Kd.R_far (p := ⟨gb183, 1, none⟩) (Kd.R_far (p := ⟨gb183, 0, none⟩) (Kd.R_types HO_182000.out BK183.out (by decide)) (fun _ hk => hk.2) (.string ((rd_T53 l0 x8_1).f0))) (fun _ hk => hk.2) (.string ((rd_T53 l0 x8_1).f1))) (fun _ hk => hk.2) (.bool ((rd_T53 l0 x8_1).f2))) (fun _ hk => trivial)⟩
              have n1_ : Aside0 ((((w9.setCell ⟨gb183, 0, none⟩ (.string ((rd_T53 l0 x8_1).f0))).setCell ⟨gb183, 1, none⟩ (.string ((rd_T53 l0 x8_1).f1))).setCell ⟨gb183, 2, none⟩ (.bool ((rd_T53 l0 x8_1).f2))).heap[gb180]? = some (.cells #[.slice none 0 0] 62 (0, 0))) := ⟨by (with_reducible repeat (first | refine blk_drewN ?_ _ | refine blk_drew ?_ | refine blk_alloc ?_ _)); refine blk_far ?_ NB180_183.out _; (with_reducible repeat (first | refine blk_drewN ?_ _ | refine blk_drew ?_ | refine blk_alloc ?_ _)); refine blk_far ?_ NB180_183.out _; (with_reducible repeat (first | refine blk_drewN ?_ _ | refine blk_drew ?_ | refine blk_alloc ?_ _)); refine blk_far ?_ NB180_183.out _; (with_reducible repeat (first | refine blk_drewN ?_ _ | refine blk_drew ?_ | refine blk_alloc ?_ _)); exact BK180.out⟩
              have n2_ : Aside0 ((((w9.setCell ⟨gb183, 0, none⟩ (.string ((rd_T53 l0 x8_1).f0))).setCell ⟨gb183, 1, none⟩ (.string ((rd_T53 l0 x8_1).f1))).setCell ⟨gb183, 2, none⟩ (.bool ((rd_T53 l0 x8_1).f2))).heap[gb181]? = some (.cells #[u182000] 62 (0, 0))) := ⟨by (with_reducible repeat (first | refine blk_drewN ?_ _ | refine blk_drew ?_ | refine blk_alloc ?_ _)); refine blk_far ?_ NB181_183.out _; (with_reducible repeat (first | refine blk_drewN ?_ _ | refine blk_drew ?_ | refine blk_alloc ?_ _)); refine blk_far ?_ NB181_183.out _; (with_reducible repeat (first | refine blk_drewN ?_ _ | refine blk_drew ?_ | refine blk_alloc ?_ _)); refine blk_far ?_ NB181_183.out _; (with_reducible repeat (first | refine blk_drewN ?_ _ | refine blk_drew ?_ | refine blk_alloc ?_ _)); exact BK181.out⟩
              have n3_ : Aside0 ((((w9.setCell ⟨gb183, 0, none⟩ (.string ((rd_T53 l0 x8_1).f0))).setCell ⟨gb183, 1, none⟩ (.string ((rd_T53 l0 x8_1).f1))).setCell ⟨gb183, 2, none⟩ (.bool ((rd_T53 l0 x8_1).f2))).heap[gb183]? = some (.cells #[.string ((rd_T53 l0 x8_1).f0), .string ((rd_T53 l0 x8_1).f1), .bool ((rd_T53 l0 x8_1).f2)] 53 (0, 0))) := ⟨by (with_reducible repeat (first | refine blk_drewN ?_ _ | refine blk_drew ?_ | refine blk_alloc ?_ _)); refine blk_put (cs := #[.string ((rd_T53 l0 x8_1).f0), .string ((rd_T53 l0 x8_1).f1), .bool false]) ?_ 2 _ rfl; (with_reducible repeat (first | refine blk_drewN ?_ _ | refine blk_drew ?_ | refine blk_alloc ?_ _)); refine blk_put (cs := #[.string ((rd_T53 l0 x8_1).f0), .string (⟨#[]⟩ : ByteArray), .bool false]) ?_ 1 _ rfl; (with_reducible repeat (first | refine blk_drewN ?_ _ | refine blk_drew ?_ | refine blk_alloc ?_ _)); refine blk_put (cs := #[.string (⟨#[]⟩ : ByteArray), .string (⟨#[]⟩ : ByteArray), .bool false]) ?_ 0 _ rfl; (with_reducible repeat (first | refine blk_drewN ?_ _ | refine blk_drew ?_ | refine blk_alloc ?_ _)); exact BK183.out⟩
              have n4_ : Aside0 (Below w.heap.size w (((w9.setCell ⟨gb183, 0, none⟩ (.string ((rd_T53 l0 x8_1).f0))).setCell ⟨gb183, 1, none⟩ (.string ((rd_T53 l0 x8_1).f1))).setCell ⟨gb183, 2, none⟩ (.bool ((rd_T53 l0 x8_1).f2)))) := ⟨by repeat (first | (with_reducible first | exact HB.out | apply below_alloc | apply pw_below_drewN | apply below_drew1 | refine below_set ?_ GE180.out | refine below_set ?_ GE181.out | refine below_set ?_ GE183.out) | exact HB.out)⟩
              (try clear HO_182000)
              (try clear BK180)
              (try clear BK181)
              (try clear BK183)
              (try clear HB)
              generalize (((w9.setCell ⟨gb183, 0, none⟩ (.string ((rd_T53 l0 x8_1).f0))).setCell ⟨gb183, 1, none⟩ (.string ((rd_T53 l0 x8_1).f1))).setCell ⟨gb183, 2, none⟩ (.bool ((rd_T53 l0 x8_1).f2))) = w13 at n0_ n1_ n2_ n3_ n4_ ⊢
              have HO_182000 := n0_
              have BK180 := n1_
              have BK181 := n2_
              have BK183 := n3_
              have HB := n4_
              clear n0_ n1_ n2_ n3_ n4_
              have n0_ := Aside0.mk (Kd.R_drew HO_182000.out)
              have n1_ := Aside0.mk (blk_drew BK180.out)
              have n2_ := Aside0.mk (blk_drew BK181.out)
              have n3_ := Aside0.mk (blk_drew BK183.out)
              have n4_ := Aside0.mk (below_drew1 HB.out)
              clear HO_182000
              clear BK180
              clear BK181
              clear BK183
              clear HB
              have HO_182000 := n0_
              have BK180 := n1_
              have BK181 := n2_
              have BK183 := n3_
              have HB := n4_
              clear n0_ n1_ n2_ n3_ n4_
              refine start_ (n := 8) (S := fun w' => w'.cell? ⟨gb181, 0, none⟩ = some (u182000) ∧ w'.cell? ⟨gb183, 0, none⟩ = some (.string ((rd_T53 l0 x8_1).f0)) ∧ w'.cell? ⟨gb183, 1, none⟩ = some (.string ((rd_T53 l0 x8_1).f1)) ∧ w'.cell? ⟨gb183, 2, none⟩ = some (.bool ((rd_T53 l0 x8_1).f2))) (ds := [7]) #[false, false, false, false, false, false, false, false] (by kernel_rfl) rfl rfl ⟨(blk_cell BK181.out 0).trans rfl, (blk_cell BK183.out 0).trans rfl, (blk_cell BK183.out 1).trans rfl, (blk_cell BK183.out 2).trans rfl⟩ (fun hHeld => ?_); refine with_tabW semantic_ZZMaven.tab5 semantic_ZZMaven.bits5 (fun HT_ HW_ => ?_)
              generalize w13.drew = w14 at HO_182000 BK180 BK181 BK183 HB hHeld ⊢
              refine pure_ (i := 0) (N := some 12) (v := ?_) (a' := ?_) #[true, false, false, false, false, false, false, false] rfl rfl (any_of HT_.out (by kernel_rfl)) (fun _ _ _ h => h) (Or.inl ⟨by rfl, ?_⟩) ?_ ?_
              rotate_left
              · intro w'
                go_simp
                with_reducible rfl
              rotate_left
              · simp only [Act.put, List.setIfInBounds_toArray, List.set_cons_zero, List.set_cons_succ, i64_w, i32_w]
                rfl
              refine take_ (i := 1) (N := some 13) (v := ?_) (a' := ?_) #[true, true, false, false, false, false, false, false] rfl rfl (take_ofW HT_.out HW_.out (by kernel_rfl)) (fun _ _ _ h => h) (Or.inl ⟨by rfl, ?_⟩) hHeld ?_ ?_
              rotate_left
              · rintro w' ⟨s0, s1, s2, s3⟩
                go_simp
                with_reducible rfl
              rotate_left
              · simp only [Act.put, List.setIfInBounds_toArray, List.set_cons_zero, List.set_cons_succ, i64_w, i32_w]
                rfl
              refine take_ (i := 2) (N := some 14) (v := ?_) (a' := ?_) #[true, true, true, false, false, false, false, false] rfl rfl (take_ofW HT_.out HW_.out (by kernel_rfl)) (fun _ _ _ h => h) (Or.inl ⟨by rfl, ?_⟩) hHeld ?_ ?_
              rotate_left
              · rintro w' ⟨s0, s1, s2, s3⟩
                go_simp
                with_reducible rfl
              rotate_left
              · simp only [Act.put, List.setIfInBounds_toArray, List.set_cons_zero, List.set_cons_succ, i64_w, i32_w]
                rfl
              refine one_ (i := 3) (N := some 15) #[true, true, true, true, false, false, false, false] rfl rfl (one_of HT_.out (by kernel_rfl)) (by decide) (fun K hK => ?_)
              refine goes_ Tryd.func34 (by kernel_rfl) rfl #[.agg #[.string ((rd_T53 l0 x8_1).f0), .string ((rd_T53 l0 x8_1).f1), .bool ((rd_T53 l0 x8_1).f2)]] (by rfl) rfl rfl (by (try simp only [List.map_toArray, List.map_cons, List.map_nil]); first | done | rfl | (simp only [List.length_drop, List.length_take]; rfl)) ?_
              with_reducible refine (semantic_ZZToken_token.calls ((rd_T53 l0 x8_1).f0) ((rd_T53 l0 x8_1).f1) ((rd_T53 l0 x8_1).f2) t184 t185 t186 _ A7.out).mono ?_
              rintro e w15 ⟨rfl, hb⟩
              refine ⟨_, rfl, ?_⟩
              have n0_ := Aside0.mk (Kd.R_below (by (with_reducible repeat (first | apply Kd.R_alloc | apply Kd.R_drewN | apply Kd.R_drew)); exact HO_182000.out) hb)
              have n1_ := Aside0.mk (blk_below (g := gb180) (o := .cells #[.slice none 0 0] 62 (0, 0)) (by (with_reducible repeat (first | refine blk_drewN ?_ _ | refine blk_drew ?_ | refine blk_alloc ?_ _)); exact BK180.out) hb)
              have n2_ := Aside0.mk (blk_below (g := gb181) (o := .cells #[u182000] 62 (0, 0)) (by (with_reducible repeat (first | refine blk_drewN ?_ _ | refine blk_drew ?_ | refine blk_alloc ?_ _)); exact BK181.out) hb)
              have n3_ := Aside0.mk (blk_below (g := gb183) (o := .cells #[.string ((rd_T53 l0 x8_1).f0), .string ((rd_T53 l0 x8_1).f1), .bool ((rd_T53 l0 x8_1).f2)] 53 (0, 0)) (by (with_reducible repeat (first | refine blk_drewN ?_ _ | refine blk_drew ?_ | refine blk_alloc ?_ _)); exact BK183.out) hb)
              have n4_ := Aside0.mk (below_step (by repeat (first | (with_reducible first | exact HB.out | apply below_alloc | apply pw_below_drewN | apply below_drew1 | refine below_set ?_ GE180.out | refine below_set ?_ GE181.out | refine below_set ?_ GE183.out) | exact HB.out)) hb)
              clear HO_182000
              clear BK180
              clear BK181
              clear BK183
              clear HB
              have HO_182000 := n0_
              have BK180 := n1_
              have BK181 := n2_
              have BK183 := n3_
              have HB := n4_
              clear n0_ n1_ n2_ n3_ n4_
              (try clear hb)
              (try clear hb2)
              (try clear hk)
              (try clear hi)
              refine hK.out _ _ ⟨(blk_cell BK181.out 0).trans rfl, (blk_cell BK183.out 0).trans rfl, (blk_cell BK183.out 1).trans rfl, (blk_cell BK183.out 2).trans rfl⟩ (fun hHeld => ?_)
              clear hK K
              refine norm_ (a' := ?_) ?_ ?_
              rotate_left
              · show Act.put _ (some 15) _ = _
                simp only [Act.put, List.setIfInBounds_toArray, List.set_cons_zero, List.set_cons_succ, i64_w, i32_w]
                rfl
              refine one_ (i := 4) (N := some 16) #[true, true, true, true, true, false, false, false] rfl rfl (one_of HT_.out (by kernel_rfl)) (by decide) (fun K hK => ?_)
              refine value_ (w1 := ?_) (v := ?_) (by rfl) rfl ?_ ?_
              rotate_left 2
              · go_simp
                constructor
                · rfl
                · rfl
              refine hK.out _ _ ⟨(blk_cell (blk_alloc BK181.out _) 0).trans rfl, (blk_cell (blk_alloc BK183.out _) 0).trans rfl, (blk_cell (blk_alloc BK183.out _) 1).trans rfl, (blk_cell (blk_alloc BK183.out _) 2).trans rfl⟩ (fun hHeld => ?_)
              clear hK K
              refine norm_ (a' := ?_) ?_ ?_
              rotate_left
              · show Act.put _ (some 16) _ = _
                simp only [Act.put, List.setIfInBounds_toArray, List.set_cons_zero, List.set_cons_succ, i64_w, i32_w]
                rfl
              refine one_ (i := 5) (N := some 17) #[true, true, true, true, true, true, false, false] rfl rfl (one_of HT_.out (by kernel_rfl)) (by decide) (fun K hK => ?_)
              refine Kd.R_append_step k70 (w0 := w) w.heap.size (by rfl) (.tmp 13) (.tmp 16) 60 70 (.agg #[(.string ⟨#[]⟩), (.string ⟨#[]⟩), (.bool false)]) 40 rfl Tryd.underlying60 info70 rfl (by decide) (by omega) u182000 x182000_1 (⟨t184, t185, t186⟩ : S70) [.string t184, .string t185, .bool t186] (fun _ => True) (fun _ => False) rfl rfl ?aP (fun _ hk => hk.elim) ?aF ?aO ?aB ?aS ?aL ?_
              (case aP => exact k70_mkM _ _ _ (⟨t184, t185, t186⟩ : S70))
              (case aB => exact (by repeat (first | (with_reducible first | exact HB.out | apply below_alloc | apply pw_below_drewN | apply below_drew1 | refine below_set ?_ GE180.out | refine below_set ?_ GE181.out | refine below_set ?_ GE183.out) | exact HB.out)))
              (case aF => exact (fun _ _ => trivial))
              (case aO => exact (by (with_reducible repeat (first | apply Kd.R_alloc | apply Kd.R_drewN | apply Kd.R_drew)); exact HO_182000.out))
              (case aS => exact (below_size (by repeat (first | (with_reducible first | exact HB.out | apply below_alloc | apply pw_below_drewN | apply below_drew1 | refine below_set ?_ GE180.out | refine below_set ?_ GE181.out | refine below_set ?_ GE183.out) | exact HB.out))))
              (case aL => have := LMc8.out; omega)
              intro v188 w16 ho hb hg hat
              rw [← Ny187.out] at ho
              have n0_ := Aside0.mk (blk_grown (g := gb180) (o := .cells #[.slice none 0 0] 62 (0, 0)) (by (with_reducible repeat (first | refine blk_drewN ?_ _ | refine blk_drew ?_ | refine blk_alloc ?_ _)); exact BK180.out) hg (Kd.R_ne HO_182000.out BK180.out (by decide)))
              have n1_ := Aside0.mk (blk_grown (g := gb181) (o := .cells #[u182000] 62 (0, 0)) (by (with_reducible repeat (first | refine blk_drewN ?_ _ | refine blk_drew ?_ | refine blk_alloc ?_ _)); exact BK181.out) hg (Kd.R_ne HO_182000.out BK181.out (by decide)))
              have n2_ := Aside0.mk (blk_grown (g := gb183) (o := .cells #[.string ((rd_T53 l0 x8_1).f0), .string ((rd_T53 l0 x8_1).f1), .bool ((rd_T53 l0 x8_1).f2)] 53 (0, 0)) (by (with_reducible repeat (first | refine blk_drewN ?_ _ | refine blk_drew ?_ | refine blk_alloc ?_ _)); exact BK183.out) hg (Kd.R_ne HO_182000.out BK183.out (by decide)))
              have n3_ := Aside0.mk (hb)
              have n4_ := Aside0.mk (ho)
              clear BK180
              clear BK181
              clear BK183
              clear HB
              clear HO_182000
              have BK180 := n0_
              have BK181 := n1_
              have BK183 := n2_
              have HB := n3_
              have HO189 := n4_
              clear n0_ n1_ n2_ n3_ n4_
              clear ho hb hg hat
              obtain ⟨Ao17, co17, eo17⟩ := Kd.R_slice HO189.out
              (first | subst eo17 | (injection eo17 with f1_ f2_ f3_; have f4_ := f1_.symm; have f5_ := f3_.symm; clear f1_ f2_ f3_; subst f4_; subst f5_))
              refine hK.out _ _ ⟨(blk_cell BK181.out 0).trans rfl, (blk_cell BK183.out 0).trans rfl, (blk_cell BK183.out 1).trans rfl, (blk_cell BK183.out 2).trans rfl⟩ (fun hHeld => ?_)
              clear hK K
              refine norm_ (a' := ?_) ?_ ?_
              rotate_left
              · show Act.put _ (some 17) _ = _
                simp only [Act.put, List.setIfInBounds_toArray, List.set_cons_zero, List.set_cons_succ, i64_w, i32_w]
                rfl
              refine pure_ (i := 6) (N := some 18) (v := ?_) (a' := ?_) #[true, true, true, true, true, true, true, false] rfl rfl (any_of HT_.out (by kernel_rfl)) (fun _ _ _ h => h) (Or.inl ⟨by rfl, ?_⟩) ?_ ?_
              rotate_left
              · intro w'
                go_simp
                with_reducible rfl
              rotate_left
              · simp only [Act.put, List.setIfInBounds_toArray, List.set_cons_zero, List.set_cons_succ, i64_w, i32_w]
                rfl
              refine last_ (i := 7) (N := none) #[true, true, true, true, true, true, true, true] rfl rfl (one_of HT_.out (by kernel_rfl)) (by decide) (fun K hK => ?_)
              have hs18 : w16.cell? ⟨gb181, 0, none⟩ = some (u182000) := (blk_cell BK181.out 0).trans rfl
              have hfs18 := blk_frozen BK181.out 0
              have hns18_0 := NB180_181.out
              have hns18_2 := NB183_181.out
              have hms18_0 := NB181_180.out
              have hms18_2 := NB181_183.out
              refine skip_ (w1 := ?_) (by rfl) rfl ?_ ?_
              rotate_left
              · go_simp
                rfl
              refine hK.out _ _ ?_
              clear hK K
              refine done_ (done_of HT_.out (by kernel_rfl)) ?_
              try go_wp2
              go_roundg k1
              case measure => have := HK1.out; omega
              case rel => exact ⟨(wrap64 (x8_1 + 1)), (y187), (.slice Ao17 y187.length co17), (by first | rfl | (simp; done) | (simp [*]; done)), H', ⟨by have := HK1.out; omega⟩, ⟨by (with_reducible repeat (first | apply Kd.R_alloc | apply Kd.R_drewN | apply Kd.R_drew)); exact Kd.R_mono (Kd.R_far (p := ⟨gb181, 0, none⟩) (Kd.R_types HO189.out BK181.out (by decide)) (fun _ hk => hk.2) (.slice Ao17 y187.length co17)) (fun _ hk => trivial)⟩, ⟨by (with_reducible repeat (first | refine blk_drewN ?_ _ | refine blk_drew ?_ | refine blk_alloc ?_ _)); refine blk_far ?_ NB180_181.out _; (with_reducible repeat (first | refine blk_drewN ?_ _ | refine blk_drew ?_ | refine blk_alloc ?_ _)); exact BK180.out⟩, ⟨by (with_reducible repeat (first | refine blk_drewN ?_ _ | refine blk_drew ?_ | refine blk_alloc ?_ _)); refine blk_put (cs := #[u182000]) ?_ 0 _ rfl; (with_reducible repeat (first | refine blk_drewN ?_ _ | refine blk_drew ?_ | refine blk_alloc ?_ _)); exact BK181.out⟩, ⟨by repeat (first | (with_reducible first | exact HB.out | apply below_alloc | apply pw_below_drewN | apply below_drew1 | refine below_set ?_ GE180.out | refine below_set ?_ GE181.out | refine below_set ?_ GE183.out) | exact HB.out)⟩⟩
            · rw [if_neg c8] at H
              exact absurd H (by simp)
          · rw [if_neg c6] at H
            exact absurd H (by simp)
        · rw [if_neg c5] at H
          exact absurd H (by simp)
      · rw [if_neg c4] at H
        have c4b0 : decide (x8_1 < (l0.length : Int)) = false := decide_eq_false c4
        clear c4
        obtain rfl := Option.some.inj H
        have hnb19 := NB181_180.out
        have hnc19 := NB180_181.out
        have hcz20_0 : wr.cell? ⟨gb181, 0, none⟩ = some (u182000) := (blk_cell BK181.out 0).trans rfl
        have hfz20_0 := blk_frozen BK181.out 0
        obtain ⟨Ao21, co21, eo21⟩ := Kd.R_slice HO_182000.out
        subst eo21
        have hcz22_0 : wr.cell? ⟨gb180, 0, none⟩ = some (.slice none 0 0) := (blk_cell BK180.out 0).trans rfl
        have hfz22_0 := blk_frozen BK180.out 0
        go_wp2
        refine bodyPost_ret (results_cell_row rfl _ _ gb180 62 #[.slice Ao21 x182000_1.length co21] (0, 0) _ rfl (by (with_reducible repeat (first | refine blk_drewN ?_ _ | refine blk_drew ?_ | refine blk_alloc ?_ _)); refine blk_put (cs := #[.slice none 0 0]) ?_ 0 _ rfl; (with_reducible repeat (first | refine blk_drewN ?_ _ | refine blk_drew ?_ | refine blk_alloc ?_ _)); exact BK180.out) Tryd.underlying62 rfl (by kernel_rfl)) rfl ?_
        exact ⟨_, by first | rfl | (simp [errW_none, errW_some] <;> rfl) | (simp [*, errW_none, errW_some] <;> rfl), by (with_reducible repeat (first | apply Kd.R_alloc | apply Kd.R_drewN | apply Kd.R_drew)); exact Kd.R_mono (Kd.R_far (p := ⟨gb180, 0, none⟩) (Kd.R_types HO_182000.out BK180.out (by decide)) (fun _ hk => hk.2) (.slice Ao21 x182000_1.length co21)) (fun _ hk => trivial), by repeat (first | (with_reducible first | exact HB.out | apply below_alloc | apply pw_below_drewN | apply below_drew1 | refine below_set ?_ GE180.out | refine below_set ?_ GE181.out) | exact HB.out)⟩

/-! ### impl_maven: function 29 -/
def impl_maven.l0 : Nat → List (S53) → List (S23) → Int → Int → Option ((List (S70)))
  | 0, _, _, _, _ => none
  | k + 1, x3, x6, x7, x8 => if x8 < x7 then (if 0 ≤ x8 then (if x8 < (x6.length : Int) then (if x3.length < 3518437208883 then (impl_maven.l0 k (x3 ++ [(⟨(rd_T23 x6 x8).f0, (rd_T23 x6 x8).f1, (rd_T23 x6 x8).f2⟩ : S53)]) x6 x7 (wrap64 (x8 + 1))) else (none)) else (none)) else (none)) else ((semantic_ZZMaven.f k x3).bind fun t196 => (some t196))
def impl_maven.f (k : Nat) (l0 : List (S23)) : Option ((List (S70))) := impl_maven.l0 k ([] : List (S53)) l0 (l0.length : Int) 0
theorem impl_maven.mono_l : ∀ k, (∀ y0 y1 y2 y3, LeO (impl_maven.l0 k y0 y1 y2 y3) (impl_maven.l0 (k + 1) y0 y1 y2 y3))
  | 0 => fun _ _ _ _ r h => by simp [impl_maven.l0] at h
  | k + 1 => by
    have ih0 := impl_maven.mono_l k
    · intro y0 y1 y2 y3
      unfold impl_maven.l0
      repeat' first
      | (with_reducible exact ih0 _ _ _ _)
      | (with_reducible exact semantic_ZZMaven.mono _ _)
      | (with_reducible exact LeO.refl _)
      | (with_reducible exact LeO.none _)
      | (with_reducible refine LeO.ite ?_ ?_)
      | (with_reducible refine LeO.bind ?_ (fun _ => ?_))
      | exact ih0 _ _ _ _
      | exact semantic_ZZMaven.mono _ _
      | exact LeO.none _
      | refine LeO.ite ?_ ?_
      | refine LeO.bind ?_ (fun _ => ?_)
theorem impl_maven.mono : ∀ a0 k, LeO (impl_maven.f k a0) (impl_maven.f (k + 1) a0) := by
  intro a0 k
  have ih0 := impl_maven.mono_l k
  unfold impl_maven.f
  repeat' first
      | (with_reducible exact ih0 _ _ _ _)
      | (with_reducible exact semantic_ZZMaven.mono _ _)
      | (with_reducible exact LeO.refl _)
      | (with_reducible exact LeO.none _)
      | (with_reducible refine LeO.ite ?_ ?_)
      | (with_reducible refine LeO.bind ?_ (fun _ => ?_))
      | exact ih0 _ _ _ _
      | exact semantic_ZZMaven.mono _ _
      | exact LeO.none _
      | refine LeO.ite ?_ ?_
      | refine LeO.bind ?_ (fun _ => ?_)
set_option maxHeartbeats 8000000 in
set_option maxRecDepth 100000 in
theorem impl_maven.calls (k : Nat) (A0 : Option Addr) (c0 : Nat) (l0 : List (S23)) (r : List (S70)) (w : World) (hr0 : Kd.C k23 w A0 l0.length l0) (hc0 : l0.length ≤ c0) (h : impl_maven.f k l0 = some r) :
    Calls Tryd.prog 29 #[.slice A0 l0.length c0] w fun e w' => ∃ v0_ : Value, e = .returned (.agg #[v0_]) ∧ Kd.R k70 70 w' w.heap.size (fun _ => True) v0_ r ∧ Below w.heap.size w w' := by
  have hu62 := Tryd.underlying62
  have hu23 := Tryd.underlying23
  have HR0 := Aside0.mk hr0
  have HC0 := Aside0.mk hc0
  clear hr0 hc0
  have HB := Aside0.mk (Below.refl w.heap.size w)
  have H : (impl_maven.l0 k ([] : List (S53)) l0 (l0.length : Int) 0) = some r := h
  clear h
  have H' := Aside0.mk H
  clear H
  go_enter Tryd.func29, Tryd.ntmps29
  go_wp2_with (first | ((with_reducible refine gate_dst (N := 2) rfl ?_); refine box_event ?hg (N := 2) ?hd (cs := #[.slice none 0 0]) (t := 62) ?hr ?_; (case hd => rfl); (case hg => rfl); (case hr => first | (go_simp; done) | (go_simp; rfl)); intro gb190 hg w2 hbox hb; have n0_ := Aside0.mk (below_step (by repeat (first | (with_reducible first | exact HB.out | apply below_alloc | apply pw_below_drewN | apply below_drew1) | exact HB.out)) hb); have n1_ := Aside0.mk (hbox); have n2_ := Aside0.mk ((by rw [hg]; exact (below_size (by repeat (first | (with_reducible first | exact HB.out | apply below_alloc | apply pw_below_drewN | apply below_drew1) | exact HB.out))) : w.heap.size ≤ gb190)); have n3_ := Aside0.mk ((by rw [hg]; exact (below_size (by repeat (first | (with_reducible first | exact HB.out | apply below_alloc | apply pw_below_drewN | apply below_drew1) | exact HB.out))) : w.heap.size ≤ gb190)); clear HB; have HB := n0_; have BK190 := n1_; have GW190 := n2_; have GE190 := n3_; clear n0_ n1_ n2_ n3_; clear hb hbox hg))
  (try go_simp)
  go_loopg [3, 8] k (fun kq v3 v8 w' => ∃ (x3_1 : List (S53)) (x8_1 : Int), v8 = .int .i64 x8_1 ∧ Aside0 (impl_maven.l0 kq x3_1 l0 (l0.length : Int) x8_1 = some r) ∧ Aside0 (kq ≤ k) ∧ Aside0 (Kd.R k53 53 w' w.heap.size (fun _ => True) v3 x3_1) ∧ Aside0 (w'.heap[gb190]? = some (.cells #[(.slice none 0 0)] 62 (0, 0))) ∧ Aside0 (Below w.heap.size w w'))
  case atStart => exact ⟨(([] : List (S53))), (0), (by first | rfl | (simp; done) | (simp [*]; done)), H', ⟨Nat.le_refl _⟩, ⟨by first | exact Kd.R_nil _ _ _ _ _ | exact Kd.N_nil _ _ _ _ _ | exact Kd.V_nil _ _ _ _ _ | exact Kd.Q_nil _ _ _ _ _ | exact Kd.S_nil _ _ _ _ _⟩, ⟨by (with_reducible repeat (first | refine blk_drewN ?_ _ | refine blk_drew ?_ | refine blk_alloc ?_ _)); exact BK190.out⟩, ⟨by repeat (first | (with_reducible first | exact HB.out | apply below_alloc | apply pw_below_drewN | apply below_drew1 | refine below_set ?_ GE190.out) | exact HB.out)⟩⟩
  case round =>
    clear H'
    try clear c2
    try clear p2
    obtain ⟨x3_1, x8_1, rfl, HA, HK1, HO_3, BK190, HB⟩ := hrel
    cases gk with
    | zero => exact absurd HA.out (by simp [impl_maven.l0])
    | succ k1 =>
      have H := HA.out
      clear HA
      simp only [impl_maven.l0] at H
      by_cases c3 : x8_1 < (l0.length : Int)
      · rw [if_pos c3] at H
        have c3b0 : decide (x8_1 < (l0.length : Int)) = true := decide_eq_true c3
        clear c3
        by_cases c4 : 0 ≤ x8_1
        · rw [if_pos c4] at H
          have c4b0 : decide (0 ≤ x8_1) = true := decide_eq_true c4
          clear c4
          by_cases c5 : x8_1 < (l0.length : Int)
          · rw [if_pos c5] at H
            have c5b0 : decide (x8_1 < (l0.length : Int)) = true := decide_eq_true c5
            clear c5
            by_cases c6 : x3_1.length < 3518437208883
            · rw [if_pos c6] at H
              have LMc6 := Aside0.mk c6
              clear c6
              obtain ⟨y193, hy193⟩ : ∃ y_ : List (S53), y_ = (x3_1 ++ [(⟨(rd_T23 l0 x8_1).f0, (rd_T23 l0 x8_1).f1, (rd_T23 l0 x8_1).f2⟩ : S53)]) := ⟨_, rfl⟩
              replace H : (impl_maven.l0 k1 y193 l0 (l0.length : Int) (wrap64 (x8_1 + 1))) = some r := by first | (rw [hy193]; with_reducible exact H) | (have H2_ := (Option.bind_some _ _).symm.trans H; rw [hy193]; with_reducible exact H2_) | (have H2_ := (Option.bind_some _ _).symm.trans H; with_reducible exact H2_) | with_reducible exact H | (rw [hy193]; exact H) | exact H
              have Ny193 := Aside0.mk hy193
              clear hy193
              have H' := Aside0.mk H
              clear H
              have p191 : 0 ≤ (x8_1 : Int) := of_decide_eq_true (by first | (with_reducible assumption) | assumption)
              have q191 : x8_1 < (l0.length : Int) := of_decide_eq_true (by first | (with_reducible assumption) | assumption)
              obtain ⟨ad191, e191, hx191_0, hx191_1, hx191_2⟩ := at_T23 HR0.out x8_1 p191 q191
              cases e191
              replace hx191_0 := (HB.out.cell (World.block_lt_of_cell? w _ hx191_0)).trans hx191_0
              replace hx191_1 := (HB.out.cell (World.block_lt_of_cell? w _ hx191_1)).trans hx191_1
              replace hx191_2 := (HB.out.cell (World.block_lt_of_cell? w _ hx191_2)).trans hx191_2
              replace p191 := eq_true p191
              replace q191 := eq_true q191
              go_wp2_with (first | ((with_reducible refine gate_dst (N := 5) rfl ?_); refine box_event ?hg (N := 5) ?hd (cs := #[.string (⟨#[]⟩ : ByteArray), .string (⟨#[]⟩ : ByteArray), .bool false]) (t := 23) ?hr ?_; (case hd => rfl); (case hg => rfl); (case hr => first | (go_simp; done) | (go_simp; rfl)); intro gb192 hg w7 hbox hb; have n0_ := Aside0.mk (Kd.R_below (by (with_reducible repeat (first | apply Kd.R_alloc | apply Kd.R_drewN | apply Kd.R_drew)); exact HO_3.out) hb); have n1_ := Aside0.mk (blk_below (g := gb190) (o := .cells #[.slice none 0 0] 62 (0, 0)) (by (with_reducible repeat (first | refine blk_drewN ?_ _ | refine blk_drew ?_ | refine blk_alloc ?_ _)); exact BK190.out) hb); have n2_ := Aside0.mk (below_step (by repeat (first | (with_reducible first | exact HB.out | apply below_alloc | apply pw_below_drewN | apply below_drew1 | refine below_set ?_ GE190.out) | exact HB.out)) hb); have n3_ := Aside0.mk (hbox); have n4_ := Aside0.mk ((by rw [hg]; exact (below_size (by repeat (first | (with_reducible first | exact HB.out | apply below_alloc | apply pw_below_drewN | apply below_drew1 | refine below_set ?_ GE190.out) | exact HB.out))) : w.heap.size ≤ gb192)); have n5_ := Aside0.mk ((by rw [hg]; exact (below_size (by repeat (first | (with_reducible first | exact HB.out | apply below_alloc | apply pw_below_drewN | apply below_drew1 | refine below_set ?_ GE190.out) | exact HB.out))) : w.heap.size ≤ gb192)); have n6_ := Aside0.mk ((by rw [hg]; exact Nat.ne_of_lt (blk_lt (g := gb190) (o := .cells #[.slice none 0 0] 62 (0, 0)) (by (with_reducible repeat (first | refine blk_drewN ?_ _ | refine blk_drew ?_ | refine blk_alloc ?_ _)); exact BK190.out)) : gb190 ≠ gb192)); have n7_ := Aside0.mk ((by rw [hg]; exact Nat.ne_of_gt (blk_lt (g := gb190) (o := .cells #[.slice none 0 0] 62 (0, 0)) (by (with_reducible repeat (first | refine blk_drewN ?_ _ | refine blk_drew ?_ | refine blk_alloc ?_ _)); exact BK190.out)) : gb192 ≠ gb190)); clear HO_3; clear BK190; clear HB; have HO_3 := n0_; have BK190 := n1_; have HB := n2_; have BK192 := n3_; have GW192 := n4_; have GE192 := n5_; have NB190_192 := n6_; have NB192_190 := n7_; clear n0_ n1_ n2_ n3_ n4_ n5_ n6_ n7_; clear hb hbox hg; have hnb8 := NB192_190.out; have hnc8 := NB190_192.out; have hcz9_0 : w7.cell? ⟨gb192, 0, none⟩ = some (.string (⟨#[]⟩ : ByteArray)) := (blk_cell BK192.out 0).trans rfl; have hcz9_1 : w7.cell? ⟨gb192, 1, none⟩ = some (.string (⟨#[]⟩ : ByteArray)) := (blk_cell BK192.out 1).trans rfl; have hcz9_2 : w7.cell? ⟨gb192, 2, none⟩ = some (.bool false) := (blk_cell BK192.out 2).trans rfl; have hfz9_0 := blk_frozen BK192.out 0; have hfz9_1 := blk_frozen BK192.out 1; have hfz9_2 := blk_frozen BK192.out 2) | ((with_reducible refine gate_builtin (b := .append) (xs := #[.tmp 12, .tmp 14]) rfl ?_); at_builtin; refine Kd.R_append k53 (w0 := w) w.heap.size rfl (.tmp 12) (.tmp 14) 78 53 (.agg #[(.string ⟨#[]⟩), (.string ⟨#[]⟩), (.bool false)]) 40 rfl Tryd.underlying78 info53 rfl (by decide) (by omega) u3 x3_1 (⟨(rd_T23 l0 x8_1).f0, (rd_T23 l0 x8_1).f1, (rd_T23 l0 x8_1).f2⟩ : S53) [.string ((rd_T23 l0 x8_1).f0), .string ((rd_T23 l0 x8_1).f1), .bool ((rd_T23 l0 x8_1).f2)] (fun _ => True) (fun _ => False) rfl (by first | (go_simp; done) | (go_simp; rfl)) ?aP (fun _ hk => hk.elim) ?aF ?aO ?aB ?aS ?aL ?_; (case aP => exact k53_mkM _ _ _ (⟨(rd_T23 l0 x8_1).f0, (rd_T23 l0 x8_1).f1, (rd_T23 l0 x8_1).f2⟩ : S53)); (case aB => exact (by repeat (first | (with_reducible first | exact HB.out | apply below_alloc | apply pw_below_drewN | apply below_drew1 | refine below_set ?_ GE190.out | refine below_set ?_ GE192.out) | exact HB.out))); (case aF => exact (fun _ _ => trivial)); (case aO => exact (by (with_reducible repeat (first | apply Kd.R_alloc | apply Kd.R_drewN | apply Kd.R_drew)); exact Kd.R_mono (Kd.R_far (p := ⟨gb192, 2, none⟩) (Kd.R_far (p := ⟨gb192, 1, none⟩) (Kd.R_far (p := ⟨gb192, 0, none⟩) (Kd.R_types HO_3.out BK192.out (by decide)) (fun _ hk => hk.2) (.string ((rd_T23 l0 x8_1).f0))) (fun _ hk => hk.2) (.string ((rd_T23 l0 x8_1).f1))) (fun _ hk => hk.2) (.bool ((rd_T23 l0 x8_1).f2))) (fun _ hk => trivial))); (case aS => exact (below_size (by repeat (first | (with_reducible first | exact HB.out | apply below_alloc | apply pw_below_drewN | apply below_drew1 | refine below_set ?_ GE190.out | refine below_set ?_ GE192.out) | exact HB.out)))); (case aL => have := LMc6.out; omega); intro v194 w10 ho hb hg hat; rw [← Ny193.out] at ho; have n0_ := Aside0.mk (blk_grown (g := gb190) (o := .cells #[.slice none 0 0] 62 (0, 0)) (by (with_reducible repeat (first | refine blk_drewN ?_ _ | refine blk_drew ?_ | refine blk_alloc ?_ _)); refine blk_far ?_ NB190_192.out _; (with_reducible repeat (first | refine blk_drewN ?_ _ | refine blk_drew ?_ | refine blk_alloc ?_ _)); refine blk_far ?_ NB190_192.out _; (with_reducible repeat (first | refine blk_drewN ?_ _ | refine blk_drew ?_ | refine blk_alloc ?_ _)); refine blk_far ?_ NB190_192.out _; (with_reducible repeat (first | refine blk_drewN ?_ _ | refine blk_drew ?_ | refine blk_alloc ?_ _)); exact BK190.out) hg (Kd.R_ne HO_3.out BK190.out (by decide))); have n1_ := Aside0.mk (blk_grown (g := gb192) (o := .cells #[.string ((rd_T23 l0 x8_1).f0), .string ((rd_T23 l0 x8_1).f1), .bool ((rd_T23 l0 x8_1).f2)] 23 (0, 0)) (by (with_reducible repeat (first | refine blk_drewN ?_ _ | refine blk_drew ?_ | refine blk_alloc ?_ _)); refine blk_put (cs := #[.string ((rd_T23 l0 x8_1).f0), .string ((rd_T23 l0 x8_1).f1), .bool false]) ?_ 2 _ rfl; (with_reducible repeat (first | refine blk_drewN ?_ _ | refine blk_drew ?_ | refine blk_alloc ?_ _)); refine blk_put (cs := #[.string ((rd_T23 l0 x8_1).f0), .string (⟨#[]⟩ : ByteArray), .bool false]) ?_ 1 _ rfl; (with_reducible repeat (first | refine blk_drewN ?_ _ | refine blk_drew ?_ | refine blk_alloc ?_ _)); refine blk_put (cs := #[.string (⟨#[]⟩ : ByteArray), .string (⟨#[]⟩ : ByteArray), .bool false]) ?_ 0 _ rfl; (with_reducible repeat (first | refine blk_drewN ?_ _ | refine blk_drew ?_ | refine blk_alloc ?_ _)); exact BK192.out) hg (Kd.R_ne HO_3.out BK192.out (by decide))); have n2_ := Aside0.mk (hb); have n3_ := Aside0.mk (ho); clear BK190; clear BK192; clear HB; clear HO_3; have BK190 := n0_; have BK192 := n1_; have HB := n2_; have HO195 := n3_; clear n0_ n1_ n2_ n3_; clear ho hb hg hat))
              go_roundg k1
              case measure => have := HK1.out; omega
              case rel => exact ⟨(y193), (wrap64 (x8_1 + 1)), (by first | rfl | (simp; done) | (simp [*]; done)), H', ⟨by have := HK1.out; omega⟩, ⟨by (with_reducible repeat (first | apply Kd.R_alloc | apply Kd.R_drewN | apply Kd.R_drew)); exact HO195.out⟩, ⟨by (with_reducible repeat (first | refine blk_drewN ?_ _ | refine blk_drew ?_ | refine blk_alloc ?_ _)); exact BK190.out⟩, ⟨by repeat (first | (with_reducible first | exact HB.out | apply below_alloc | apply pw_below_drewN | apply below_drew1 | refine below_set ?_ GE190.out | refine below_set ?_ GE192.out) | exact HB.out)⟩⟩
            · rw [if_neg c6] at H
              exact absurd H (by simp)
          · rw [if_neg c5] at H
            exact absurd H (by simp)
        · rw [if_neg c4] at H
          exact absurd H (by simp)
      · rw [if_neg c3] at H
        have c3b0 : decide (x8_1 < (l0.length : Int)) = false := decide_eq_false c3
        clear c3
        replace H := Option.bind_eq_some_iff.mp H
        obtain ⟨t196, A110, H⟩ := H
        replace H : (some t196) = some r := H
        have A11 := Aside0.mk A110
        clear A110
        obtain rfl := Option.some.inj H
        obtain ⟨Ao12, co12, eo12⟩ := Kd.R_slice HO_3.out
        subst eo12
        go_wp2_with (first | ((with_reducible refine gate_callee (f := 42) rfl ?_); refine goesL_ (some 18) rfl rfl Tryd.func42 (by kernel_rfl) rfl #[.slice Ao12 x3_1.length co12] rfl (by (try simp only [List.map_toArray, List.map_cons, List.map_nil]); first | done | rfl | (simp only [List.length_drop, List.length_take]; rfl)) ?_; (with_reducible refine (semantic_ZZMaven.calls k1 _ _ x3_1 t196 _ ?side1 ?side2 A11.out).mono ?_); (case side1 => repeat (first | exact (Kd.R_reads' HO_3.out).2.2 | (with_reducible refine Kd.C_alloc ?_ _) | (with_reducible refine Kd.C_drewN ?_ _) | (with_reducible refine Kd.C_drew ?_))); (case side2 => exact (Kd.R_reads' HO_3.out).2.1); rintro e w13 ⟨v197, rfl, ho0, hb⟩; refine ⟨_, rfl, ?_⟩; have n0_ := Aside0.mk (Kd.R_below (by (with_reducible repeat (first | apply Kd.R_alloc | apply Kd.R_drewN | apply Kd.R_drew)); exact HO_3.out) hb); have n1_ := Aside0.mk (Kd.R_lower ho0 (below_size (by repeat (first | (with_reducible first | exact HB.out | apply below_alloc | apply pw_below_drewN | apply below_drew1 | refine below_set ?_ GE190.out) | exact HB.out)))); have n2_ := Aside0.mk (blk_below (g := gb190) (o := .cells #[.slice none 0 0] 62 (0, 0)) (by (with_reducible repeat (first | refine blk_drewN ?_ _ | refine blk_drew ?_ | refine blk_alloc ?_ _)); exact BK190.out) hb); have n3_ := Aside0.mk (below_step (by repeat (first | (with_reducible first | exact HB.out | apply below_alloc | apply pw_below_drewN | apply below_drew1 | refine below_set ?_ GE190.out) | exact HB.out)) hb); clear HO_3; clear BK190; clear HB; have HO_3 := n0_; have HO198 := n1_; have BK190 := n2_; have HB := n3_; clear n0_ n1_ n2_ n3_; (try clear hb); (try clear hb2); (try clear hk); (try clear hi); (try clear ho0); obtain ⟨Ao14, co14, eo14⟩ := Kd.R_slice HO198.out; subst eo14; have hcz15_0 : w13.cell? ⟨gb190, 0, none⟩ = some (.slice none 0 0) := (blk_cell BK190.out 0).trans rfl; have hfz15_0 := blk_frozen BK190.out 0))
        refine bodyPost_ret (results_cell_row rfl _ _ gb190 62 #[.slice Ao14 t196.length co14] (0, 0) _ rfl (by (with_reducible repeat (first | refine blk_drewN ?_ _ | refine blk_drew ?_ | refine blk_alloc ?_ _)); refine blk_put (cs := #[.slice none 0 0]) ?_ 0 _ rfl; (with_reducible repeat (first | refine blk_drewN ?_ _ | refine blk_drew ?_ | refine blk_alloc ?_ _)); exact BK190.out) Tryd.underlying62 rfl (by kernel_rfl)) rfl ?_
        exact ⟨_, by first | rfl | (simp [errW_none, errW_some] <;> rfl) | (simp [*, errW_none, errW_some] <;> rfl), by (with_reducible repeat (first | apply Kd.R_alloc | apply Kd.R_drewN | apply Kd.R_drew)); exact Kd.R_mono (Kd.R_far (p := ⟨gb190, 0, none⟩) (Kd.R_types HO198.out BK190.out (by decide)) (fun _ hk => hk.2) (.slice Ao14 t196.length co14)) (fun _ hk => trivial), by repeat (first | (with_reducible first | exact HB.out | apply below_alloc | apply pw_below_drewN | apply below_drew1 | refine below_set ?_ GE190.out) | exact HB.out)⟩

end Go.Proofs.YtondnpfncgcdkaaDoor.Z
