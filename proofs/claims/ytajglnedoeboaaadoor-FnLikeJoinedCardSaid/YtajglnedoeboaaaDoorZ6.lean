-- Written by a program of this session (myprint.py).
import Derived.Test.YtajglnedoeboaaaDoorZ0
import Derived.Test.YtajglnedoeboaaaDoorZ1
import Derived.Test.YtajglnedoeboaaaDoorZ3
import Derived.Test.YtajglnedoeboaaaDoorZ5
import Derived.Test.YtajglnedoeboaaaDoorGe
namespace Go.Proofs.YtajglnedoeboaaaDoor.Z
open Go.Proofs.YtajglnedoeboaaaDoor.Gw
open Go.RowKit Go.Proofs.YtajglnedoeboaaaDoorW.PrintWords Go.Proofs.YtajglnedoeboaaaDoorW.PrintLast Go.Proofs.YtajglnedoeboaaaDoorW.PrintMore
attribute [local go_sem high] Go.Proofs.YtajglnedoeboaaaDoor.Ge.gtr_str
attribute [local go_sem] max2_int min2_int max_two min_two max_three min_three max_four min_four   -- for this text's walks alone
set_option linter.unusedVariables false
set_option linter.unusedSimpArgs false

attribute [local go_sem high] eqA28
/-! ### impl_LikeParse: function 10 -/
def impl_LikeParse.f (k : Nat) (a0 : ByteArray) : Option (Bool × (List (S28)) × ByteArray × ByteArray) := (semantic_ZZLikeParse.f a0).bind fun bt130 => ((impl_plainLike.f k bt130.1 bt130.2.1 bt130.2.2.1 bt130.2.2.2).bind fun bt136 => (some (bt136.1, bt136.2.1, bt136.2.2.1, bt136.2.2.2)))
theorem impl_LikeParse.mono : ∀ a0 k, LeO (impl_LikeParse.f k a0) (impl_LikeParse.f (k + 1) a0) := by
  intro a0 k
  unfold impl_LikeParse.f
  repeat' first
      | (with_reducible exact impl_plainLike.mono _ _ _ _ _)
      | (with_reducible exact LeO.refl _)
      | (with_reducible exact LeO.none _)
      | (with_reducible refine LeO.ite ?_ ?_)
      | (with_reducible refine LeO.bind ?_ (fun _ => ?_))
      | exact impl_plainLike.mono _ _ _ _ _
      | exact LeO.none _
      | refine LeO.ite ?_ ?_
      | refine LeO.bind ?_ (fun _ => ?_)
set_option maxHeartbeats 8000000 in
set_option maxRecDepth 100000 in
theorem impl_LikeParse.calls (k : Nat) (a0 : ByteArray) (r1 : Bool) (r2 : List (S28)) (r3 : ByteArray) (r4 : ByteArray) (w : World) (hG : GW w) (h : impl_LikeParse.f k a0 = some (r1, r2, r3, r4)) :
    Calls Tryd.prog 10 #[.string a0] w fun e w' => ∃ v1_ : Value, e = .returned (.agg #[.bool r1, v1_, .string r3, .string r4]) ∧ Kd.R k28 28 w' w.heap.size (fun _ => True) v1_ r2 ∧ Below w.heap.size w w' := by
  have HG := Aside0.mk hG
  clear hG
  have hu32 := Tryd.underlying32
  have HB := Aside0.mk (Below.refl w.heap.size w)
  have H : ((semantic_ZZLikeParse.f a0).bind fun bt130 => ((impl_plainLike.f k bt130.1 bt130.2.1 bt130.2.2.1 bt130.2.2.2).bind fun bt136 => (some (bt136.1, bt136.2.1, bt136.2.2.1, bt136.2.2.2)))) = some (r1, r2, r3, r4) := h
  clear h
  replace H := Option.bind_eq_some_iff.mp H
  obtain ⟨⟨t130, t131, t134, t135⟩, A20, H⟩ := H
  replace H : ((impl_plainLike.f k t130 t131 t134 t135).bind fun bt136 => (some (bt136.1, bt136.2.1, bt136.2.2.1, bt136.2.2.2))) = some (r1, r2, r3, r4) := H
  have A2 := Aside0.mk A20
  clear A20
  replace H := Option.bind_eq_some_iff.mp H
  obtain ⟨⟨t136, t137, t140, t141⟩, A30, H⟩ := H
  replace H : (some (t136, t137, t140, t141)) = some (r1, r2, r3, r4) := H
  have A3 := Aside0.mk A30
  clear A30
  simp only [Option.some.injEq, Prod.mk.injEq] at H
  obtain ⟨rfl, rfl, rfl, rfl⟩ := H
  go_enter Tryd.func10, Tryd.ntmps10
  go_wp2_with (first | ((with_reducible refine gate_dst (N := 2) rfl ?_); refine box_event ?hg (N := 2) ?hd (cs := #[.bool false, .slice none 0 0, .string (⟨#[]⟩ : ByteArray), .string (⟨#[]⟩ : ByteArray)]) (t := 32) ?hr ?_; (case hd => rfl); (case hg => rfl); (case hr => first | (go_simp; done) | (go_simp; rfl)); intro gb129 hg w4 hbox hb; have n0_ := Aside0.mk (below_step (by repeat (first | (with_reducible first | exact HB.out | apply below_alloc | apply pw_below_drewN | apply below_drew1) | exact HB.out)) hb); have n1_ := Aside0.mk (hbox); have n2_ := Aside0.mk ((by rw [hg]; exact (below_size (by repeat (first | (with_reducible first | exact HB.out | apply below_alloc | apply pw_below_drewN | apply below_drew1) | exact HB.out))) : w.heap.size ≤ gb129)); have n3_ := Aside0.mk ((by rw [hg]; exact (below_size (by repeat (first | (with_reducible first | exact HB.out | apply below_alloc | apply pw_below_drewN | apply below_drew1) | exact HB.out))) : w.heap.size ≤ gb129)); clear HB; have HB := n0_; have BK129 := n1_; have GW129 := n2_; have GE129 := n3_; clear n0_ n1_ n2_ n3_; clear hb hbox hg) | ((with_reducible refine gate_callee (f := 20) rfl ?_); refine goesL_ (some 4) rfl rfl Tryd.func20 (by kernel_rfl) rfl #[.string a0] rfl (by (try simp only [List.map_toArray, List.map_cons, List.map_nil]); first | done | rfl | (simp only [List.length_drop, List.length_take]; rfl)) ?_; (with_reducible refine (semantic_ZZLikeParse.calls a0 t130 t131 t134 t135 _ ?side1 A2.out).mono ?_); (case side1 => first | exact HG.out | exact GW.below HG.out (by repeat (first | (with_reducible first | exact HB.out | exact Below.refl _ _ | apply below_alloc | apply pw_below_drewN | apply below_drew1 | apply below_drew | refine below_set ?_ (Aside0.out (by assumption))) | exact HB.out))); rintro e w5 ⟨v132, rfl, ho0, hb⟩; refine ⟨_, rfl, ?_⟩; have n0_ := Aside0.mk (Kd.R_lower ho0 (below_size (by repeat (first | (with_reducible first | exact HB.out | apply below_alloc | apply pw_below_drewN | apply below_drew1 | refine below_set ?_ GE129.out) | exact HB.out)))); have n1_ := Aside0.mk (blk_below (g := gb129) (o := .cells #[.bool false, .slice none 0 0, .string (⟨#[]⟩ : ByteArray), .string (⟨#[]⟩ : ByteArray)] 32 (0, 0)) (by (with_reducible repeat (first | refine blk_drewN ?_ _ | refine blk_drew ?_ | refine blk_alloc ?_ _)); exact BK129.out) hb); have n2_ := Aside0.mk (below_step (by repeat (first | (with_reducible first | exact HB.out | apply below_alloc | apply pw_below_drewN | apply below_drew1 | refine below_set ?_ GE129.out) | exact HB.out)) hb); clear BK129; clear HB; have HO133 := n0_; have BK129 := n1_; have HB := n2_; clear n0_ n1_ n2_; (try clear hb); (try clear hb2); (try clear hk); (try clear hi); (try clear ho0); obtain ⟨Ao6, co6, eo6⟩ := Kd.R_slice HO133.out; subst eo6) | ((with_reducible refine gate_callee (f := 19) rfl ?_); refine goesL_ (some 5) rfl rfl Tryd.func19 (by kernel_rfl) rfl #[.agg #[.bool t130, .slice Ao6 t131.length co6, .string t134, .string t135]] rfl (by (try simp only [List.map_toArray, List.map_cons, List.map_nil]); first | done | rfl | (simp only [List.length_drop, List.length_take]; rfl)) ?_; (with_reducible refine (impl_plainLike.calls k t130 _ _ t131 t134 t135 t136 t137 t140 t141 _ ?side1 ?side2 A3.out).mono ?_); (case side1 => repeat (first | exact (Kd.R_reads' HO133.out).2.2 | (with_reducible refine Kd.C_alloc ?_ _) | (with_reducible refine Kd.C_drewN ?_ _) | (with_reducible refine Kd.C_drew ?_))); (case side2 => exact (Kd.R_reads' HO133.out).2.1); rintro e w7 ⟨v138, rfl, ho0, hb⟩; refine ⟨_, rfl, ?_⟩; have n0_ := Aside0.mk (Kd.R_below (by (with_reducible repeat (first | apply Kd.R_alloc | apply Kd.R_drewN | apply Kd.R_drew)); exact HO133.out) hb); have n1_ := Aside0.mk (Kd.R_lower ho0 (below_size (by repeat (first | (with_reducible first | exact HB.out | apply below_alloc | apply pw_below_drewN | apply below_drew1 | refine below_set ?_ GE129.out) | exact HB.out)))); have n2_ := Aside0.mk (blk_below (g := gb129) (o := .cells #[.bool false, .slice none 0 0, .string (⟨#[]⟩ : ByteArray), .string (⟨#[]⟩ : ByteArray)] 32 (0, 0)) (by (with_reducible repeat (first | refine blk_drewN ?_ _ | refine blk_drew ?_ | refine blk_alloc ?_ _)); exact BK129.out) hb); have n3_ := Aside0.mk (below_step (by repeat (first | (with_reducible first | exact HB.out | apply below_alloc | apply pw_below_drewN | apply below_drew1 | refine below_set ?_ GE129.out) | exact HB.out)) hb); clear HO133; clear BK129; clear HB; have HO133 := n0_; have HO139 := n1_; have BK129 := n2_; have HB := n3_; clear n0_ n1_ n2_ n3_; (try clear hb); (try clear hb2); (try clear hk); (try clear hi); (try clear ho0); have hcz8_0 : w7.cell? ⟨gb129, 0, none⟩ = some (.bool false) := (blk_cell BK129.out 0).trans rfl; have hcz8_1 : w7.cell? ⟨gb129, 1, none⟩ = some (.slice none 0 0) := (blk_cell BK129.out 1).trans rfl; have hcz8_2 : w7.cell? ⟨gb129, 2, none⟩ = some (.string (⟨#[]⟩ : ByteArray)) := (blk_cell BK129.out 2).trans rfl; have hcz8_3 : w7.cell? ⟨gb129, 3, none⟩ = some (.string (⟨#[]⟩ : ByteArray)) := (blk_cell BK129.out 3).trans rfl; have hfz8_0 := blk_frozen BK129.out 0; have hfz8_1 := blk_frozen BK129.out 1; have hfz8_2 := blk_frozen BK129.out 2; have hfz8_3 := blk_frozen BK129.out 3; obtain ⟨Ao9, co9, eo9⟩ := Kd.R_slice HO139.out; subst eo9))
  refine bodyPost_ret (results_cell_row rfl _ _ gb129 32 #[.bool t136, .slice Ao9 t137.length co9, .string t140, .string t141] (0, 0) _ rfl (by (with_reducible repeat (first | refine blk_drewN ?_ _ | refine blk_drew ?_ | refine blk_alloc ?_ _)); refine blk_put (cs := #[.bool t136, .slice Ao9 t137.length co9, .string t140, .string (⟨#[]⟩ : ByteArray)]) ?_ 3 _ rfl; (with_reducible repeat (first | refine blk_drewN ?_ _ | refine blk_drew ?_ | refine blk_alloc ?_ _)); refine blk_put (cs := #[.bool t136, .slice Ao9 t137.length co9, .string (⟨#[]⟩ : ByteArray), .string (⟨#[]⟩ : ByteArray)]) ?_ 2 _ rfl; (with_reducible repeat (first | refine blk_drewN ?_ _ | refine blk_drew ?_ | refine blk_alloc ?_ _)); refine blk_put (cs := #[.bool t136, .slice none 0 0, .string (⟨#[]⟩ : ByteArray), .string (⟨#[]⟩ : ByteArray)]) ?_ 1 _ rfl; (with_reducible repeat (first | refine blk_drewN ?_ _ | refine blk_drew ?_ | refine blk_alloc ?_ _)); refine blk_put (cs := #[.bool false, .slice none 0 0, .string (⟨#[]⟩ : ByteArray), .string (⟨#[]⟩ : ByteArray)]) ?_ 0 _ rfl; (with_reducible repeat (first | refine blk_drewN ?_ _ | refine blk_drew ?_ | refine blk_alloc ?_ _)); exact BK129.out) Tryd.underlying32 rfl (by kernel_rfl)) rfl ?_
  exact ⟨_, by first | rfl | (simp [errW_none, errW_some] <;> rfl) | (simp [*, errW_none, errW_some] <;> rfl), by (with_reducible repeat (first | apply Kd.R_alloc | apply Kd.R_drewN | apply Kd.R_drew)); exact Kd.R_mono (Kd.R_far (p := ⟨gb129, 3, none⟩) (Kd.R_far (p := ⟨gb129, 2, none⟩) (Kd.R_far (p := ⟨gb129, 1, none⟩) (Kd.R_far (p := ⟨gb129, 0, none⟩) (Kd.R_types HO139.out BK129.out (by decide)) (fun _ hk => hk.2) (.bool t136)) (fun _ hk => hk.2) (.slice Ao9 t137.length co9)) (fun _ hk => hk.2) (.string t140)) (fun _ hk => hk.2) (.string t141)) (fun _ hk => trivial), by repeat (first | (with_reducible first | exact HB.out | apply below_alloc | apply pw_below_drewN | apply below_drew1 | refine below_set ?_ GE129.out) | exact HB.out)⟩

/-! ### laws_ints: function 11 -/
def laws_ints.l0 : Nat → List (S28) → List (S28) → Int → Int → Option (Bool)
  | 0, _, _, _, _ => none
  | k + 1, x0, x1, x12, x13 => if x13 < x12 then (if 0 ≤ x13 then (if x13 < (x0.length : Int) then (if x13 < (x1.length : Int) then (if (!(((rd_T28 x0 x13).f0) == ((rd_T28 x1 x13).f0)) || (!((((rd_T28 x0 x13).f1).toList) == (((rd_T28 x1 x13).f1).toList)))) = true then (some false) else (laws_ints.l0 k x0 x1 x12 (wrap64 (x13 + 1)))) else (none)) else (none)) else (none)) else (some true)
def laws_ints.f (k : Nat) (l0 : List (S28)) (l1 : List (S28)) : Option (Bool) := if (l0.length : Int) = (l1.length : Int) then (laws_ints.l0 k l0 l1 (l0.length : Int) 0) else (some false)
theorem laws_ints.mono_l : ∀ k, (∀ y0 y1 y2 y3, LeO (laws_ints.l0 k y0 y1 y2 y3) (laws_ints.l0 (k + 1) y0 y1 y2 y3))
  | 0 => fun _ _ _ _ r h => by simp [laws_ints.l0] at h
  | k + 1 => by
    have ih0 := laws_ints.mono_l k
    · intro y0 y1 y2 y3
      unfold laws_ints.l0
      repeat' first
      | (with_reducible exact ih0 _ _ _ _)
      | (with_reducible exact LeO.refl _)
      | (with_reducible exact LeO.none _)
      | (with_reducible refine LeO.ite ?_ ?_)
      | (with_reducible refine LeO.bind ?_ (fun _ => ?_))
      | exact ih0 _ _ _ _
      | exact LeO.none _
      | refine LeO.ite ?_ ?_
      | refine LeO.bind ?_ (fun _ => ?_)
theorem laws_ints.mono : ∀ a0 a1 k, LeO (laws_ints.f k a0 a1) (laws_ints.f (k + 1) a0 a1) := by
  intro a0 a1 k
  have ih0 := laws_ints.mono_l k
  unfold laws_ints.f
  repeat' first
      | (with_reducible exact ih0 _ _ _ _)
      | (with_reducible exact LeO.refl _)
      | (with_reducible exact LeO.none _)
      | (with_reducible refine LeO.ite ?_ ?_)
      | (with_reducible refine LeO.bind ?_ (fun _ => ?_))
      | exact ih0 _ _ _ _
      | exact LeO.none _
      | refine LeO.ite ?_ ?_
      | refine LeO.bind ?_ (fun _ => ?_)
set_option maxHeartbeats 8000000 in
set_option maxRecDepth 100000 in
theorem laws_ints.calls (k : Nat) (A0 : Option Addr) (c0 : Nat) (l0 : List (S28)) (A1 : Option Addr) (c1 : Nat) (l1 : List (S28)) (r : Bool) (w : World) (hr0 : Kd.C k28 w A0 l0.length l0) (hc0 : l0.length ≤ c0) (hr1 : Kd.C k28 w A1 l1.length l1) (hc1 : l1.length ≤ c1) (h : laws_ints.f k l0 l1 = some r) :
    Calls Tryd.prog 11 #[.slice A0 l0.length c0, .slice A1 l1.length c1] w fun e w' => e = .returned (.bool r) ∧ Drawn0 w w' := by
  have hu28 := Tryd.underlying28
  have HR0 := Aside0.mk hr0
  have HC0 := Aside0.mk hc0
  clear hr0 hc0
  have HR1 := Aside0.mk hr1
  have HC1 := Aside0.mk hc1
  clear hr1 hc1
  have H : (if (l0.length : Int) = (l1.length : Int) then (laws_ints.l0 k l0 l1 (l0.length : Int) 0) else (some false)) = some r := h
  clear h
  by_cases c3 : (l0.length : Int) = (l1.length : Int)
  · rw [if_pos c3] at H
    have c3b0 : ((l0.length : Int) == (l1.length : Int)) = true := beq_iff_eq.mpr c3
    have c3b1 : ((l0.length : Int) != (l1.length : Int)) = false := bne_eq_false_iff_eq.mpr c3
    have c3b2 : (l0.length == l1.length) = true := by first | simpa using c3 | (simp at c3 ⊢; omega)
    clear c3
    have H' := Aside0.mk H
    clear H
    go_enter Tryd.func11, Tryd.ntmps11
    go_wp2
    repeat (go_quiet (fail); try go_wp2)
    go_loopg [13] k (fun kq v13 w' => ∃ (x13_1 : Int), v13 = .int .i64 x13_1 ∧ Aside0 (laws_ints.l0 kq l0 l1 (l0.length : Int) x13_1 = some r) ∧ Aside0 (kq ≤ k) ∧ Drawn0 w w')
    case atStart => exact ⟨(0), (by first | rfl | (simp; done) | (simp [*]; done)), H', ⟨Nat.le_refl _⟩, by repeat (first | exact Drawn0.refl _ | apply Drawn0.step)⟩
    case round =>
      clear H'
      try clear c1
      try clear p2
      try clear c3
      try clear c3b0
      try clear c3b1
      try clear c3b2
      obtain ⟨x13_1, rfl, HA, HK1, ⟨m1, rfl⟩⟩ := hrel
      cases gk with
      | zero => exact absurd HA.out (by simp [laws_ints.l0])
      | succ k1 =>
        have H := HA.out
        clear HA
        simp only [laws_ints.l0] at H
        by_cases c4 : x13_1 < (l0.length : Int)
        · rw [if_pos c4] at H
          have c4b0 : decide (x13_1 < (l0.length : Int)) = true := decide_eq_true c4
          clear c4
          by_cases c5 : 0 ≤ x13_1
          · rw [if_pos c5] at H
            have c5b0 : decide (0 ≤ x13_1) = true := decide_eq_true c5
            clear c5
            by_cases c6 : x13_1 < (l0.length : Int)
            · rw [if_pos c6] at H
              have c6b0 : decide (x13_1 < (l0.length : Int)) = true := decide_eq_true c6
              clear c6
              by_cases c7 : x13_1 < (l1.length : Int)
              · rw [if_pos c7] at H
                have c7b0 : decide (x13_1 < (l1.length : Int)) = true := decide_eq_true c7
                clear c7
                by_cases c8 : (!(((rd_T28 l0 x13_1).f0) == ((rd_T28 l1 x13_1).f0)) || (!((((rd_T28 l0 x13_1).f1).toList) == (((rd_T28 l1 x13_1).f1).toList)))) = true
                · rw [if_pos c8] at H
                  have c8b0 : (!(((rd_T28 l0 x13_1).f0) == ((rd_T28 l1 x13_1).f0)) || (!((((rd_T28 l0 x13_1).f1).toList) == (((rd_T28 l1 x13_1).f1).toList)))) = true := c8
                  clear c8
                  obtain rfl := Option.some.inj H
                  have p142 : 0 ≤ (x13_1 : Int) := of_decide_eq_true (by first | (with_reducible assumption) | assumption)
                  have q142 : x13_1 < (l0.length : Int) := of_decide_eq_true (by first | (with_reducible assumption) | assumption)
                  obtain ⟨ad142, e142, hx142_0, hx142_1⟩ := at_T28 HR0.out x13_1 p142 q142
                  cases e142
                  replace p142 := eq_true p142
                  replace q142 := eq_true q142
                  have p143 : 0 ≤ (x13_1 : Int) := of_decide_eq_true (by first | (with_reducible assumption) | assumption)
                  have q143 : x13_1 < (l1.length : Int) := of_decide_eq_true (by first | (with_reducible assumption) | assumption)
                  obtain ⟨ad143, e143, hx143_0, hx143_1⟩ := at_T28 HR1.out x13_1 p143 q143
                  cases e143
                  replace p143 := eq_true p143
                  replace q143 := eq_true q143
                  go_wp2
                  repeat (go_quiet (fail); try go_wp2)
                  go_ret
                  exact ⟨by first | rfl | (simp; done) | (simp [*]; done), by repeat (first | exact Drawn0.refl _ | apply Drawn0.step)⟩
                · rw [if_neg c8] at H
                  have c8b0 : (!(((rd_T28 l0 x13_1).f0) == ((rd_T28 l1 x13_1).f0)) || (!((((rd_T28 l0 x13_1).f1).toList) == (((rd_T28 l1 x13_1).f1).toList)))) = false := by simpa using c8
                  clear c8
                  have H' := Aside0.mk H
                  clear H
                  have p142 : 0 ≤ (x13_1 : Int) := of_decide_eq_true (by first | (with_reducible assumption) | assumption)
                  have q142 : x13_1 < (l0.length : Int) := of_decide_eq_true (by first | (with_reducible assumption) | assumption)
                  obtain ⟨ad142, e142, hx142_0, hx142_1⟩ := at_T28 HR0.out x13_1 p142 q142
                  cases e142
                  replace p142 := eq_true p142
                  replace q142 := eq_true q142
                  have p143 : 0 ≤ (x13_1 : Int) := of_decide_eq_true (by first | (with_reducible assumption) | assumption)
                  have q143 : x13_1 < (l1.length : Int) := of_decide_eq_true (by first | (with_reducible assumption) | assumption)
                  obtain ⟨ad143, e143, hx143_0, hx143_1⟩ := at_T28 HR1.out x13_1 p143 q143
                  cases e143
                  replace p143 := eq_true p143
                  replace q143 := eq_true q143
                  go_wp2
                  repeat (go_quiet (fail); try go_wp2)
                  go_roundg k1
                  case measure => have := HK1.out; omega
                  case rel => exact ⟨(wrap64 (x13_1 + 1)), (by first | rfl | (simp; done) | (simp [*]; done)), H', ⟨by have := HK1.out; omega⟩, by repeat (first | exact Drawn0.refl _ | apply Drawn0.step)⟩
              · rw [if_neg c7] at H
                exact absurd H (by simp)
            · rw [if_neg c6] at H
              exact absurd H (by simp)
          · rw [if_neg c5] at H
            exact absurd H (by simp)
        · rw [if_neg c4] at H
          have c4b0 : decide (x13_1 < (l0.length : Int)) = false := decide_eq_false c4
          clear c4
          obtain rfl := Option.some.inj H
          go_wp2
          repeat (go_quiet (fail); try go_wp2)
          go_ret
          exact ⟨by first | rfl | (simp; done) | (simp [*]; done), by repeat (first | exact Drawn0.refl _ | apply Drawn0.step)⟩
  · rw [if_neg c3] at H
    have c3b0 : ((l0.length : Int) == (l1.length : Int)) = false := beq_eq_false_iff_ne.mpr c3
    have c3b1 : ((l0.length : Int) != (l1.length : Int)) = true := bne_iff_ne.mpr c3
    have c3b2 : (l0.length == l1.length) = false := by first | simpa using c3 | (simp at c3 ⊢; omega)
    obtain rfl := Option.some.inj H
    go_enter Tryd.func11, Tryd.ntmps11
    go_wp2
    repeat (go_quiet (fail); try go_wp2)
    go_ret
    exact ⟨by first | rfl | (simp; done) | (simp [*]; done), by repeat (first | exact Drawn0.refl _ | apply Drawn0.step)⟩

end Go.Proofs.YtajglnedoeboaaaDoor.Z
