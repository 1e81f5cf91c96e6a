-- Written by a program of this session (myprint.py).
import Derived.Test.YtipfmkfpaglkkaaZ0
import Derived.Test.YtipfmkfpaglkkaaZ2
import Derived.Test.YtipfmkfpaglkkaaGe
namespace Go.Proofs.Ytipfmkfpaglkkaa.Z
open Go.RowKit Go.Proofs.YtipfmkfpaglkkaaW.PrintWords Go.Proofs.YtipfmkfpaglkkaaW.PrintLast Go.Proofs.YtipfmkfpaglkkaaW.PrintMore
attribute [local go_sem high] Go.Proofs.Ytipfmkfpaglkkaa.Ge.gtr_str
attribute [local go_sem] max2_int min2_int max_two min_two max_three min_three max_four min_four   -- for this text's walks alone
set_option linter.unusedVariables false
set_option linter.unusedSimpArgs false

/-! ### spec_pypiPlace: function 18 -/
def spec_pypiPlace.f (a0_0 : Bool) (a0_1 : ByteArray) (l0_2 : List (S23)) (a0_3 : Bool) (a0_4 : ByteArray) (a0_5 : Bool) (a0_6 : ByteArray) (a0_7 : Bool) (a0_8 : ByteArray) (a0_9 : Bool) (a0_10 : ByteArray) (a0_11 : Bool) (a0_12 : ByteArray) (a0_13 : Bool) (a0_14 : ByteArray) (l0_15 : List ByteArray) (l0_16 : List ByteArray) : Option (Int) := if a0_3 = true then (some 0) else (if a0_7 = true then (some 1) else (if a0_11 = true then (some (-1)) else (some 1)))
set_option maxHeartbeats 8000000 in
set_option maxRecDepth 100000 in
theorem spec_pypiPlace.calls (a0_0 : Bool) (a0_1 : ByteArray) (A0_2 : Option Addr) (c0_2 : Nat) (l0_2 : List (S23)) (a0_3 : Bool) (a0_4 : ByteArray) (a0_5 : Bool) (a0_6 : ByteArray) (a0_7 : Bool) (a0_8 : ByteArray) (a0_9 : Bool) (a0_10 : ByteArray) (a0_11 : Bool) (a0_12 : ByteArray) (a0_13 : Bool) (a0_14 : ByteArray) (A0_15 : Option Addr) (c0_15 : Nat) (l0_15 : List ByteArray) (A0_16 : Option Addr) (c0_16 : Nat) (l0_16 : List ByteArray) (r : Int) (w : World) (hr0_2 : Kd.C k23 w A0_2 l0_2.length l0_2) (hc0_2 : l0_2.length ≤ c0_2) (hr0_15 : Kd.C Kd.string w A0_15 l0_15.length l0_15) (hc0_15 : l0_15.length ≤ c0_15) (hr0_16 : Kd.C Kd.string w A0_16 l0_16.length l0_16) (hc0_16 : l0_16.length ≤ c0_16) (h : spec_pypiPlace.f a0_0 a0_1 l0_2 a0_3 a0_4 a0_5 a0_6 a0_7 a0_8 a0_9 a0_10 a0_11 a0_12 a0_13 a0_14 l0_15 l0_16 = some r) :
    Calls Try.prog 18 #[.agg #[.bool a0_0, .string a0_1, .slice A0_2 l0_2.length c0_2, .bool a0_3, .string a0_4, .bool a0_5, .string a0_6, .bool a0_7, .string a0_8, .bool a0_9, .string a0_10, .bool a0_11, .string a0_12, .bool a0_13, .string a0_14, .slice A0_15 l0_15.length c0_15, .slice A0_16 l0_16.length c0_16]] w fun e w' => e = .returned (.int .i64 r) ∧ Below w.heap.size w w' := by
  have hu29 := Try.underlying29
  have HR0_2 := Aside0.mk hr0_2
  have HC0_2 := Aside0.mk hc0_2
  clear hr0_2 hc0_2
  have HR0_15 := Aside0.mk hr0_15
  have HC0_15 := Aside0.mk hc0_15
  clear hr0_15 hc0_15
  have HR0_16 := Aside0.mk hr0_16
  have HC0_16 := Aside0.mk hc0_16
  clear hr0_16 hc0_16
  have HB := Aside0.mk (Below.refl w.heap.size w)
  have H : (if a0_3 = true then (some 0) else (if a0_7 = true then (some 1) else (if a0_11 = true then (some (-1)) else (some 1)))) = some r := h
  clear h
  by_cases c2 : a0_3 = true
  · subst c2
    have H1 : (some 0) = some r := by rw [if_pos rfl] at H; exact H
    clear H
    have H := H1
    clear H1
    obtain rfl := Option.some.inj H
    go_enter Try.func18, Try.ntmps18
    go_wp2_with (first | ((with_reducible refine gate_dst (N := 1) rfl ?_); refine box_event ?hg (N := 1) ?hd (cs := #[.bool a0_0, .string a0_1, .slice A0_2 l0_2.length c0_2, .bool true, .string a0_4, .bool a0_5, .string a0_6, .bool a0_7, .string a0_8, .bool a0_9, .string a0_10, .bool a0_11, .string a0_12, .bool a0_13, .string a0_14, .slice A0_15 l0_15.length c0_15, .slice A0_16 l0_16.length c0_16]) (t := 29) ?hr ?_; (case hd => rfl); (case hg => rfl); (case hr => first | (go_simp; done) | (go_simp; rfl)); intro gb169 hg w3 hbox hb; have n0_ := Aside0.mk (below_step (by repeat (first | (with_reducible first | exact HB.out | apply below_alloc | apply pw_below_drewN | apply below_drew1) | exact HB.out)) hb); have n1_ := Aside0.mk (hbox); have n2_ := Aside0.mk ((by rw [hg]; exact (below_size (by repeat (first | (with_reducible first | exact HB.out | apply below_alloc | apply pw_below_drewN | apply below_drew1) | exact HB.out))) : w.heap.size ≤ gb169)); have n3_ := Aside0.mk ((by rw [hg]; exact (below_size (by repeat (first | (with_reducible first | exact HB.out | apply below_alloc | apply pw_below_drewN | apply below_drew1) | exact HB.out))) : w.heap.size ≤ gb169)); clear HB; have HB := n0_; have BK169 := n1_; have GW169 := n2_; have GE169 := n3_; clear n0_ n1_ n2_ n3_; clear hb hbox hg; have hcz4_0 : w3.cell? ⟨gb169, 0, none⟩ = some (.bool a0_0) := (blk_cell BK169.out 0).trans rfl; have hcz4_1 : w3.cell? ⟨gb169, 1, none⟩ = some (.string a0_1) := (blk_cell BK169.out 1).trans rfl; have hcz4_2 : w3.cell? ⟨gb169, 2, none⟩ = some (.slice A0_2 l0_2.length c0_2) := (blk_cell BK169.out 2).trans rfl; have hcz4_3 : w3.cell? ⟨gb169, 3, none⟩ = some (.bool true) := (blk_cell BK169.out 3).trans rfl; have hcz4_4 : w3.cell? ⟨gb169, 4, none⟩ = some (.string a0_4) := (blk_cell BK169.out 4).trans rfl; have hcz4_5 : w3.cell? ⟨gb169, 5, none⟩ = some (.bool a0_5) := (blk_cell BK169.out 5).trans rfl; have hcz4_6 : w3.cell? ⟨gb169, 6, none⟩ = some (.string a0_6) := (blk_cell BK169.out 6).trans rfl; have hcz4_7 : w3.cell? ⟨gb169, 7, none⟩ = some (.bool a0_7) := (blk_cell BK169.out 7).trans rfl; have hcz4_8 : w3.cell? ⟨gb169, 8, none⟩ = some (.string a0_8) := (blk_cell BK169.out 8).trans rfl; have hcz4_9 : w3.cell? ⟨gb169, 9, none⟩ = some (.bool a0_9) := (blk_cell BK169.out 9).trans rfl; have hcz4_10 : w3.cell? ⟨gb169, 10, none⟩ = some (.string a0_10) := (blk_cell BK169.out 10).trans rfl; have hcz4_11 : w3.cell? ⟨gb169, 11, none⟩ = some (.bool a0_11) := (blk_cell BK169.out 11).trans rfl; have hcz4_12 : w3.cell? ⟨gb169, 12, none⟩ = some (.string a0_12) := (blk_cell BK169.out 12).trans rfl; have hcz4_13 : w3.cell? ⟨gb169, 13, none⟩ = some (.bool a0_13) := (blk_cell BK169.out 13).trans rfl; have hcz4_14 : w3.cell? ⟨gb169, 14, none⟩ = some (.string a0_14) := (blk_cell BK169.out 14).trans rfl; have hcz4_15 : w3.cell? ⟨gb169, 15, none⟩ = some (.slice A0_15 l0_15.length c0_15) := (blk_cell BK169.out 15).trans rfl; have hcz4_16 : w3.cell? ⟨gb169, 16, none⟩ = some (.slice A0_16 l0_16.length c0_16) := (blk_cell BK169.out 16).trans rfl; have hfz4_0 := blk_frozen BK169.out 0; have hfz4_1 := blk_frozen BK169.out 1; have hfz4_2 := blk_frozen BK169.out 2; have hfz4_3 := blk_frozen BK169.out 3; have hfz4_4 := blk_frozen BK169.out 4; have hfz4_5 := blk_frozen BK169.out 5; have hfz4_6 := blk_frozen BK169.out 6; have hfz4_7 := blk_frozen BK169.out 7; have hfz4_8 := blk_frozen BK169.out 8; have hfz4_9 := blk_frozen BK169.out 9; have hfz4_10 := blk_frozen BK169.out 10; have hfz4_11 := blk_frozen BK169.out 11; have hfz4_12 := blk_frozen BK169.out 12; have hfz4_13 := blk_frozen BK169.out 13; have hfz4_14 := blk_frozen BK169.out 14; have hfz4_15 := blk_frozen BK169.out 15; have hfz4_16 := blk_frozen BK169.out 16))
    go_ret
    exact ⟨by first | rfl | (simp [errW_none, errW_some] <;> rfl) | (simp [*, errW_none, errW_some] <;> rfl), by repeat (first | (with_reducible first | exact HB.out | apply below_alloc | apply pw_below_drewN | apply below_drew1 | refine below_set ?_ GE169.out) | exact HB.out)⟩
  · replace c2 := Bool.eq_false_iff.mpr c2
    subst c2
    have H1 : (if a0_7 = true then (some 1) else (if a0_11 = true then (some (-1)) else (some 1))) = some r := by rw [if_neg (show ¬ (false = true) by decide)] at H; exact H
    clear H
    have H := H1
    clear H1
    by_cases c5 : a0_7 = true
    · subst c5
      have H1 : (some 1) = some r := by rw [if_pos rfl] at H; exact H
      clear H
      have H := H1
      clear H1
      obtain rfl := Option.some.inj H
      go_enter Try.func18, Try.ntmps18
      go_wp2_with (first | ((with_reducible refine gate_dst (N := 1) rfl ?_); refine box_event ?hg (N := 1) ?hd (cs := #[.bool a0_0, .string a0_1, .slice A0_2 l0_2.length c0_2, .bool false, .string a0_4, .bool a0_5, .string a0_6, .bool true, .string a0_8, .bool a0_9, .string a0_10, .bool a0_11, .string a0_12, .bool a0_13, .string a0_14, .slice A0_15 l0_15.length c0_15, .slice A0_16 l0_16.length c0_16]) (t := 29) ?hr ?_; (case hd => rfl); (case hg => rfl); (case hr => first | (go_simp; done) | (go_simp; rfl)); intro gb169 hg w6 hbox hb; have n0_ := Aside0.mk (below_step (by repeat (first | (with_reducible first | exact HB.out | apply below_alloc | apply pw_below_drewN | apply below_drew1) | exact HB.out)) hb); have n1_ := Aside0.mk (hbox); have n2_ := Aside0.mk ((by rw [hg]; exact (below_size (by repeat (first | (with_reducible first | exact HB.out | apply below_alloc | apply pw_below_drewN | apply below_drew1) | exact HB.out))) : w.heap.size ≤ gb169)); have n3_ := Aside0.mk ((by rw [hg]; exact (below_size (by repeat (first | (with_reducible first | exact HB.out | apply below_alloc | apply pw_below_drewN | apply below_drew1) | exact HB.out))) : w.heap.size ≤ gb169)); clear HB; have HB := n0_; have BK169 := n1_; have GW169 := n2_; have GE169 := n3_; clear n0_ n1_ n2_ n3_; clear hb hbox hg; have hcz7_0 : w6.cell? ⟨gb169, 0, none⟩ = some (.bool a0_0) := (blk_cell BK169.out 0).trans rfl; have hcz7_1 : w6.cell? ⟨gb169, 1, none⟩ = some (.string a0_1) := (blk_cell BK169.out 1).trans rfl; have hcz7_2 : w6.cell? ⟨gb169, 2, none⟩ = some (.slice A0_2 l0_2.length c0_2) := (blk_cell BK169.out 2).trans rfl; have hcz7_3 : w6.cell? ⟨gb169, 3, none⟩ = some (.bool false) := (blk_cell BK169.out 3).trans rfl; have hcz7_4 : w6.cell? ⟨gb169, 4, none⟩ = some (.string a0_4) := (blk_cell BK169.out 4).trans rfl; have hcz7_5 : w6.cell? ⟨gb169, 5, none⟩ = some (.bool a0_5) := (blk_cell BK169.out 5).trans rfl; have hcz7_6 : w6.cell? ⟨gb169, 6, none⟩ = some (.string a0_6) := (blk_cell BK169.out 6).trans rfl; have hcz7_7 : w6.cell? ⟨gb169, 7, none⟩ = some (.bool true) := (blk_cell BK169.out 7).trans rfl; have hcz7_8 : w6.cell? ⟨gb169, 8, none⟩ = some (.string a0_8) := (blk_cell BK169.out 8).trans rfl; have hcz7_9 : w6.cell? ⟨gb169, 9, none⟩ = some (.bool a0_9) := (blk_cell BK169.out 9).trans rfl; have hcz7_10 : w6.cell? ⟨gb169, 10, none⟩ = some (.string a0_10) := (blk_cell BK169.out 10).trans rfl; have hcz7_11 : w6.cell? ⟨gb169, 11, none⟩ = some (.bool a0_11) := (blk_cell BK169.out 11).trans rfl; have hcz7_12 : w6.cell? ⟨gb169, 12, none⟩ = some (.string a0_12) := (blk_cell BK169.out 12).trans rfl; have hcz7_13 : w6.cell? ⟨gb169, 13, none⟩ = some (.bool a0_13) := (blk_cell BK169.out 13).trans rfl; have hcz7_14 : w6.cell? ⟨gb169, 14, none⟩ = some (.string a0_14) := (blk_cell BK169.out 14).trans rfl; have hcz7_15 : w6.cell? ⟨gb169, 15, none⟩ = some (.slice A0_15 l0_15.length c0_15) := (blk_cell BK169.out 15).trans rfl; have hcz7_16 : w6.cell? ⟨gb169, 16, none⟩ = some (.slice A0_16 l0_16.length c0_16) := (blk_cell BK169.out 16).trans rfl; have hfz7_0 := blk_frozen BK169.out 0; have hfz7_1 := blk_frozen BK169.out 1; have hfz7_2 := blk_frozen BK169.out 2; have hfz7_3 := blk_frozen BK169.out 3; have hfz7_4 := blk_frozen BK169.out 4; have hfz7_5 := blk_frozen BK169.out 5; have hfz7_6 := blk_frozen BK169.out 6; have hfz7_7 := blk_frozen BK169.out 7; have hfz7_8 := blk_frozen BK169.out 8; have hfz7_9 := blk_frozen BK169.out 9; have hfz7_10 := blk_frozen BK169.out 10; have hfz7_11 := blk_frozen BK169.out 11; have hfz7_12 := blk_frozen BK169.out 12; have hfz7_13 := blk_frozen BK169.out 13; have hfz7_14 := blk_frozen BK169.out 14; have hfz7_15 := blk_frozen BK169.out 15; have hfz7_16 := blk_frozen BK169.out 16))
      go_ret
      exact ⟨by first | rfl | (simp [errW_none, errW_some] <;> rfl) | (simp [*, errW_none, errW_some] <;> rfl), by repeat (first | (with_reducible first | exact HB.out | apply below_alloc | apply pw_below_drewN | apply below_drew1 | refine below_set ?_ GE169.out) | exact HB.out)⟩
    · replace c5 := Bool.eq_false_iff.mpr c5
      subst c5
      have H1 : (if a0_11 = true then (some (-1)) else (some 1)) = some r := by rw [if_neg (show ¬ (false = true) by decide)] at H; exact H
      clear H
      have H := H1
      clear H1
      by_cases c8 : a0_11 = true
      · subst c8
        have H1 : (some (-1)) = some r := by rw [if_pos rfl] at H; exact H
        clear H
        have H := H1
        clear H1
        obtain rfl := Option.some.inj H
        go_enter Try.func18, Try.ntmps18
        go_wp2_with (first | ((with_reducible refine gate_dst (N := 1) rfl ?_); refine box_event ?hg (N := 1) ?hd (cs := #[.bool a0_0, .string a0_1, .slice A0_2 l0_2.length c0_2, .bool false, .string a0_4, .bool a0_5, .string a0_6, .bool false, .string a0_8, .bool a0_9, .string a0_10, .bool true, .string a0_12, .bool a0_13, .string a0_14, .slice A0_15 l0_15.length c0_15, .slice A0_16 l0_16.length c0_16]) (t := 29) ?hr ?_; (case hd => rfl); (case hg => rfl); (case hr => first | (go_simp; done) | (go_simp; rfl)); intro gb169 hg w9 hbox hb; have n0_ := Aside0.mk (below_step (by repeat (first | (with_reducible first | exact HB.out | apply below_alloc | apply pw_below_drewN | apply below_drew1) | exact HB.out)) hb); have n1_ := Aside0.mk (hbox); have n2_ := Aside0.mk ((by rw [hg]; exact (below_size (by repeat (first | (with_reducible first | exact HB.out | apply below_alloc | apply pw_below_drewN | apply below_drew1) | exact HB.out))) : w.heap.size ≤ gb169)); have n3_ := Aside0.mk ((by rw [hg]; exact (below_size (by repeat (first | (with_reducible first | exact HB.out | apply below_alloc | apply pw_below_drewN | apply below_drew1) | exact HB.out))) : w.heap.size ≤ gb169)); clear HB; have HB := n0_; have BK169 := n1_; have GW169 := n2_; have GE169 := n3_; clear n0_ n1_ n2_ n3_; clear hb hbox hg; have hcz10_0 : w9.cell? ⟨gb169, 0, none⟩ = some (.bool a0_0) := (blk_cell BK169.out 0).trans rfl; have hcz10_1 : w9.cell? ⟨gb169, 1, none⟩ = some (.string a0_1) := (blk_cell BK169.out 1).trans rfl; have hcz10_2 : w9.cell? ⟨gb169, 2, none⟩ = some (.slice A0_2 l0_2.length c0_2) := (blk_cell BK169.out 2).trans rfl; have hcz10_3 : w9.cell? ⟨gb169, 3, none⟩ = some (.bool false) := (blk_cell BK169.out 3).trans rfl; have hcz10_4 : w9.cell? ⟨gb169, 4, none⟩ = some (.string a0_4) := (blk_cell BK169.out 4).trans rfl; have hcz10_5 : w9.cell? ⟨gb169, 5, none⟩ = some (.bool a0_5) := (blk_cell BK169.out 5).trans rfl; have hcz10_6 : w9.cell? ⟨gb169, 6, none⟩ = some (.string a0_6) := (blk_cell BK169.out 6).trans rfl; have hcz10_7 : w9.cell? ⟨gb169, 7, none⟩ = some (.bool false) := (blk_cell BK169.out 7).trans rfl; have hcz10_8 : w9.cell? ⟨gb169, 8, none⟩ = some (.string a0_8) := (blk_cell BK169.out 8).trans rfl; have hcz10_9 : w9.cell? ⟨gb169, 9, none⟩ = some (.bool a0_9) := (blk_cell BK169.out 9).trans rfl; have hcz10_10 : w9.cell? ⟨gb169, 10, none⟩ = some (.string a0_10) := (blk_cell BK169.out 10).trans rfl; have hcz10_11 : w9.cell? ⟨gb169, 11, none⟩ = some (.bool true) := (blk_cell BK169.out 11).trans rfl; have hcz10_12 : w9.cell? ⟨gb169, 12, none⟩ = some (.string a0_12) := (blk_cell BK169.out 12).trans rfl; have hcz10_13 : w9.cell? ⟨gb169, 13, none⟩ = some (.bool a0_13) := (blk_cell BK169.out 13).trans rfl; have hcz10_14 : w9.cell? ⟨gb169, 14, none⟩ = some (.string a0_14) := (blk_cell BK169.out 14).trans rfl; have hcz10_15 : w9.cell? ⟨gb169, 15, none⟩ = some (.slice A0_15 l0_15.length c0_15) := (blk_cell BK169.out 15).trans rfl; have hcz10_16 : w9.cell? ⟨gb169, 16, none⟩ = some (.slice A0_16 l0_16.length c0_16) := (blk_cell BK169.out 16).trans rfl; have hfz10_0 := blk_frozen BK169.out 0; have hfz10_1 := blk_frozen BK169.out 1; have hfz10_2 := blk_frozen BK169.out 2; have hfz10_3 := blk_frozen BK169.out 3; have hfz10_4 := blk_frozen BK169.out 4; have hfz10_5 := blk_frozen BK169.out 5; have hfz10_6 := blk_frozen BK169.out 6; have hfz10_7 := blk_frozen BK169.out 7; have hfz10_8 := blk_frozen BK169.out 8; have hfz10_9 := blk_frozen BK169.out 9; have hfz10_10 := blk_frozen BK169.out 10; have hfz10_11 := blk_frozen BK169.out 11; have hfz10_12 := blk_frozen BK169.out 12; have hfz10_13 := blk_frozen BK169.out 13; have hfz10_14 := blk_frozen BK169.out 14; have hfz10_15 := blk_frozen BK169.out 15; have hfz10_16 := blk_frozen BK169.out 16))
        go_ret
        exact ⟨by first | rfl | (simp [errW_none, errW_some] <;> rfl) | (simp [*, errW_none, errW_some] <;> rfl), by repeat (first | (with_reducible first | exact HB.out | apply below_alloc | apply pw_below_drewN | apply below_drew1 | refine below_set ?_ GE169.out) | exact HB.out)⟩
      · replace c8 := Bool.eq_false_iff.mpr c8
        subst c8
        have H1 : (some 1) = some r := by rw [if_neg (show ¬ (false = true) by decide)] at H; exact H
        clear H
        have H := H1
        clear H1
        obtain rfl := Option.some.inj H
        go_enter Try.func18, Try.ntmps18
        go_wp2_with (first | ((with_reducible refine gate_dst (N := 1) rfl ?_); refine box_event ?hg (N := 1) ?hd (cs := #[.bool a0_0, .string a0_1, .slice A0_2 l0_2.length c0_2, .bool false, .string a0_4, .bool a0_5, .string a0_6, .bool false, .string a0_8, .bool a0_9, .string a0_10, .bool false, .string a0_12, .bool a0_13, .string a0_14, .slice A0_15 l0_15.length c0_15, .slice A0_16 l0_16.length c0_16]) (t := 29) ?hr ?_; (case hd => rfl); (case hg => rfl); (case hr => first | (go_simp; done) | (go_simp; rfl)); intro gb169 hg w11 hbox hb; have n0_ := Aside0.mk (below_step (by repeat (first | (with_reducible first | exact HB.out | apply below_alloc | apply pw_below_drewN | apply below_drew1) | exact HB.out)) hb); have n1_ := Aside0.mk (hbox); have n2_ := Aside0.mk ((by rw [hg]; exact (below_size (by repeat (first | (with_reducible first | exact HB.out | apply below_alloc | apply pw_below_drewN | apply below_drew1) | exact HB.out))) : w.heap.size ≤ gb169)); have n3_ := Aside0.mk ((by rw [hg]; exact (below_size (by repeat (first | (with_reducible first | exact HB.out | apply below_alloc | apply pw_below_drewN | apply below_drew1) | exact HB.out))) : w.heap.size ≤ gb169)); clear HB; have HB := n0_; have BK169 := n1_; have GW169 := n2_; have GE169 := n3_; clear n0_ n1_ n2_ n3_; clear hb hbox hg; have hcz12_0 : w11.cell? ⟨gb169, 0, none⟩ = some (.bool a0_0) := (blk_cell BK169.out 0).trans rfl; have hcz12_1 : w11.cell? ⟨gb169, 1, none⟩ = some (.string a0_1) := (blk_cell BK169.out 1).trans rfl; have hcz12_2 : w11.cell? ⟨gb169, 2, none⟩ = some (.slice A0_2 l0_2.length c0_2) := (blk_cell BK169.out 2).trans rfl; have hcz12_3 : w11.cell? ⟨gb169, 3, none⟩ = some (.bool false) := (blk_cell BK169.out 3).trans rfl; have hcz12_4 : w11.cell? ⟨gb169, 4, none⟩ = some (.string a0_4) := (blk_cell BK169.out 4).trans rfl; have hcz12_5 : w11.cell? ⟨gb169, 5, none⟩ = some (.bool a0_5) := (blk_cell BK169.out 5).trans rfl; have hcz12_6 : w11.cell? ⟨gb169, 6, none⟩ = some (.string a0_6) := (blk_cell BK169.out 6).trans rfl; have hcz12_7 : w11.cell? ⟨gb169, 7, none⟩ = some (.bool false) := (blk_cell BK169.out 7).trans rfl; have hcz12_8 : w11.cell? ⟨gb169, 8, none⟩ = some (.string a0_8) := (blk_cell BK169.out 8).trans rfl; have hcz12_9 : w11.cell? ⟨gb169, 9, none⟩ = some (.bool a0_9) := (blk_cell BK169.out 9).trans rfl; have hcz12_10 : w11.cell? ⟨gb169, 10, none⟩ = some (.string a0_10) := (blk_cell BK169.out 10).trans rfl; have hcz12_11 : w11.cell? ⟨gb169, 11, none⟩ = some (.bool false) := (blk_cell BK169.out 11).trans rfl; have hcz12_12 : w11.cell? ⟨gb169, 12, none⟩ = some (.string a0_12) := (blk_cell BK169.out 12).trans rfl; have hcz12_13 : w11.cell? ⟨gb169, 13, none⟩ = some (.bool a0_13) := (blk_cell BK169.out 13).trans rfl; have hcz12_14 : w11.cell? ⟨gb169, 14, none⟩ = some (.string a0_14) := (blk_cell BK169.out 14).trans rfl; have hcz12_15 : w11.cell? ⟨gb169, 15, none⟩ = some (.slice A0_15 l0_15.length c0_15) := (blk_cell BK169.out 15).trans rfl; have hcz12_16 : w11.cell? ⟨gb169, 16, none⟩ = some (.slice A0_16 l0_16.length c0_16) := (blk_cell BK169.out 16).trans rfl; have hfz12_0 := blk_frozen BK169.out 0; have hfz12_1 := blk_frozen BK169.out 1; have hfz12_2 := blk_frozen BK169.out 2; have hfz12_3 := blk_frozen BK169.out 3; have hfz12_4 := blk_frozen BK169.out 4; have hfz12_5 := blk_frozen BK169.out 5; have hfz12_6 := blk_frozen BK169.out 6; have hfz12_7 := blk_frozen BK169.out 7; have hfz12_8 := blk_frozen BK169.out 8; have hfz12_9 := blk_frozen BK169.out 9; have hfz12_10 := blk_frozen BK169.out 10; have hfz12_11 := blk_frozen BK169.out 11; have hfz12_12 := blk_frozen BK169.out 12; have hfz12_13 := blk_frozen BK169.out 13; have hfz12_14 := blk_frozen BK169.out 14; have hfz12_15 := blk_frozen BK169.out 15; have hfz12_16 := blk_frozen BK169.out 16))
        go_ret
        exact ⟨by first | rfl | (simp [errW_none, errW_some] <;> rfl) | (simp [*, errW_none, errW_some] <;> rfl), by repeat (first | (with_reducible first | exact HB.out | apply below_alloc | apply pw_below_drewN | apply below_drew1 | refine below_set ?_ GE169.out) | exact HB.out)⟩

/-! ### spec_orderInts: function 19 -/
def spec_orderInts.f (a0 : Int) (a1 : Int) : Option (Int) := if a0 < a1 then (some (-1)) else (if a0 > a1 then (some 1) else (some 0))
set_option maxHeartbeats 8000000 in
set_option maxRecDepth 100000 in
theorem spec_orderInts.calls (a0 : Int) (a1 : Int) (r : Int) (w : World) (h : spec_orderInts.f a0 a1 = some r) :
    Calls Try.prog 19 #[.int .i64 a0, .int .i64 a1] w fun e w' => e = .returned (.int .i64 r) ∧ Drawn0 w w' := by
  have H : (if a0 < a1 then (some (-1)) else (if a0 > a1 then (some 1) else (some 0))) = some r := h
  clear h
  by_cases c3 : a0 < a1
  · rw [if_pos c3] at H
    have c3b0 : decide (a0 < a1) = true := decide_eq_true c3
    clear c3
    obtain rfl := Option.some.inj H
    go_enter Try.func19, Try.ntmps19
    go_wp2
    go_ret
    exact ⟨by first | rfl | (simp; done) | (simp [*]; done), by repeat (first | exact Drawn0.refl _ | apply Drawn0.step)⟩
  · rw [if_neg c3] at H
    have c3b0 : decide (a0 < a1) = false := decide_eq_false c3
    clear c3
    by_cases c4 : a0 > a1
    · rw [if_pos c4] at H
      have c4b0 : decide (a1 < a0) = true := decide_eq_true c4
      clear c4
      obtain rfl := Option.some.inj H
      go_enter Try.func19, Try.ntmps19
      go_wp2
      go_ret
      exact ⟨by first | rfl | (simp; done) | (simp [*]; done), by repeat (first | exact Drawn0.refl _ | apply Drawn0.step)⟩
    · rw [if_neg c4] at H
      have c4b0 : decide (a1 < a0) = false := decide_eq_false c4
      clear c4
      obtain rfl := Option.some.inj H
      go_enter Try.func19, Try.ntmps19
      go_wp2
      go_ret
      exact ⟨by first | rfl | (simp; done) | (simp [*]; done), by repeat (first | exact Drawn0.refl _ | apply Drawn0.step)⟩

/-! ### spec_order: function 20 -/
def spec_order.f (a0 : ByteArray) (a1 : ByteArray) : Option (Int) := if (Op.bytesLess a0.toList a1.toList) = true then (some (-1)) else (if (Op.bytesLess a1.toList a0.toList) = true then (some 1) else (some 0))
set_option maxHeartbeats 8000000 in
set_option maxRecDepth 100000 in
theorem spec_order.calls (a0 : ByteArray) (a1 : ByteArray) (r : Int) (w : World) (h : spec_order.f a0 a1 = some r) :
    Calls Try.prog 20 #[.string a0, .string a1] w fun e w' => e = .returned (.int .i64 r) ∧ Drawn0 w w' := by
  have H : (if (Op.bytesLess a0.toList a1.toList) = true then (some (-1)) else (if (Op.bytesLess a1.toList a0.toList) = true then (some 1) else (some 0))) = some r := h
  clear h
  by_cases c3 : (Op.bytesLess a0.toList a1.toList) = true
  · rw [if_pos c3] at H
    have c3b0 : (Op.bytesLess a0.toList a1.toList) = true := c3
    clear c3
    obtain rfl := Option.some.inj H
    go_enter Try.func20, Try.ntmps20
    go_wp2
    go_ret
    exact ⟨by first | rfl | (simp; done) | (simp [*]; done), by repeat (first | exact Drawn0.refl _ | apply Drawn0.step)⟩
  · rw [if_neg c3] at H
    have c3b0 : (Op.bytesLess a0.toList a1.toList) = false := by simpa using c3
    clear c3
    by_cases c4 : (Op.bytesLess a1.toList a0.toList) = true
    · rw [if_pos c4] at H
      have c4b0 : (Op.bytesLess a1.toList a0.toList) = true := c4
      clear c4
      obtain rfl := Option.some.inj H
      go_enter Try.func20, Try.ntmps20
      go_wp2
      go_ret
      exact ⟨by first | rfl | (simp; done) | (simp [*]; done), by repeat (first | exact Drawn0.refl _ | apply Drawn0.step)⟩
    · rw [if_neg c4] at H
      have c4b0 : (Op.bytesLess a1.toList a0.toList) = false := by simpa using c4
      clear c4
      obtain rfl := Option.some.inj H
      go_enter Try.func20, Try.ntmps20
      go_wp2
      go_ret
      exact ⟨by first | rfl | (simp; done) | (simp [*]; done), by repeat (first | exact Drawn0.refl _ | apply Drawn0.step)⟩

/-! ### spec_intOrder: function 21 -/
mutual
def spec_intOrder.j2 : Nat → Bool → ByteArray → Bool → ByteArray → Option (Int)
  | 0, _, _, _, _ => none
  | k + 1, x171000, x171001, x172000, x172001 => if (x171001.size : Int) = (x172001.size : Int) then ((spec_order.f x171001 x172001).bind fun t176 => (some t176)) else ((spec_orderInts.f (x171001.size : Int) (x172001.size : Int)).bind fun t177 => (some t177))
def spec_intOrder.j0 : Nat → Bool → Bool → ByteArray → Bool → ByteArray → Option (Int)
  | 0, _, _, _, _, _ => none
  | k + 1, x9, x171000, x171001, x172000, x172001 => if x9 = true then (some (-1)) else (if x171000 = true then (spec_intOrder.j1 k false x171000 x171001 x172000 x172001) else (spec_intOrder.j1 k x172000 x171000 x171001 x172000 x172001))
def spec_intOrder.j1 : Nat → Bool → Bool → ByteArray → Bool → ByteArray → Option (Int)
  | 0, _, _, _, _, _ => none
  | k + 1, x17, x171000, x171001, x172000, x172001 => if x17 = true then (some 1) else (if x171000 = true then (spec_intOrder.j2 k x172000 x172001 x171000 x171001) else (spec_intOrder.j2 k x171000 x171001 x172000 x172001))
end
def spec_intOrder.f (k : Nat) (a0_0 : Bool) (a0_1 : ByteArray) (a1_0 : Bool) (a1_1 : ByteArray) : Option (Int) := (spec_numTidy.f k a0_0 a0_1).bind fun bt172 => ((spec_numTidy.f k a1_0 a1_1).bind fun bt174 => (if bt172.1 = true then (spec_intOrder.j0 k (!bt174.1) bt172.1 bt172.2 bt174.1 bt174.2) else (spec_intOrder.j0 k false bt172.1 bt172.2 bt174.1 bt174.2)))
theorem spec_intOrder.mono_l : ∀ k, (∀ y0 y1 y2 y3, LeO (spec_intOrder.j2 k y0 y1 y2 y3) (spec_intOrder.j2 (k + 1) y0 y1 y2 y3)) ∧ (∀ y0 y1 y2 y3 y4, LeO (spec_intOrder.j0 k y0 y1 y2 y3 y4) (spec_intOrder.j0 (k + 1) y0 y1 y2 y3 y4)) ∧ (∀ y0 y1 y2 y3 y4, LeO (spec_intOrder.j1 k y0 y1 y2 y3 y4) (spec_intOrder.j1 (k + 1) y0 y1 y2 y3 y4))
  | 0 => ⟨fun _ _ _ _ r h => by simp [spec_intOrder.j2] at h, fun _ _ _ _ _ r h => by simp [spec_intOrder.j0] at h, fun _ _ _ _ _ r h => by simp [spec_intOrder.j1] at h⟩
  | k + 1 => by
    obtain ⟨ih0, ih1, ih2⟩ := spec_intOrder.mono_l k
    refine ⟨?_, ?_, ?_⟩
    · intro y0 y1 y2 y3
      unfold spec_intOrder.j2
      repeat' first
      | (with_reducible exact ih0 _ _ _ _)
      | (with_reducible exact ih1 _ _ _ _ _)
      | (with_reducible exact ih2 _ _ _ _ _)
      | (with_reducible exact spec_numTidy.mono _ _ _)
      | (with_reducible exact LeO.refl _)
      | (with_reducible exact LeO.none _)
      | (with_reducible refine LeO.ite ?_ ?_)
      | (with_reducible refine LeO.bind ?_ (fun _ => ?_))
      | exact ih0 _ _ _ _
      | exact ih1 _ _ _ _ _
      | exact ih2 _ _ _ _ _
      | exact spec_numTidy.mono _ _ _
      | exact LeO.none _
      | refine LeO.ite ?_ ?_
      | refine LeO.bind ?_ (fun _ => ?_)
    · intro y0 y1 y2 y3 y4
      unfold spec_intOrder.j0
      repeat' first
      | (with_reducible exact ih0 _ _ _ _)
      | (with_reducible exact ih1 _ _ _ _ _)
      | (with_reducible exact ih2 _ _ _ _ _)
      | (with_reducible exact spec_numTidy.mono _ _ _)
      | (with_reducible exact LeO.refl _)
      | (with_reducible exact LeO.none _)
      | (with_reducible refine LeO.ite ?_ ?_)
      | (with_reducible refine LeO.bind ?_ (fun _ => ?_))
      | exact ih0 _ _ _ _
      | exact ih1 _ _ _ _ _
      | exact ih2 _ _ _ _ _
      | exact spec_numTidy.mono _ _ _
      | exact LeO.none _
      | refine LeO.ite ?_ ?_
      | refine LeO.bind ?_ (fun _ => ?_)
    · intro y0 y1 y2 y3 y4
      unfold spec_intOrder.j1
      repeat' first
      | (with_reducible exact ih0 _ _ _ _)
      | (with_reducible exact ih1 _ _ _ _ _)
      | (with_reducible exact ih2 _ _ _ _ _)
      | (with_reducible exact spec_numTidy.mono _ _ _)
      | (with_reducible exact LeO.refl _)
      | (with_reducible exact LeO.none _)
      | (with_reducible refine LeO.ite ?_ ?_)
      | (with_reducible refine LeO.bind ?_ (fun _ => ?_))
      | exact ih0 _ _ _ _
      | exact ih1 _ _ _ _ _
      | exact ih2 _ _ _ _ _
      | exact spec_numTidy.mono _ _ _
      | exact LeO.none _
      | refine LeO.ite ?_ ?_
      | refine LeO.bind ?_ (fun _ => ?_)
theorem spec_intOrder.mono : ∀ a0 a1 a2 a3 k, LeO (spec_intOrder.f k a0 a1 a2 a3) (spec_intOrder.f (k + 1) a0 a1 a2 a3) := by
  intro a0 a1 a2 a3 k
  obtain ⟨ih0, ih1, ih2⟩ := spec_intOrder.mono_l k
  unfold spec_intOrder.f
  repeat' first
      | (with_reducible exact ih0 _ _ _ _)
      | (with_reducible exact ih1 _ _ _ _ _)
      | (with_reducible exact ih2 _ _ _ _ _)
      | (with_reducible exact spec_numTidy.mono _ _ _)
      | (with_reducible exact LeO.refl _)
      | (with_reducible exact LeO.none _)
      | (with_reducible refine LeO.ite ?_ ?_)
      | (with_reducible refine LeO.bind ?_ (fun _ => ?_))
      | exact ih0 _ _ _ _
      | exact ih1 _ _ _ _ _
      | exact ih2 _ _ _ _ _
      | exact spec_numTidy.mono _ _ _
      | exact LeO.none _
      | refine LeO.ite ?_ ?_
      | refine LeO.bind ?_ (fun _ => ?_)
set_option maxHeartbeats 8000000 in
set_option maxRecDepth 100000 in
theorem spec_intOrder.calls (k : Nat) (a0_0 : Bool) (a0_1 : ByteArray) (a1_0 : Bool) (a1_1 : ByteArray) (r : Int) (w : World) (h : spec_intOrder.f k a0_0 a0_1 a1_0 a1_1 = some r) :
    Calls Try.prog 21 #[.agg #[.bool a0_0, .string a0_1], .agg #[.bool a1_0, .string a1_1]] w fun e w' => e = .returned (.int .i64 r) ∧ Below w.heap.size w w' := by
  have hu23 := Try.underlying23
  have HB := Aside0.mk (Below.refl w.heap.size w)
  have H : ((spec_numTidy.f k a0_0 a0_1).bind fun bt172 => ((spec_numTidy.f k a1_0 a1_1).bind fun bt174 => (if bt172.1 = true then (spec_intOrder.j0 k (!bt174.1) bt172.1 bt172.2 bt174.1 bt174.2) else (spec_intOrder.j0 k false bt172.1 bt172.2 bt174.1 bt174.2)))) = some r := h
  clear h
  replace H := Option.bind_eq_some_iff.mp H
  obtain ⟨⟨t172, t173⟩, A30, H⟩ := H
  replace H : ((spec_numTidy.f k a1_0 a1_1).bind fun bt174 => (if t172 = true then (spec_intOrder.j0 k (!bt174.1) t172 t173 bt174.1 bt174.2) else (spec_intOrder.j0 k false t172 t173 bt174.1 bt174.2))) = some r := H
  have A3 := Aside0.mk A30
  clear A30
  replace H := Option.bind_eq_some_iff.mp H
  obtain ⟨⟨t174, t175⟩, A40, H⟩ := H
  replace H : (if t172 = true then (spec_intOrder.j0 k (!t174) t172 t173 t174 t175) else (spec_intOrder.j0 k false t172 t173 t174 t175)) = some r := H
  have A4 := Aside0.mk A40
  clear A40
  have HC5 := Aside0.mk H
  clear H
  go_enter Try.func21, Try.ntmps21
  try go_wp2_with (first | ((with_reducible refine gate_dst (N := 2) rfl ?_); refine box_event ?hg (N := 2) ?hd (cs := #[.bool a0_0, .string a0_1]) (t := 23) ?hr ?_; (case hd => rfl); (case hg => rfl); (case hr => first | (go_simp; done) | (go_simp; rfl)); intro gb170 hg w6 hbox hb; have n0_ := Aside0.mk (below_step (by repeat (first | (with_reducible first | exact HB.out | apply below_alloc | apply pw_below_drewN | apply below_drew1) | exact HB.out)) hb); have n1_ := Aside0.mk (hbox); have n2_ := Aside0.mk ((by rw [hg]; exact (below_size (by repeat (first | (with_reducible first | exact HB.out | apply below_alloc | apply pw_below_drewN | apply below_drew1) | exact HB.out))) : w.heap.size ≤ gb170)); have n3_ := Aside0.mk ((by rw [hg]; exact (below_size (by repeat (first | (with_reducible first | exact HB.out | apply below_alloc | apply pw_below_drewN | apply below_drew1) | exact HB.out))) : w.heap.size ≤ gb170)); clear HB; have HB := n0_; have BK170 := n1_; have GW170 := n2_; have GE170 := n3_; clear n0_ n1_ n2_ n3_; clear hb hbox hg) | ((with_reducible refine gate_dst (N := 3) rfl ?_); refine box_event ?hg (N := 3) ?hd (cs := #[.bool a1_0, .string a1_1]) (t := 23) ?hr ?_; (case hd => rfl); (case hg => rfl); (case hr => first | (go_simp; done) | (go_simp; rfl)); intro gb171 hg w7 hbox hb; have n0_ := Aside0.mk (blk_below (g := gb170) (o := .cells #[.bool a0_0, .string a0_1] 23 (0, 0)) (by (with_reducible repeat (first | refine blk_drewN ?_ _ | refine blk_drew ?_ | refine blk_alloc ?_ _)); exact BK170.out) hb); have n1_ := Aside0.mk (below_step (by repeat (first | (with_reducible first | exact HB.out | apply below_alloc | apply pw_below_drewN | apply below_drew1 | refine below_set ?_ GE170.out) | exact HB.out)) hb); have n2_ := Aside0.mk (hbox); have n3_ := Aside0.mk ((by rw [hg]; exact (below_size (by repeat (first | (with_reducible first | exact HB.out | apply below_alloc | apply pw_below_drewN | apply below_drew1 | refine below_set ?_ GE170.out) | exact HB.out))) : w.heap.size ≤ gb171)); have n4_ := Aside0.mk ((by rw [hg]; exact (below_size (by repeat (first | (with_reducible first | exact HB.out | apply below_alloc | apply pw_below_drewN | apply below_drew1 | refine below_set ?_ GE170.out) | exact HB.out))) : w.heap.size ≤ gb171)); have n5_ := Aside0.mk ((by rw [hg]; exact Nat.ne_of_lt (blk_lt (g := gb170) (o := .cells #[.bool a0_0, .string a0_1] 23 (0, 0)) (by (with_reducible repeat (first | refine blk_drewN ?_ _ | refine blk_drew ?_ | refine blk_alloc ?_ _)); exact BK170.out)) : gb170 ≠ gb171)); have n6_ := Aside0.mk ((by rw [hg]; exact Nat.ne_of_gt (blk_lt (g := gb170) (o := .cells #[.bool a0_0, .string a0_1] 23 (0, 0)) (by (with_reducible repeat (first | refine blk_drewN ?_ _ | refine blk_drew ?_ | refine blk_alloc ?_ _)); exact BK170.out)) : gb171 ≠ gb170)); clear BK170; clear HB; have BK170 := n0_; have HB := n1_; have BK171 := n2_; have GW171 := n3_; have GE171 := n4_; have NB170_171 := n5_; have NB171_170 := n6_; clear n0_ n1_ n2_ n3_ n4_ n5_ n6_; clear hb hbox hg))
  have n0_ := Aside0.mk (blk_drew BK170.out)
  have n1_ := Aside0.mk (blk_drew BK171.out)
  have n2_ := Aside0.mk (below_drew1 HB.out)
  clear BK170
  clear BK171
  clear HB
  have BK170 := n0_
  have BK171 := n1_
  have HB := n2_
  clear n0_ n1_ n2_
  refine start_ (n := 6) (S := fun w' => w'.cell? ⟨gb170, 0, none⟩ = some (.bool a0_0) ∧ w'.cell? ⟨gb170, 1, none⟩ = some (.string a0_1) ∧ w'.cell? ⟨gb171, 0, none⟩ = some (.bool a1_0) ∧ w'.cell? ⟨gb171, 1, none⟩ = some (.string a1_1)) (ds := [4, 5]) #[false, false, false, false, false, false] (by kernel_rfl) rfl rfl ⟨(blk_cell BK170.out 0).trans rfl, (blk_cell BK170.out 1).trans rfl, (blk_cell BK171.out 0).trans rfl, (blk_cell BK171.out 1).trans rfl⟩ (fun hHeld => ?_)
  generalize w7.drew = w8 at BK170 BK171 HB hHeld ⊢
  refine take_ (i := 0) (N := some 5) (v := ?_) (a' := ?_) #[true, false, false, false, false, false] rfl rfl (by kernel_rfl) (fun _ _ _ h => h) (Or.inl ⟨by rfl, ?_⟩) hHeld ?_ ?_
  rotate_left
  · rintro w' ⟨s0, s1, s2, s3⟩
    go_simp
    with_reducible rfl
  rotate_left
  · simp only [Act.put, List.setIfInBounds_toArray, List.set_cons_zero, List.set_cons_succ, i64_w, i32_w]
    rfl
  refine take_ (i := 2) (N := some 7) (v := ?_) (a' := ?_) #[true, false, true, false, false, false] rfl rfl (by kernel_rfl) (fun _ _ _ h => h) (Or.inl ⟨by rfl, ?_⟩) hHeld ?_ ?_
  rotate_left
  · rintro w' ⟨s0, s1, s2, s3⟩
    go_simp
    with_reducible rfl
  rotate_left
  · simp only [Act.put, List.setIfInBounds_toArray, List.set_cons_zero, List.set_cons_succ, i64_w, i32_w]
    rfl
  refine one_ (i := 1) (N := some 6) #[true, true, true, false, false, false] rfl rfl (by kernel_rfl) (by decide) (fun K hK => ?_)
  refine goes_ Try.func31 (by kernel_rfl) rfl #[.agg #[.bool a0_0, .string a0_1]] (by rfl) rfl rfl (by (try simp only [List.map_toArray, List.map_cons, List.map_nil]); first | done | rfl | (simp only [List.length_drop, List.length_take]; rfl)) ?_
  with_reducible refine (spec_numTidy.calls k a0_0 a0_1 t172 t173 _ A3.out).mono ?_
  rintro e w9 ⟨rfl, hb⟩
  refine ⟨_, rfl, ?_⟩
  have n0_ := Aside0.mk (blk_below (g := gb170) (o := .cells #[.bool a0_0, .string a0_1] 23 (0, 0)) (by (with_reducible repeat (first | refine blk_drewN ?_ _ | refine blk_drew ?_ | refine blk_alloc ?_ _)); exact BK170.out) hb)
  have n1_ := Aside0.mk (blk_below (g := gb171) (o := .cells #[.bool a1_0, .string a1_1] 23 (0, 0)) (by (with_reducible repeat (first | refine blk_drewN ?_ _ | refine blk_drew ?_ | refine blk_alloc ?_ _)); exact BK171.out) hb)
  have n2_ := Aside0.mk (below_step (by repeat (first | (with_reducible first | exact HB.out | apply below_alloc | apply pw_below_drewN | apply below_drew1 | refine below_set ?_ GE170.out | refine below_set ?_ GE171.out) | exact HB.out)) hb)
  clear BK170
  clear BK171
  clear HB
  have BK170 := n0_
  have BK171 := n1_
  have HB := n2_
  clear n0_ n1_ n2_
  (try clear hb)
  (try clear hb2)
  (try clear hk)
  (try clear hi)
  refine hK.out _ _ ⟨(blk_cell BK170.out 0).trans rfl, (blk_cell BK170.out 1).trans rfl, (blk_cell BK171.out 0).trans rfl, (blk_cell BK171.out 1).trans rfl⟩ (fun hHeld => ?_)
  clear hK K
  refine norm_ (a' := ?_) ?_ ?_
  rotate_left
  · show Act.put _ (some 6) _ = _
    simp only [Act.put, List.setIfInBounds_toArray, List.set_cons_zero, List.set_cons_succ, i64_w, i32_w]
    rfl
  refine one_ (i := 3) (N := some 8) #[true, true, true, true, false, false] rfl rfl (by kernel_rfl) (by decide) (fun K hK => ?_)
  refine goes_ Try.func31 (by kernel_rfl) rfl #[.agg #[.bool a1_0, .string a1_1]] (by rfl) rfl rfl (by (try simp only [List.map_toArray, List.map_cons, List.map_nil]); first | done | rfl | (simp only [List.length_drop, List.length_take]; rfl)) ?_
  with_reducible refine (spec_numTidy.calls k a1_0 a1_1 t174 t175 _ A4.out).mono ?_
  rintro e w10 ⟨rfl, hb⟩
  refine ⟨_, rfl, ?_⟩
  have n0_ := Aside0.mk (blk_below (g := gb170) (o := .cells #[.bool a0_0, .string a0_1] 23 (0, 0)) (by (with_reducible repeat (first | refine blk_drewN ?_ _ | refine blk_drew ?_ | refine blk_alloc ?_ _)); exact BK170.out) hb)
  have n1_ := Aside0.mk (blk_below (g := gb171) (o := .cells #[.bool a1_0, .string a1_1] 23 (0, 0)) (by (with_reducible repeat (first | refine blk_drewN ?_ _ | refine blk_drew ?_ | refine blk_alloc ?_ _)); exact BK171.out) hb)
  have n2_ := Aside0.mk (below_step (by repeat (first | (with_reducible first | exact HB.out | apply below_alloc | apply pw_below_drewN | apply below_drew1 | refine below_set ?_ GE170.out | refine below_set ?_ GE171.out) | exact HB.out)) hb)
  clear BK170
  clear BK171
  clear HB
  have BK170 := n0_
  have BK171 := n1_
  have HB := n2_
  clear n0_ n1_ n2_
  (try clear hb)
  (try clear hb2)
  (try clear hk)
  (try clear hi)
  refine hK.out _ _ ⟨(blk_cell BK170.out 0).trans rfl, (blk_cell BK170.out 1).trans rfl, (blk_cell BK171.out 0).trans rfl, (blk_cell BK171.out 1).trans rfl⟩ (fun hHeld => ?_)
  clear hK K
  refine norm_ (a' := ?_) ?_ ?_
  rotate_left
  · show Act.put _ (some 8) _ = _
    simp only [Act.put, List.setIfInBounds_toArray, List.set_cons_zero, List.set_cons_succ, i64_w, i32_w]
    rfl
  refine last_ (i := 4) (N := none) #[true, true, true, true, true, false] rfl rfl (by kernel_rfl) (by decide) (fun K hK => ?_)
  have hs11 : w10.cell? ⟨gb170, 0, none⟩ = some (.bool a0_0) := (blk_cell BK170.out 0).trans rfl
  have hfs11 := blk_frozen BK170.out 0
  have hns11_1 := NB171_170.out
  have hms11_1 := NB170_171.out
  have hs12 : w10.cell? ⟨gb170, 1, none⟩ = some (.string a0_1) := (blk_cell BK170.out 1).trans rfl
  have hfs12 := blk_frozen BK170.out 1
  have hns12_1 := NB171_170.out
  have hms12_1 := NB170_171.out
  refine skip_ (w1 := ?_) (by rfl) rfl ?_ ?_
  rotate_left
  · go_simp
    rfl
  refine hK.out _ _ ?_
  clear hK K
  refine last_ (i := 5) (N := none) #[true, true, true, true, true, true] rfl rfl (by kernel_rfl) (by decide) (fun K hK => ?_)
  have hs13 : w10.cell? ⟨gb171, 0, none⟩ = some (.bool a1_0) := (blk_cell BK171.out 0).trans rfl
  have hfs13 := blk_frozen BK171.out 0
  have hns13_0 := NB170_171.out
  have hms13_0 := NB171_170.out
  have hs14 : w10.cell? ⟨gb171, 1, none⟩ = some (.string a1_1) := (blk_cell BK171.out 1).trans rfl
  have hfs14 := blk_frozen BK171.out 1
  have hns14_0 := NB170_171.out
  have hms14_0 := NB171_170.out
  refine skip_ (w1 := ?_) (by rfl) rfl ?_ ?_
  rotate_left
  · go_simp
    rfl
  refine hK.out _ _ ?_
  clear hK K
  refine done_ (by kernel_rfl) ?_
  go_upto_block 0 with (fail)
  go_cut [] (fun wc => ∃ (kq : Nat) (x171000_4 : Bool) (x171001_4 : ByteArray) (x172000_4 : Bool) (x172001_4 : ByteArray), Aside0 (spec_intOrder.j2 kq x171000_4 x171001_4 x172000_4 x172001_4 = some r) ∧ Aside0 (kq ≤ k) ∧ Aside0 (wc.heap[gb170]? = some (.cells #[.bool x171000_4, .string x171001_4] 23 (0, 0))) ∧ Aside0 (wc.heap[gb171]? = some (.cells #[.bool x172000_4, .string x172001_4] 23 (0, 0))) ∧ Aside0 (Below w.heap.size w wc))
  case first =>
    have H := HC5.out
    clear HC5
    have HC15 := Aside0.mk H
    clear H
    go_upto_region 2 with (fail)
    go_cut [9] (fun v9 wc => ∃ (kq : Nat) (x9_14 : Bool), v9 = .bool x9_14 ∧ Aside0 (spec_intOrder.j0 kq x9_14 t172 t173 t174 t175 = some r) ∧ Aside0 (kq ≤ k) ∧ Aside0 (wc.heap[gb170]? = some (.cells #[.bool t172, .string t173] 23 (0, 0))) ∧ Aside0 (wc.heap[gb171]? = some (.cells #[.bool t174, .string t175] 23 (0, 0))) ∧ Aside0 (Below w.heap.size w wc))
    case first =>
      have H := HC15.out
      clear HC15
      by_cases c16 : t172 = true
      · subst c16
        have H1 : (spec_intOrder.j0 k (!t174) true t173 t174 t175) = some r := by rw [if_pos rfl] at H; exact H
        clear H
        have H := H1
        clear H1
        have H' := Aside0.mk H
        clear H
        have hnb17 := NB170_171.out
        have hnc17 := NB171_170.out
        have hcz18_0 : w10.cell? ⟨gb170, 0, none⟩ = some (.bool a0_0) := (blk_cell BK170.out 0).trans rfl
        have hcz18_1 : w10.cell? ⟨gb170, 1, none⟩ = some (.string a0_1) := (blk_cell BK170.out 1).trans rfl
        have hfz18_0 := blk_frozen BK170.out 0
        have hfz18_1 := blk_frozen BK170.out 1
        have hcz19_0 : w10.cell? ⟨gb171, 0, none⟩ = some (.bool a1_0) := (blk_cell BK171.out 0).trans rfl
        have hcz19_1 : w10.cell? ⟨gb171, 1, none⟩ = some (.string a1_1) := (blk_cell BK171.out 1).trans rfl
        have hfz19_0 := blk_frozen BK171.out 0
        have hfz19_1 := blk_frozen BK171.out 1
        go_wp2
        go_meet
        case rel => exact ⟨_, (!t174), (by first | rfl | (simp; done) | (simp [*]; done)), H', ⟨by first | omega | exact Nat.le_refl _⟩, ⟨by (with_reducible repeat (first | refine blk_drewN ?_ _ | refine blk_drew ?_ | refine blk_alloc ?_ _)); refine blk_far ?_ NB170_171.out _; (with_reducible repeat (first | refine blk_drewN ?_ _ | refine blk_drew ?_ | refine blk_alloc ?_ _)); refine blk_far ?_ NB170_171.out _; (with_reducible repeat (first | refine blk_drewN ?_ _ | refine blk_drew ?_ | refine blk_alloc ?_ _)); refine blk_put (cs := #[.bool true, .string a0_1]) ?_ 1 _ rfl; (with_reducible repeat (first | refine blk_drewN ?_ _ | refine blk_drew ?_ | refine blk_alloc ?_ _)); refine blk_put (cs := #[.bool a0_0, .string a0_1]) ?_ 0 _ rfl; (with_reducible repeat (first | refine blk_drewN ?_ _ | refine blk_drew ?_ | refine blk_alloc ?_ _)); exact BK170.out⟩, ⟨by (with_reducible repeat (first | refine blk_drewN ?_ _ | refine blk_drew ?_ | refine blk_alloc ?_ _)); refine blk_put (cs := #[.bool t174, .string a1_1]) ?_ 1 _ rfl; (with_reducible repeat (first | refine blk_drewN ?_ _ | refine blk_drew ?_ | refine blk_alloc ?_ _)); refine blk_put (cs := #[.bool a1_0, .string a1_1]) ?_ 0 _ rfl; (with_reducible repeat (first | refine blk_drewN ?_ _ | refine blk_drew ?_ | refine blk_alloc ?_ _)); refine blk_far ?_ NB171_170.out _; (with_reducible repeat (first | refine blk_drewN ?_ _ | refine blk_drew ?_ | refine blk_alloc ?_ _)); refine blk_far ?_ NB171_170.out _; (with_reducible repeat (first | refine blk_drewN ?_ _ | refine blk_drew ?_ | refine blk_alloc ?_ _)); exact BK171.out⟩, ⟨by repeat (first | (with_reducible first | exact HB.out | apply below_alloc | apply pw_below_drewN | apply below_drew1 | refine below_set ?_ GE170.out | refine below_set ?_ GE171.out) | exact HB.out)⟩⟩
      · replace c16 := Bool.eq_false_iff.mpr c16
        subst c16
        have H1 : (spec_intOrder.j0 k false false t173 t174 t175) = some r := by rw [if_neg (show ¬ (false = true) by decide)] at H; exact H
        clear H
        have H := H1
        clear H1
        have H' := Aside0.mk H
        clear H
        have hnb20 := NB170_171.out
        have hnc20 := NB171_170.out
        have hcz21_0 : w10.cell? ⟨gb170, 0, none⟩ = some (.bool a0_0) := (blk_cell BK170.out 0).trans rfl
        have hcz21_1 : w10.cell? ⟨gb170, 1, none⟩ = some (.string a0_1) := (blk_cell BK170.out 1).trans rfl
        have hfz21_0 := blk_frozen BK170.out 0
        have hfz21_1 := blk_frozen BK170.out 1
        go_wp2
        go_meet
        case rel => exact ⟨_, (false), (by first | rfl | (simp; done) | (simp [*]; done)), H', ⟨by first | omega | exact Nat.le_refl _⟩, ⟨by (with_reducible repeat (first | refine blk_drewN ?_ _ | refine blk_drew ?_ | refine blk_alloc ?_ _)); refine blk_far ?_ NB170_171.out _; (with_reducible repeat (first | refine blk_drewN ?_ _ | refine blk_drew ?_ | refine blk_alloc ?_ _)); refine blk_far ?_ NB170_171.out _; (with_reducible repeat (first | refine blk_drewN ?_ _ | refine blk_drew ?_ | refine blk_alloc ?_ _)); refine blk_put (cs := #[.bool false, .string a0_1]) ?_ 1 _ rfl; (with_reducible repeat (first | refine blk_drewN ?_ _ | refine blk_drew ?_ | refine blk_alloc ?_ _)); refine blk_put (cs := #[.bool a0_0, .string a0_1]) ?_ 0 _ rfl; (with_reducible repeat (first | refine blk_drewN ?_ _ | refine blk_drew ?_ | refine blk_alloc ?_ _)); exact BK170.out⟩, ⟨by (with_reducible repeat (first | refine blk_drewN ?_ _ | refine blk_drew ?_ | refine blk_alloc ?_ _)); refine blk_put (cs := #[.bool t174, .string a1_1]) ?_ 1 _ rfl; (with_reducible repeat (first | refine blk_drewN ?_ _ | refine blk_drew ?_ | refine blk_alloc ?_ _)); refine blk_put (cs := #[.bool a1_0, .string a1_1]) ?_ 0 _ rfl; (with_reducible repeat (first | refine blk_drewN ?_ _ | refine blk_drew ?_ | refine blk_alloc ?_ _)); refine blk_far ?_ NB171_170.out _; (with_reducible repeat (first | refine blk_drewN ?_ _ | refine blk_drew ?_ | refine blk_alloc ?_ _)); refine blk_far ?_ NB171_170.out _; (with_reducible repeat (first | refine blk_drewN ?_ _ | refine blk_drew ?_ | refine blk_alloc ?_ _)); exact BK171.out⟩, ⟨by repeat (first | (with_reducible first | exact HB.out | apply below_alloc | apply pw_below_drewN | apply below_drew1 | refine below_set ?_ GE170.out | refine below_set ?_ GE171.out) | exact HB.out)⟩⟩
    case rest =>
      clear HC15
      try clear c1
      try clear c2
      try clear p2
      try clear c3
      try clear c16
      try clear c17
      try clear c20
      try clear c21
      try clear hcz18_0
      try clear hcz18_1
      try clear hcz19_0
      try clear hcz19_1
      try clear hcz21_0
      try clear hcz21_1
      try clear hfz18_0
      try clear hfz18_1
      try clear hfz19_0
      try clear hfz19_1
      try clear hfz21_0
      try clear hfz21_1
      obtain ⟨kq, x9_14, rfl, HA, HJ14, BK170, BK171, HB⟩ := hcut
      cases kq with
      | zero => exact absurd HA.out (by simp [spec_intOrder.j0])
      | succ kj14 =>
        have H := HA.out
        clear HA
        simp only [spec_intOrder.j0] at H
        by_cases c22 : x9_14 = true
        · subst c22
          have H1 : (some (-1)) = some r := by rw [if_pos rfl] at H; exact H
          clear H
          have H := H1
          clear H1
          obtain rfl := Option.some.inj H
          go_wp2
          go_ret
          exact ⟨by first | rfl | (simp [errW_none, errW_some] <;> rfl) | (simp [*, errW_none, errW_some] <;> rfl), by repeat (first | (with_reducible first | exact HB.out | apply below_alloc | apply pw_below_drewN | apply below_drew1 | refine below_set ?_ GE170.out | refine below_set ?_ GE171.out) | exact HB.out)⟩
        · replace c22 := Bool.eq_false_iff.mpr c22
          subst c22
          have H1 : (if t172 = true then (spec_intOrder.j1 kj14 false t172 t173 t174 t175) else (spec_intOrder.j1 kj14 t174 t172 t173 t174 t175)) = some r := by rw [if_neg (show ¬ (false = true) by decide)] at H; exact H
          clear H
          have H := H1
          clear H1
          have HC23 := Aside0.mk H
          clear H
          go_upto_region 4 with (fail)
          go_cut [17] (fun v17 wc => ∃ (kq : Nat) (x17_22 : Bool), v17 = .bool x17_22 ∧ Aside0 (spec_intOrder.j1 kq x17_22 t172 t173 t174 t175 = some r) ∧ Aside0 (kq ≤ kj14) ∧ Aside0 (wc.heap[gb170]? = some (.cells #[.bool t172, .string t173] 23 (0, 0))) ∧ Aside0 (wc.heap[gb171]? = some (.cells #[.bool t174, .string t175] 23 (0, 0))) ∧ Aside0 (Below w.heap.size w wc))
          case first =>
            have H := HC23.out
            clear HC23
            by_cases c24 : t172 = true
            · subst c24
              have H1 : (spec_intOrder.j1 kj14 false true t173 t174 t175) = some r := by rw [if_pos rfl] at H; exact H
              clear H
              have H := H1
              clear H1
              have H' := Aside0.mk H
              clear H
              have hnb25 := NB170_171.out
              have hnc25 := NB171_170.out
              have hcz26_0 : wc.cell? ⟨gb170, 0, none⟩ = some (.bool true) := (blk_cell BK170.out 0).trans rfl
              have hcz26_1 : wc.cell? ⟨gb170, 1, none⟩ = some (.string t173) := (blk_cell BK170.out 1).trans rfl
              have hfz26_0 := blk_frozen BK170.out 0
              have hfz26_1 := blk_frozen BK170.out 1
              go_wp2
              go_meet
              case rel => exact ⟨_, (false), (by first | rfl | (simp; done) | (simp [*]; done)), H', ⟨by have := HJ14.out; first | omega | exact Nat.le_refl _⟩, ⟨by (with_reducible repeat (first | refine blk_drewN ?_ _ | refine blk_drew ?_ | refine blk_alloc ?_ _)); exact BK170.out⟩, ⟨by (with_reducible repeat (first | refine blk_drewN ?_ _ | refine blk_drew ?_ | refine blk_alloc ?_ _)); exact BK171.out⟩, ⟨by repeat (first | (with_reducible first | exact HB.out | apply below_alloc | apply pw_below_drewN | apply below_drew1 | refine below_set ?_ GE170.out | refine below_set ?_ GE171.out) | exact HB.out)⟩⟩
            · replace c24 := Bool.eq_false_iff.mpr c24
              subst c24
              have H1 : (spec_intOrder.j1 kj14 t174 false t173 t174 t175) = some r := by rw [if_neg (show ¬ (false = true) by decide)] at H; exact H
              clear H
              have H := H1
              clear H1
              have H' := Aside0.mk H
              clear H
              have hnb27 := NB170_171.out
              have hnc27 := NB171_170.out
              have hcz28_0 : wc.cell? ⟨gb170, 0, none⟩ = some (.bool false) := (blk_cell BK170.out 0).trans rfl
              have hcz28_1 : wc.cell? ⟨gb170, 1, none⟩ = some (.string t173) := (blk_cell BK170.out 1).trans rfl
              have hfz28_0 := blk_frozen BK170.out 0
              have hfz28_1 := blk_frozen BK170.out 1
              have hcz29_0 : wc.cell? ⟨gb171, 0, none⟩ = some (.bool t174) := (blk_cell BK171.out 0).trans rfl
              have hcz29_1 : wc.cell? ⟨gb171, 1, none⟩ = some (.string t175) := (blk_cell BK171.out 1).trans rfl
              have hfz29_0 := blk_frozen BK171.out 0
              have hfz29_1 := blk_frozen BK171.out 1
              go_wp2
              go_meet
              case rel => exact ⟨_, (t174), (by first | rfl | (simp; done) | (simp [*]; done)), H', ⟨by have := HJ14.out; first | omega | exact Nat.le_refl _⟩, ⟨by (with_reducible repeat (first | refine blk_drewN ?_ _ | refine blk_drew ?_ | refine blk_alloc ?_ _)); exact BK170.out⟩, ⟨by (with_reducible repeat (first | refine blk_drewN ?_ _ | refine blk_drew ?_ | refine blk_alloc ?_ _)); exact BK171.out⟩, ⟨by repeat (first | (with_reducible first | exact HB.out | apply below_alloc | apply pw_below_drewN | apply below_drew1 | refine below_set ?_ GE170.out | refine below_set ?_ GE171.out) | exact HB.out)⟩⟩
          case rest =>
            clear HC23
            try clear c1
            try clear c2
            try clear p2
            try clear c3
            try clear c16
            try clear c17
            try clear c20
            try clear c21
            try clear c22
            try clear c24
            try clear c25
            try clear c27
            try clear hcz18_0
            try clear hcz18_1
            try clear hcz19_0
            try clear hcz19_1
            try clear hcz21_0
            try clear hcz21_1
            try clear hcz26_0
            try clear hcz26_1
            try clear hcz28_0
            try clear hcz28_1
            try clear hcz29_0
            try clear hcz29_1
            try clear hfz18_0
            try clear hfz18_1
            try clear hfz19_0
            try clear hfz19_1
            try clear hfz21_0
            try clear hfz21_1
            try clear hfz26_0
            try clear hfz26_1
            try clear hfz28_0
            try clear hfz28_1
            try clear hfz29_0
            try clear hfz29_1
            try clear p2
            obtain ⟨kq, x17_22, rfl, HA, HJ22, BK170, BK171, HB⟩ := hcut
            cases kq with
            | zero => exact absurd HA.out (by simp [spec_intOrder.j1])
            | succ kj22 =>
              have H := HA.out
              clear HA
              simp only [spec_intOrder.j1] at H
              by_cases c30 : x17_22 = true
              · subst c30
                have H1 : (some 1) = some r := by rw [if_pos rfl] at H; exact H
                clear H
                have H := H1
                clear H1
                obtain rfl := Option.some.inj H
                go_wp2
                go_ret
                exact ⟨by first | rfl | (simp [errW_none, errW_some] <;> rfl) | (simp [*, errW_none, errW_some] <;> rfl), by repeat (first | (with_reducible first | exact HB.out | apply below_alloc | apply pw_below_drewN | apply below_drew1 | refine below_set ?_ GE170.out | refine below_set ?_ GE171.out) | exact HB.out)⟩
              · replace c30 := Bool.eq_false_iff.mpr c30
                subst c30
                have H1 : (if t172 = true then (spec_intOrder.j2 kj22 t174 t175 t172 t173) else (spec_intOrder.j2 kj22 t172 t173 t174 t175)) = some r := by rw [if_neg (show ¬ (false = true) by decide)] at H; exact H
                clear H
                have H := H1
                clear H1
                by_cases c31 : t172 = true
                · subst c31
                  have H1 : (spec_intOrder.j2 kj22 t174 t175 true t173) = some r := by rw [if_pos rfl] at H; exact H
                  clear H
                  have H := H1
                  clear H1
                  have H' := Aside0.mk H
                  clear H
                  have hnb32 := NB170_171.out
                  have hnc32 := NB171_170.out
                  have hcz33_0 : wc.cell? ⟨gb170, 0, none⟩ = some (.bool true) := (blk_cell BK170.out 0).trans rfl
                  have hcz33_1 : wc.cell? ⟨gb170, 1, none⟩ = some (.string t173) := (blk_cell BK170.out 1).trans rfl
                  have hfz33_0 := blk_frozen BK170.out 0
                  have hfz33_1 := blk_frozen BK170.out 1
                  have hcz34_0 : wc.cell? ⟨gb171, 0, none⟩ = some (.bool t174) := (blk_cell BK171.out 0).trans rfl
                  have hcz34_1 : wc.cell? ⟨gb171, 1, none⟩ = some (.string t175) := (blk_cell BK171.out 1).trans rfl
                  have hfz34_0 := blk_frozen BK171.out 0
                  have hfz34_1 := blk_frozen BK171.out 1
                  go_wp2
                  go_meet
                  case rel => exact ⟨_, (t174), (t175), (true), (t173), H', ⟨by have := HJ14.out; have := HJ22.out; first | omega | exact Nat.le_refl _⟩, ⟨by (with_reducible repeat (first | refine blk_drewN ?_ _ | refine blk_drew ?_ | refine blk_alloc ?_ _)); refine blk_far ?_ NB170_171.out _; (with_reducible repeat (first | refine blk_drewN ?_ _ | refine blk_drew ?_ | refine blk_alloc ?_ _)); refine blk_far ?_ NB170_171.out _; (with_reducible repeat (first | refine blk_drewN ?_ _ | refine blk_drew ?_ | refine blk_alloc ?_ _)); refine blk_put (cs := #[.bool t174, .string t173]) ?_ 1 _ rfl; (with_reducible repeat (first | refine blk_drewN ?_ _ | refine blk_drew ?_ | refine blk_alloc ?_ _)); refine blk_put (cs := #[.bool true, .string t173]) ?_ 0 _ rfl; (with_reducible repeat (first | refine blk_drewN ?_ _ | refine blk_drew ?_ | refine blk_alloc ?_ _)); exact BK170.out⟩, ⟨by (with_reducible repeat (first | refine blk_drewN ?_ _ | refine blk_drew ?_ | refine blk_alloc ?_ _)); refine blk_put (cs := #[.bool true, .string t175]) ?_ 1 _ rfl; (with_reducible repeat (first | refine blk_drewN ?_ _ | refine blk_drew ?_ | refine blk_alloc ?_ _)); refine blk_put (cs := #[.bool t174, .string t175]) ?_ 0 _ rfl; (with_reducible repeat (first | refine blk_drewN ?_ _ | refine blk_drew ?_ | refine blk_alloc ?_ _)); refine blk_far ?_ NB171_170.out _; (with_reducible repeat (first | refine blk_drewN ?_ _ | refine blk_drew ?_ | refine blk_alloc ?_ _)); refine blk_far ?_ NB171_170.out _; (with_reducible repeat (first | refine blk_drewN ?_ _ | refine blk_drew ?_ | refine blk_alloc ?_ _)); exact BK171.out⟩, ⟨by repeat (first | (with_reducible first | exact HB.out | apply below_alloc | apply pw_below_drewN | apply below_drew1 | refine below_set ?_ GE170.out | refine below_set ?_ GE171.out) | exact HB.out)⟩⟩
                · replace c31 := Bool.eq_false_iff.mpr c31
                  subst c31
                  have H1 : (spec_intOrder.j2 kj22 false t173 t174 t175) = some r := by rw [if_neg (show ¬ (false = true) by decide)] at H; exact H
                  clear H
                  have H := H1
                  clear H1
                  have H' := Aside0.mk H
                  clear H
                  have hnb35 := NB170_171.out
                  have hnc35 := NB171_170.out
                  have hcz36_0 : wc.cell? ⟨gb170, 0, none⟩ = some (.bool false) := (blk_cell BK170.out 0).trans rfl
                  have hcz36_1 : wc.cell? ⟨gb170, 1, none⟩ = some (.string t173) := (blk_cell BK170.out 1).trans rfl
                  have hfz36_0 := blk_frozen BK170.out 0
                  have hfz36_1 := blk_frozen BK170.out 1
                  go_wp2
                  go_meet
                  case rel => exact ⟨_, (false), (t173), (t174), (t175), H', ⟨by have := HJ14.out; have := HJ22.out; first | omega | exact Nat.le_refl _⟩, ⟨by (with_reducible repeat (first | refine blk_drewN ?_ _ | refine blk_drew ?_ | refine blk_alloc ?_ _)); exact BK170.out⟩, ⟨by (with_reducible repeat (first | refine blk_drewN ?_ _ | refine blk_drew ?_ | refine blk_alloc ?_ _)); exact BK171.out⟩, ⟨by repeat (first | (with_reducible first | exact HB.out | apply below_alloc | apply pw_below_drewN | apply below_drew1 | refine below_set ?_ GE170.out | refine below_set ?_ GE171.out) | exact HB.out)⟩⟩
  case rest =>
    clear HC5
    try clear c1
    try clear c2
    try clear p2
    try clear c3
    try clear c16
    try clear c17
    try clear c20
    try clear c21
    try clear c22
    try clear c24
    try clear c25
    try clear c27
    try clear c30
    try clear c31
    try clear c32
    try clear c35
    try clear hcz18_0
    try clear hcz18_1
    try clear hcz19_0
    try clear hcz19_1
    try clear hcz21_0
    try clear hcz21_1
    try clear hcz26_0
    try clear hcz26_1
    try clear hcz28_0
    try clear hcz28_1
    try clear hcz29_0
    try clear hcz29_1
    try clear hcz33_0
    try clear hcz33_1
    try clear hcz34_0
    try clear hcz34_1
    try clear hcz36_0
    try clear hcz36_1
    try clear hfz18_0
    try clear hfz18_1
    try clear hfz19_0
    try clear hfz19_1
    try clear hfz21_0
    try clear hfz21_1
    try clear hfz26_0
    try clear hfz26_1
    try clear hfz28_0
    try clear hfz28_1
    try clear hfz29_0
    try clear hfz29_1
    try clear hfz33_0
    try clear hfz33_1
    try clear hfz34_0
    try clear hfz34_1
    try clear hfz36_0
    try clear hfz36_1
    try clear p2
    obtain ⟨kq, x171000_4, x171001_4, x172000_4, x172001_4, HA, HJ4, BK170, BK171, HB⟩ := hcut
    cases kq with
    | zero => exact absurd HA.out (by simp [spec_intOrder.j2])
    | succ kj4 =>
      have H := HA.out
      clear HA
      simp only [spec_intOrder.j2] at H
      by_cases c37 : (x171001_4.size : Int) = (x172001_4.size : Int)
      · rw [if_pos c37] at H
        have c37b0 : ((x171001_4.size : Int) == (x172001_4.size : Int)) = true := beq_iff_eq.mpr c37
        have c37b1 : ((x171001_4.size : Int) != (x172001_4.size : Int)) = false := bne_eq_false_iff_eq.mpr c37
        have c37b2 : (x171001_4.size == x172001_4.size) = true := by first | simpa using c37 | (simp at c37 ⊢; omega)
        clear c37
        replace H := Option.bind_eq_some_iff.mp H
        obtain ⟨t176, A380, H⟩ := H
        replace H : (some t176) = some r := H
        have A38 := Aside0.mk A380
        clear A380
        obtain rfl := Option.some.inj H
        have hnb39 := NB170_171.out
        have hnc39 := NB171_170.out
        have hcz40_0 : wc.cell? ⟨gb170, 0, none⟩ = some (.bool x171000_4) := (blk_cell BK170.out 0).trans rfl
        have hcz40_1 : wc.cell? ⟨gb170, 1, none⟩ = some (.string x171001_4) := (blk_cell BK170.out 1).trans rfl
        have hfz40_0 := blk_frozen BK170.out 0
        have hfz40_1 := blk_frozen BK170.out 1
        have hcz41_0 : wc.cell? ⟨gb171, 0, none⟩ = some (.bool x172000_4) := (blk_cell BK171.out 0).trans rfl
        have hcz41_1 : wc.cell? ⟨gb171, 1, none⟩ = some (.string x172001_4) := (blk_cell BK171.out 1).trans rfl
        have hfz41_0 := blk_frozen BK171.out 0
        have hfz41_1 := blk_frozen BK171.out 1
        go_wp2_with (first | ((with_reducible refine gate_callee (f := 20) rfl ?_); refine goesL_ (some 48) rfl rfl Try.func20 (by kernel_rfl) rfl #[.string x171001_4, .string x172001_4] rfl (by (try simp only [List.map_toArray, List.map_cons, List.map_nil]); first | done | rfl | (simp only [List.length_drop, List.length_take]; rfl)) ?_; (with_reducible refine (spec_order.calls x171001_4 x172001_4 t176 _ A38.out).mono ?_); rintro e w' ⟨rfl, ⟨nd, rfl⟩⟩; refine ⟨_, rfl, ?_⟩))
        go_ret
        exact ⟨by first | rfl | (simp [errW_none, errW_some] <;> rfl) | (simp [*, errW_none, errW_some] <;> rfl), by repeat (first | (with_reducible first | exact HB.out | apply below_alloc | apply pw_below_drewN | apply below_drew1 | refine below_set ?_ GE170.out | refine below_set ?_ GE171.out) | exact HB.out)⟩
      · rw [if_neg c37] at H
        have c37b0 : ((x171001_4.size : Int) == (x172001_4.size : Int)) = false := beq_eq_false_iff_ne.mpr c37
        have c37b1 : ((x171001_4.size : Int) != (x172001_4.size : Int)) = true := bne_iff_ne.mpr c37
        have c37b2 : (x171001_4.size == x172001_4.size) = false := by first | simpa using c37 | (simp at c37 ⊢; omega)
        replace H := Option.bind_eq_some_iff.mp H
        obtain ⟨t177, A420, H⟩ := H
        replace H : (some t177) = some r := H
        have A42 := Aside0.mk A420
        clear A420
        obtain rfl := Option.some.inj H
        have hnb43 := NB170_171.out
        have hnc43 := NB171_170.out
        have hcz44_0 : wc.cell? ⟨gb170, 0, none⟩ = some (.bool x171000_4) := (blk_cell BK170.out 0).trans rfl
        have hcz44_1 : wc.cell? ⟨gb170, 1, none⟩ = some (.string x171001_4) := (blk_cell BK170.out 1).trans rfl
        have hfz44_0 := blk_frozen BK170.out 0
        have hfz44_1 := blk_frozen BK170.out 1
        have hcz45_0 : wc.cell? ⟨gb171, 0, none⟩ = some (.bool x172000_4) := (blk_cell BK171.out 0).trans rfl
        have hcz45_1 : wc.cell? ⟨gb171, 1, none⟩ = some (.string x172001_4) := (blk_cell BK171.out 1).trans rfl
        have hfz45_0 := blk_frozen BK171.out 0
        have hfz45_1 := blk_frozen BK171.out 1
        go_wp2_with (first | ((with_reducible refine gate_callee (f := 19) rfl ?_); refine goesL_ (some 43) rfl rfl Try.func19 (by kernel_rfl) rfl #[.int .i64 (x171001_4.size : Int), .int .i64 (x172001_4.size : Int)] rfl (by (try simp only [List.map_toArray, List.map_cons, List.map_nil]); first | done | rfl | (simp only [List.length_drop, List.length_take]; rfl)) ?_; (with_reducible refine (spec_orderInts.calls (x171001_4.size : Int) (x172001_4.size : Int) t177 _ A42.out).mono ?_); rintro e w' ⟨rfl, ⟨nd, rfl⟩⟩; refine ⟨_, rfl, ?_⟩))
        go_ret
        exact ⟨by first | rfl | (simp [errW_none, errW_some] <;> rfl) | (simp [*, errW_none, errW_some] <;> rfl), by repeat (first | (with_reducible first | exact HB.out | apply below_alloc | apply pw_below_drewN | apply below_drew1 | refine below_set ?_ GE170.out | refine below_set ?_ GE171.out) | exact HB.out)⟩

/-! ### spec_PyPIPre: function 7 -/
def spec_PyPIPre.j0 : Nat → Int → Int → Bool → Bool → ByteArray → List (S23) → Bool → ByteArray → Bool → ByteArray → Bool → ByteArray → Bool → ByteArray → Bool → ByteArray → Bool → ByteArray → List ByteArray → List ByteArray → Bool → ByteArray → List (S23) → Bool → ByteArray → Bool → ByteArray → Bool → ByteArray → Bool → ByteArray → Bool → ByteArray → Bool → ByteArray → List ByteArray → List ByteArray → Option (Int)
  | 0, _, _, _, _, _, _, _, _, _, _, _, _, _, _, _, _, _, _, _, _, _, _, _, _, _, _, _, _, _, _, _, _, _, _, _, _, _ => none
  | k + 1, x5, x6, x18, x179000, x179001, x179002, x179003, x179004, x179005, x179006, x179007, x179008, x179009, x179010, x179011, x179012, x179013, x179014, x179015, x179016, x180000, x180001, x180002, x180003, x180004, x180005, x180006, x180007, x180008, x180009, x180010, x180011, x180012, x180013, x180014, x180015, x180016 => if x18 = true then ((spec_orderInts.f x5 x6).bind fun t182 => (some t182)) else (if 0 ≤ 1 then (if 1 ≤ (x179004.size : Int) then (if 1 ≤ (x180004.size : Int) then ((spec_order.f (x179004.extract 0 1) (x180004.extract 0 1)).bind fun t183 => (if t183 = 0 then ((spec_intOrder.f k x179005 x179006 x180005 x180006).bind fun t184 => (some t184)) else (some t183))) else (none)) else (none)) else (none))
def spec_PyPIPre.f (k : Nat) (a0_0 : Bool) (a0_1 : ByteArray) (l0_2 : List (S23)) (a0_3 : Bool) (a0_4 : ByteArray) (a0_5 : Bool) (a0_6 : ByteArray) (a0_7 : Bool) (a0_8 : ByteArray) (a0_9 : Bool) (a0_10 : ByteArray) (a0_11 : Bool) (a0_12 : ByteArray) (a0_13 : Bool) (a0_14 : ByteArray) (l0_15 : List ByteArray) (l0_16 : List ByteArray) (a1_0 : Bool) (a1_1 : ByteArray) (l1_2 : List (S23)) (a1_3 : Bool) (a1_4 : ByteArray) (a1_5 : Bool) (a1_6 : ByteArray) (a1_7 : Bool) (a1_8 : ByteArray) (a1_9 : Bool) (a1_10 : ByteArray) (a1_11 : Bool) (a1_12 : ByteArray) (a1_13 : Bool) (a1_14 : ByteArray) (l1_15 : List ByteArray) (l1_16 : List ByteArray) : Option (Int) := (spec_pypiPlace.f a0_0 a0_1 l0_2 a0_3 a0_4 a0_5 a0_6 a0_7 a0_8 a0_9 a0_10 a0_11 a0_12 a0_13 a0_14 l0_15 l0_16).bind fun t180 => ((spec_pypiPlace.f a1_0 a1_1 l1_2 a1_3 a1_4 a1_5 a1_6 a1_7 a1_8 a1_9 a1_10 a1_11 a1_12 a1_13 a1_14 l1_15 l1_16).bind fun t181 => (if t180 = t181 then (spec_PyPIPre.j0 k t180 t181 (t180 != 0) a0_0 a0_1 l0_2 a0_3 a0_4 a0_5 a0_6 a0_7 a0_8 a0_9 a0_10 a0_11 a0_12 a0_13 a0_14 l0_15 l0_16 a1_0 a1_1 l1_2 a1_3 a1_4 a1_5 a1_6 a1_7 a1_8 a1_9 a1_10 a1_11 a1_12 a1_13 a1_14 l1_15 l1_16) else (spec_PyPIPre.j0 k t180 t181 true a0_0 a0_1 l0_2 a0_3 a0_4 a0_5 a0_6 a0_7 a0_8 a0_9 a0_10 a0_11 a0_12 a0_13 a0_14 l0_15 l0_16 a1_0 a1_1 l1_2 a1_3 a1_4 a1_5 a1_6 a1_7 a1_8 a1_9 a1_10 a1_11 a1_12 a1_13 a1_14 l1_15 l1_16)))
theorem spec_PyPIPre.mono_l : ∀ k, (∀ y0 y1 y2 y3 y4 y5 y6 y7 y8 y9 y10 y11 y12 y13 y14 y15 y16 y17 y18 y19 y20 y21 y22 y23 y24 y25 y26 y27 y28 y29 y30 y31 y32 y33 y34 y35 y36, LeO (spec_PyPIPre.j0 k y0 y1 y2 y3 y4 y5 y6 y7 y8 y9 y10 y11 y12 y13 y14 y15 y16 y17 y18 y19 y20 y21 y22 y23 y24 y25 y26 y27 y28 y29 y30 y31 y32 y33 y34 y35 y36) (spec_PyPIPre.j0 (k + 1) y0 y1 y2 y3 y4 y5 y6 y7 y8 y9 y10 y11 y12 y13 y14 y15 y16 y17 y18 y19 y20 y21 y22 y23 y24 y25 y26 y27 y28 y29 y30 y31 y32 y33 y34 y35 y36))
  | 0 => fun _ _ _ _ _ _ _ _ _ _ _ _ _ _ _ _ _ _ _ _ _ _ _ _ _ _ _ _ _ _ _ _ _ _ _ _ _ r h => by simp [spec_PyPIPre.j0] at h
  | k + 1 => by
    have ih0 := spec_PyPIPre.mono_l k
    · intro y0 y1 y2 y3 y4 y5 y6 y7 y8 y9 y10 y11 y12 y13 y14 y15 y16 y17 y18 y19 y20 y21 y22 y23 y24 y25 y26 y27 y28 y29 y30 y31 y32 y33 y34 y35 y36
      unfold spec_PyPIPre.j0
      repeat' first
      | (with_reducible exact ih0 _ _ _ _ _ _ _ _ _ _ _ _ _ _ _ _ _ _ _ _ _ _ _ _ _ _ _ _ _ _ _ _ _ _ _ _ _)
      | (with_reducible exact spec_intOrder.mono _ _ _ _ _)
      | (with_reducible exact LeO.refl _)
      | (with_reducible exact LeO.none _)
      | (with_reducible refine LeO.ite ?_ ?_)
      | (with_reducible refine LeO.bind ?_ (fun _ => ?_))
      | exact ih0 _ _ _ _ _ _ _ _ _ _ _ _ _ _ _ _ _ _ _ _ _ _ _ _ _ _ _ _ _ _ _ _ _ _ _ _ _
      | exact spec_intOrder.mono _ _ _ _ _
      | exact LeO.none _
      | refine LeO.ite ?_ ?_
      | refine LeO.bind ?_ (fun _ => ?_)
theorem spec_PyPIPre.mono : ∀ a0 a1 a2 a3 a4 a5 a6 a7 a8 a9 a10 a11 a12 a13 a14 a15 a16 a17 a18 a19 a20 a21 a22 a23 a24 a25 a26 a27 a28 a29 a30 a31 a32 a33 k, LeO (spec_PyPIPre.f k a0 a1 a2 a3 a4 a5 a6 a7 a8 a9 a10 a11 a12 a13 a14 a15 a16 a17 a18 a19 a20 a21 a22 a23 a24 a25 a26 a27 a28 a29 a30 a31 a32 a33) (spec_PyPIPre.f (k + 1) a0 a1 a2 a3 a4 a5 a6 a7 a8 a9 a10 a11 a12 a13 a14 a15 a16 a17 a18 a19 a20 a21 a22 a23 a24 a25 a26 a27 a28 a29 a30 a31 a32 a33) := by
  intro a0 a1 a2 a3 a4 a5 a6 a7 a8 a9 a10 a11 a12 a13 a14 a15 a16 a17 a18 a19 a20 a21 a22 a23 a24 a25 a26 a27 a28 a29 a30 a31 a32 a33 k
  have ih0 := spec_PyPIPre.mono_l k
  unfold spec_PyPIPre.f
  repeat' first
      | (with_reducible exact ih0 _ _ _ _ _ _ _ _ _ _ _ _ _ _ _ _ _ _ _ _ _ _ _ _ _ _ _ _ _ _ _ _ _ _ _ _ _)
      | (with_reducible exact spec_intOrder.mono _ _ _ _ _)
      | (with_reducible exact LeO.refl _)
      | (with_reducible exact LeO.none _)
      | (with_reducible refine LeO.ite ?_ ?_)
      | (with_reducible refine LeO.bind ?_ (fun _ => ?_))
      | exact ih0 _ _ _ _ _ _ _ _ _ _ _ _ _ _ _ _ _ _ _ _ _ _ _ _ _ _ _ _ _ _ _ _ _ _ _ _ _
      | exact spec_intOrder.mono _ _ _ _ _
      | exact LeO.none _
      | refine LeO.ite ?_ ?_
      | refine LeO.bind ?_ (fun _ => ?_)
def spec_PyPIPre.T4 : Bool × List (List Nat × List Nat) := (true, [([], []), ([0], [0]), ([1], [1]), ([2], [2]), ([], []), ([4], [4]), ([5], [5]), ([6], [6]), ([3, 7], [3, 7]), ([8, 8, 0, 1, 2, 3, 4, 5, 6, 7, 8], [8])])
def spec_PyPIPre.B4 : List Nat := [0, 1, 3, 7, 0, 16, 48, 112, 255, 511]
theorem spec_PyPIPre.tab4 : rtab .any (opsOf Try.f7 4) = spec_PyPIPre.T4 := by kernel_rfl
theorem spec_PyPIPre.bits4 : waitsOk spec_PyPIPre.T4.2 spec_PyPIPre.B4 = true := by kernel_rfl
set_option maxHeartbeats 8000000 in
set_option maxRecDepth 100000 in
theorem spec_PyPIPre.calls (k : Nat) (a0_0 : Bool) (a0_1 : ByteArray) (A0_2 : Option Addr) (c0_2 : Nat) (l0_2 : List (S23)) (a0_3 : Bool) (a0_4 : ByteArray) (a0_5 : Bool) (a0_6 : ByteArray) (a0_7 : Bool) (a0_8 : ByteArray) (a0_9 : Bool) (a0_10 : ByteArray) (a0_11 : Bool) (a0_12 : ByteArray) (a0_13 : Bool) (a0_14 : ByteArray) (A0_15 : Option Addr) (c0_15 : Nat) (l0_15 : List ByteArray) (A0_16 : Option Addr) (c0_16 : Nat) (l0_16 : List ByteArray) (a1_0 : Bool) (a1_1 : ByteArray) (A1_2 : Option Addr) (c1_2 : Nat) (l1_2 : List (S23)) (a1_3 : Bool) (a1_4 : ByteArray) (a1_5 : Bool) (a1_6 : ByteArray) (a1_7 : Bool) (a1_8 : ByteArray) (a1_9 : Bool) (a1_10 : ByteArray) (a1_11 : Bool) (a1_12 : ByteArray) (a1_13 : Bool) (a1_14 : ByteArray) (A1_15 : Option Addr) (c1_15 : Nat) (l1_15 : List ByteArray) (A1_16 : Option Addr) (c1_16 : Nat) (l1_16 : List ByteArray) (r : Int) (w : World) (hr0_2 : Kd.C k23 w A0_2 l0_2.length l0_2) (hc0_2 : l0_2.length ≤ c0_2) (hr0_15 : Kd.C Kd.string w A0_15 l0_15.length l0_15) (hc0_15 : l0_15.length ≤ c0_15) (hr0_16 : Kd.C Kd.string w A0_16 l0_16.length l0_16) (hc0_16 : l0_16.length ≤ c0_16) (hr1_2 : Kd.C k23 w A1_2 l1_2.length l1_2) (hc1_2 : l1_2.length ≤ c1_2) (hr1_15 : Kd.C Kd.string w A1_15 l1_15.length l1_15) (hc1_15 : l1_15.length ≤ c1_15) (hr1_16 : Kd.C Kd.string w A1_16 l1_16.length l1_16) (hc1_16 : l1_16.length ≤ c1_16) (h : spec_PyPIPre.f k a0_0 a0_1 l0_2 a0_3 a0_4 a0_5 a0_6 a0_7 a0_8 a0_9 a0_10 a0_11 a0_12 a0_13 a0_14 l0_15 l0_16 a1_0 a1_1 l1_2 a1_3 a1_4 a1_5 a1_6 a1_7 a1_8 a1_9 a1_10 a1_11 a1_12 a1_13 a1_14 l1_15 l1_16 = some r) :
    Calls Try.prog 7 #[.agg #[.bool a0_0, .string a0_1, .slice A0_2 l0_2.length c0_2, .bool a0_3, .string a0_4, .bool a0_5, .string a0_6, .bool a0_7, .string a0_8, .bool a0_9, .string a0_10, .bool a0_11, .string a0_12, .bool a0_13, .string a0_14, .slice A0_15 l0_15.length c0_15, .slice A0_16 l0_16.length c0_16], .agg #[.bool a1_0, .string a1_1, .slice A1_2 l1_2.length c1_2, .bool a1_3, .string a1_4, .bool a1_5, .string a1_6, .bool a1_7, .string a1_8, .bool a1_9, .string a1_10, .bool a1_11, .string a1_12, .bool a1_13, .string a1_14, .slice A1_15 l1_15.length c1_15, .slice A1_16 l1_16.length c1_16]] w fun e w' => e = .returned (.int .i64 r) ∧ Below w.heap.size w w' := by
  have hu29 := Try.underlying29
  have hu23 := Try.underlying23
  have HR0_2 := Aside0.mk hr0_2
  have HC0_2 := Aside0.mk hc0_2
  clear hr0_2 hc0_2
  have HR0_15 := Aside0.mk hr0_15
  have HC0_15 := Aside0.mk hc0_15
  clear hr0_15 hc0_15
  have HR0_16 := Aside0.mk hr0_16
  have HC0_16 := Aside0.mk hc0_16
  clear hr0_16 hc0_16
  have HR1_2 := Aside0.mk hr1_2
  have HC1_2 := Aside0.mk hc1_2
  clear hr1_2 hc1_2
  have HR1_15 := Aside0.mk hr1_15
  have HC1_15 := Aside0.mk hc1_15
  clear hr1_15 hc1_15
  have HR1_16 := Aside0.mk hr1_16
  have HC1_16 := Aside0.mk hc1_16
  clear hr1_16 hc1_16
  have HB := Aside0.mk (Below.refl w.heap.size w)
  have H : ((spec_pypiPlace.f a0_0 a0_1 l0_2 a0_3 a0_4 a0_5 a0_6 a0_7 a0_8 a0_9 a0_10 a0_11 a0_12 a0_13 a0_14 l0_15 l0_16).bind fun t180 => ((spec_pypiPlace.f a1_0 a1_1 l1_2 a1_3 a1_4 a1_5 a1_6 a1_7 a1_8 a1_9 a1_10 a1_11 a1_12 a1_13 a1_14 l1_15 l1_16).bind fun t181 => (if t180 = t181 then (spec_PyPIPre.j0 k t180 t181 (t180 != 0) a0_0 a0_1 l0_2 a0_3 a0_4 a0_5 a0_6 a0_7 a0_8 a0_9 a0_10 a0_11 a0_12 a0_13 a0_14 l0_15 l0_16 a1_0 a1_1 l1_2 a1_3 a1_4 a1_5 a1_6 a1_7 a1_8 a1_9 a1_10 a1_11 a1_12 a1_13 a1_14 l1_15 l1_16) else (spec_PyPIPre.j0 k t180 t181 true a0_0 a0_1 l0_2 a0_3 a0_4 a0_5 a0_6 a0_7 a0_8 a0_9 a0_10 a0_11 a0_12 a0_13 a0_14 l0_15 l0_16 a1_0 a1_1 l1_2 a1_3 a1_4 a1_5 a1_6 a1_7 a1_8 a1_9 a1_10 a1_11 a1_12 a1_13 a1_14 l1_15 l1_16)))) = some r := h
  clear h
  replace H := Option.bind_eq_some_iff.mp H
  obtain ⟨t180, A30, H⟩ := H
  replace H : ((spec_pypiPlace.f a1_0 a1_1 l1_2 a1_3 a1_4 a1_5 a1_6 a1_7 a1_8 a1_9 a1_10 a1_11 a1_12 a1_13 a1_14 l1_15 l1_16).bind fun t181 => (if t180 = t181 then (spec_PyPIPre.j0 k t180 t181 (t180 != 0) a0_0 a0_1 l0_2 a0_3 a0_4 a0_5 a0_6 a0_7 a0_8 a0_9 a0_10 a0_11 a0_12 a0_13 a0_14 l0_15 l0_16 a1_0 a1_1 l1_2 a1_3 a1_4 a1_5 a1_6 a1_7 a1_8 a1_9 a1_10 a1_11 a1_12 a1_13 a1_14 l1_15 l1_16) else (spec_PyPIPre.j0 k t180 t181 true a0_0 a0_1 l0_2 a0_3 a0_4 a0_5 a0_6 a0_7 a0_8 a0_9 a0_10 a0_11 a0_12 a0_13 a0_14 l0_15 l0_16 a1_0 a1_1 l1_2 a1_3 a1_4 a1_5 a1_6 a1_7 a1_8 a1_9 a1_10 a1_11 a1_12 a1_13 a1_14 l1_15 l1_16))) = some r := H
  have A3 := Aside0.mk A30
  clear A30
  replace H := Option.bind_eq_some_iff.mp H
  obtain ⟨t181, A40, H⟩ := H
  replace H : (if t180 = t181 then (spec_PyPIPre.j0 k t180 t181 (t180 != 0) a0_0 a0_1 l0_2 a0_3 a0_4 a0_5 a0_6 a0_7 a0_8 a0_9 a0_10 a0_11 a0_12 a0_13 a0_14 l0_15 l0_16 a1_0 a1_1 l1_2 a1_3 a1_4 a1_5 a1_6 a1_7 a1_8 a1_9 a1_10 a1_11 a1_12 a1_13 a1_14 l1_15 l1_16) else (spec_PyPIPre.j0 k t180 t181 true a0_0 a0_1 l0_2 a0_3 a0_4 a0_5 a0_6 a0_7 a0_8 a0_9 a0_10 a0_11 a0_12 a0_13 a0_14 l0_15 l0_16 a1_0 a1_1 l1_2 a1_3 a1_4 a1_5 a1_6 a1_7 a1_8 a1_9 a1_10 a1_11 a1_12 a1_13 a1_14 l1_15 l1_16)) = some r := H
  have A4 := Aside0.mk A40
  clear A40
  have HC5 := Aside0.mk H
  clear H
  go_enter Try.func7, Try.ntmps7
  try go_wp2_with (first | ((with_reducible refine gate_dst (N := 2) rfl ?_); refine box_event ?hg (N := 2) ?hd (cs := #[.bool a0_0, .string a0_1, .slice A0_2 l0_2.length c0_2, .bool a0_3, .string a0_4, .bool a0_5, .string a0_6, .bool a0_7, .string a0_8, .bool a0_9, .string a0_10, .bool a0_11, .string a0_12, .bool a0_13, .string a0_14, .slice A0_15 l0_15.length c0_15, .slice A0_16 l0_16.length c0_16]) (t := 29) ?hr ?_; (case hd => rfl); (case hg => rfl); (case hr => first | (go_simp; done) | (go_simp; rfl)); intro gb178 hg w6 hbox hb; have n0_ := Aside0.mk (below_step (by repeat (first | (with_reducible first | exact HB.out | apply below_alloc | apply pw_below_drewN | apply below_drew1) | exact HB.out)) hb); have n1_ := Aside0.mk (hbox); have n2_ := Aside0.mk ((by rw [hg]; exact (below_size (by repeat (first | (with_reducible first | exact HB.out | apply below_alloc | apply pw_below_drewN | apply below_drew1) | exact HB.out))) : w.heap.size ≤ gb178)); have n3_ := Aside0.mk ((by rw [hg]; exact (below_size (by repeat (first | (with_reducible first | exact HB.out | apply below_alloc | apply pw_below_drewN | apply below_drew1) | exact HB.out))) : w.heap.size ≤ gb178)); clear HB; have HB := n0_; have BK178 := n1_; have GW178 := n2_; have GE178 := n3_; clear n0_ n1_ n2_ n3_; clear hb hbox hg) | ((with_reducible refine gate_dst (N := 3) rfl ?_); refine box_event ?hg (N := 3) ?hd (cs := #[.bool a1_0, .string a1_1, .slice A1_2 l1_2.length c1_2, .bool a1_3, .string a1_4, .bool a1_5, .string a1_6, .bool a1_7, .string a1_8, .bool a1_9, .string a1_10, .bool a1_11, .string a1_12, .bool a1_13, .string a1_14, .slice A1_15 l1_15.length c1_15, .slice A1_16 l1_16.length c1_16]) (t := 29) ?hr ?_; (case hd => rfl); (case hg => rfl); (case hr => first | (go_simp; done) | (go_simp; rfl)); intro gb179 hg w7 hbox hb; have n0_ := Aside0.mk (blk_below (g := gb178) (o := .cells #[.bool a0_0, .string a0_1, .slice A0_2 l0_2.length c0_2, .bool a0_3, .string a0_4, .bool a0_5, .string a0_6, .bool a0_7, .string a0_8, .bool a0_9, .string a0_10, .bool a0_11, .string a0_12, .bool a0_13, .string a0_14, .slice A0_15 l0_15.length c0_15, .slice A0_16 l0_16.length c0_16] 29 (0, 0)) (by (with_reducible repeat (first | refine blk_drewN ?_ _ | refine blk_drew ?_ | refine blk_alloc ?_ _)); exact BK178.out) hb); have n1_ := Aside0.mk (below_step (by repeat (first | (with_reducible first | exact HB.out | apply below_alloc | apply pw_below_drewN | apply below_drew1 | refine below_set ?_ GE178.out) | exact HB.out)) hb); have n2_ := Aside0.mk (hbox); have n3_ := Aside0.mk ((by rw [hg]; exact (below_size (by repeat (first | (with_reducible first | exact HB.out | apply below_alloc | apply pw_below_drewN | apply below_drew1 | refine below_set ?_ GE178.out) | exact HB.out))) : w.heap.size ≤ gb179)); have n4_ := Aside0.mk ((by rw [hg]; exact (below_size (by repeat (first | (with_reducible first | exact HB.out | apply below_alloc | apply pw_below_drewN | apply below_drew1 | refine below_set ?_ GE178.out) | exact HB.out))) : w.heap.size ≤ gb179)); have n5_ := Aside0.mk ((by rw [hg]; exact Nat.ne_of_lt (blk_lt (g := gb178) (o := .cells #[.bool a0_0, .string a0_1, .slice A0_2 l0_2.length c0_2, .bool a0_3, .string a0_4, .bool a0_5, .string a0_6, .bool a0_7, .string a0_8, .bool a0_9, .string a0_10, .bool a0_11, .string a0_12, .bool a0_13, .string a0_14, .slice A0_15 l0_15.length c0_15, .slice A0_16 l0_16.length c0_16] 29 (0, 0)) (by (with_reducible repeat (first | refine blk_drewN ?_ _ | refine blk_drew ?_ | refine blk_alloc ?_ _)); exact BK178.out)) : gb178 ≠ gb179)); have n6_ := Aside0.mk ((by rw [hg]; exact Nat.ne_of_gt (blk_lt (g := gb178) (o := .cells #[.bool a0_0, .string a0_1, .slice A0_2 l0_2.length c0_2, .bool a0_3, .string a0_4, .bool a0_5, .string a0_6, .bool a0_7, .string a0_8, .bool a0_9, .string a0_10, .bool a0_11, .string a0_12, .bool a0_13, .string a0_14, .slice A0_15 l0_15.length c0_15, .slice A0_16 l0_16.length c0_16] 29 (0, 0)) (by (with_reducible repeat (first | refine blk_drewN ?_ _ | refine blk_drew ?_ | refine blk_alloc ?_ _)); exact BK178.out)) : gb179 ≠ gb178)); clear BK178; clear HB; have BK178 := n0_; have HB := n1_; have BK179 := n2_; have GW179 := n3_; have GE179 := n4_; have NB178_179 := n5_; have NB179_178 := n6_; clear n0_ n1_ n2_ n3_ n4_ n5_ n6_; clear hb hbox hg))
  have n0_ := Aside0.mk (blk_drew BK178.out)
  have n1_ := Aside0.mk (blk_drew BK179.out)
  have n2_ := Aside0.mk (below_drew1 HB.out)
  clear BK178
  clear BK179
  clear HB
  have BK178 := n0_
  have BK179 := n1_
  have HB := n2_
  clear n0_ n1_ n2_
  refine start_ (n := 6) (S := fun w' => w'.cell? ⟨gb178, 0, none⟩ = some (.bool a0_0) ∧ w'.cell? ⟨gb178, 1, none⟩ = some (.string a0_1) ∧ w'.cell? ⟨gb178, 2, none⟩ = some (.slice A0_2 l0_2.length c0_2) ∧ w'.cell? ⟨gb178, 3, none⟩ = some (.bool a0_3) ∧ w'.cell? ⟨gb178, 4, none⟩ = some (.string a0_4) ∧ w'.cell? ⟨gb178, 5, none⟩ = some (.bool a0_5) ∧ w'.cell? ⟨gb178, 6, none⟩ = some (.string a0_6) ∧ w'.cell? ⟨gb178, 7, none⟩ = some (.bool a0_7) ∧ w'.cell? ⟨gb178, 8, none⟩ = some (.string a0_8) ∧ w'.cell? ⟨gb178, 9, none⟩ = some (.bool a0_9) ∧ w'.cell? ⟨gb178, 10, none⟩ = some (.string a0_10) ∧ w'.cell? ⟨gb178, 11, none⟩ = some (.bool a0_11) ∧ w'.cell? ⟨gb178, 12, none⟩ = some (.string a0_12) ∧ w'.cell? ⟨gb178, 13, none⟩ = some (.bool a0_13) ∧ w'.cell? ⟨gb178, 14, none⟩ = some (.string a0_14) ∧ w'.cell? ⟨gb178, 15, none⟩ = some (.slice A0_15 l0_15.length c0_15) ∧ w'.cell? ⟨gb178, 16, none⟩ = some (.slice A0_16 l0_16.length c0_16) ∧ w'.cell? ⟨gb179, 0, none⟩ = some (.bool a1_0) ∧ w'.cell? ⟨gb179, 1, none⟩ = some (.string a1_1) ∧ w'.cell? ⟨gb179, 2, none⟩ = some (.slice A1_2 l1_2.length c1_2) ∧ w'.cell? ⟨gb179, 3, none⟩ = some (.bool a1_3) ∧ w'.cell? ⟨gb179, 4, none⟩ = some (.string a1_4) ∧ w'.cell? ⟨gb179, 5, none⟩ = some (.bool a1_5) ∧ w'.cell? ⟨gb179, 6, none⟩ = some (.string a1_6) ∧ w'.cell? ⟨gb179, 7, none⟩ = some (.bool a1_7) ∧ w'.cell? ⟨gb179, 8, none⟩ = some (.string a1_8) ∧ w'.cell? ⟨gb179, 9, none⟩ = some (.bool a1_9) ∧ w'.cell? ⟨gb179, 10, none⟩ = some (.string a1_10) ∧ w'.cell? ⟨gb179, 11, none⟩ = some (.bool a1_11) ∧ w'.cell? ⟨gb179, 12, none⟩ = some (.string a1_12) ∧ w'.cell? ⟨gb179, 13, none⟩ = some (.bool a1_13) ∧ w'.cell? ⟨gb179, 14, none⟩ = some (.string a1_14) ∧ w'.cell? ⟨gb179, 15, none⟩ = some (.slice A1_15 l1_15.length c1_15) ∧ w'.cell? ⟨gb179, 16, none⟩ = some (.slice A1_16 l1_16.length c1_16)) (ds := []) #[false, false, false, false, false, false] (by kernel_rfl) rfl rfl ⟨(blk_cell BK178.out 0).trans rfl, (blk_cell BK178.out 1).trans rfl, (blk_cell BK178.out 2).trans rfl, (blk_cell BK178.out 3).trans rfl, (blk_cell BK178.out 4).trans rfl, (blk_cell BK178.out 5).trans rfl, (blk_cell BK178.out 6).trans rfl, (blk_cell BK178.out 7).trans rfl, (blk_cell BK178.out 8).trans rfl, (blk_cell BK178.out 9).trans rfl, (blk_cell BK178.out 10).trans rfl, (blk_cell BK178.out 11).trans rfl, (blk_cell BK178.out 12).trans rfl, (blk_cell BK178.out 13).trans rfl, (blk_cell BK178.out 14).trans rfl, (blk_cell BK178.out 15).trans rfl, (blk_cell BK178.out 16).trans rfl, (blk_cell BK179.out 0).trans rfl, (blk_cell BK179.out 1).trans rfl, (blk_cell BK179.out 2).trans rfl, (blk_cell BK179.out 3).trans rfl, (blk_cell BK179.out 4).trans rfl, (blk_cell BK179.out 5).trans rfl, (blk_cell BK179.out 6).trans rfl, (blk_cell BK179.out 7).trans rfl, (blk_cell BK179.out 8).trans rfl, (blk_cell BK179.out 9).trans rfl, (blk_cell BK179.out 10).trans rfl, (blk_cell BK179.out 11).trans rfl, (blk_cell BK179.out 12).trans rfl, (blk_cell BK179.out 13).trans rfl, (blk_cell BK179.out 14).trans rfl, (blk_cell BK179.out 15).trans rfl, (blk_cell BK179.out 16).trans rfl⟩ (fun hHeld => ?_)
  generalize w7.drew = w8 at BK178 BK179 HB hHeld ⊢
  refine take_ (i := 0) (N := some 8) (v := ?_) (a' := ?_) #[true, false, false, false, false, false] rfl rfl (by kernel_rfl) (fun _ _ _ h => h) (Or.inl ⟨by rfl, ?_⟩) hHeld ?_ ?_
  rotate_left
  · rintro w' ⟨s0, s1, s2, s3, s4, s5, s6, s7, s8, s9, s10, s11, s12, s13, s14, s15, s16, s17, s18, s19, s20, s21, s22, s23, s24, s25, s26, s27, s28, s29, s30, s31, s32, s33⟩
    go_simp
    with_reducible rfl
  rotate_left
  · simp only [Act.put, List.setIfInBounds_toArray, List.set_cons_zero, List.set_cons_succ, i64_w, i32_w]
    rfl
  refine take_ (i := 2) (N := some 10) (v := ?_) (a' := ?_) #[true, false, true, false, false, false] rfl rfl (by kernel_rfl) (fun _ _ _ h => h) (Or.inl ⟨by rfl, ?_⟩) hHeld ?_ ?_
  rotate_left
  · rintro w' ⟨s0, s1, s2, s3, s4, s5, s6, s7, s8, s9, s10, s11, s12, s13, s14, s15, s16, s17, s18, s19, s20, s21, s22, s23, s24, s25, s26, s27, s28, s29, s30, s31, s32, s33⟩
    go_simp
    with_reducible rfl
  rotate_left
  · simp only [Act.put, List.setIfInBounds_toArray, List.set_cons_zero, List.set_cons_succ, i64_w, i32_w]
    rfl
  refine one_ (i := 1) (N := some 9) #[true, true, true, false, false, false] rfl rfl (by kernel_rfl) (by decide) (fun K hK => ?_)
  refine goes_ Try.func18 (by kernel_rfl) rfl #[.agg #[.bool a0_0, .string a0_1, .slice A0_2 l0_2.length c0_2, .bool a0_3, .string a0_4, .bool a0_5, .string a0_6, .bool a0_7, .string a0_8, .bool a0_9, .string a0_10, .bool a0_11, .string a0_12, .bool a0_13, .string a0_14, .slice A0_15 l0_15.length c0_15, .slice A0_16 l0_16.length c0_16]] (by rfl) rfl rfl (by (try simp only [List.map_toArray, List.map_cons, List.map_nil]); first | done | rfl | (simp only [List.length_drop, List.length_take]; rfl)) ?_
  with_reducible refine (spec_pypiPlace.calls a0_0 a0_1 _ _ l0_2 a0_3 a0_4 a0_5 a0_6 a0_7 a0_8 a0_9 a0_10 a0_11 a0_12 a0_13 a0_14 _ _ l0_15 _ _ l0_16 t180 _ ?side1 ?side2 ?side3 ?side4 ?side5 ?side6 A3.out).mono ?_
  (case side1 => repeat (first | exact (Kd.C_below HR0_2.out HB.out) | (with_reducible refine Kd.C_alloc ?_ _) | (with_reducible refine Kd.C_drewN ?_ _) | (with_reducible refine Kd.C_drew ?_)))
  (case side2 => exact HC0_2.out)
  (case side3 => repeat (first | exact (Kd.C_below HR0_15.out HB.out) | (with_reducible refine Kd.C_alloc ?_ _) | (with_reducible refine Kd.C_drewN ?_ _) | (with_reducible refine Kd.C_drew ?_)))
  (case side4 => exact HC0_15.out)
  (case side5 => repeat (first | exact (Kd.C_below HR0_16.out HB.out) | (with_reducible refine Kd.C_alloc ?_ _) | (with_reducible refine Kd.C_drewN ?_ _) | (with_reducible refine Kd.C_drew ?_)))
  (case side6 => exact HC0_16.out)
  rintro e w9 ⟨rfl, hb⟩
  refine ⟨_, rfl, ?_⟩
  have n0_ := Aside0.mk (blk_below (g := gb178) (o := .cells #[.bool a0_0, .string a0_1, .slice A0_2 l0_2.length c0_2, .bool a0_3, .string a0_4, .bool a0_5, .string a0_6, .bool a0_7, .string a0_8, .bool a0_9, .string a0_10, .bool a0_11, .string a0_12, .bool a0_13, .string a0_14, .slice A0_15 l0_15.length c0_15, .slice A0_16 l0_16.length c0_16] 29 (0, 0)) (by (with_reducible repeat (first | refine blk_drewN ?_ _ | refine blk_drew ?_ | refine blk_alloc ?_ _)); exact BK178.out) hb)
  have n1_ := Aside0.mk (blk_below (g := gb179) (o := .cells #[.bool a1_0, .string a1_1, .slice A1_2 l1_2.length c1_2, .bool a1_3, .string a1_4, .bool a1_5, .string a1_6, .bool a1_7, .string a1_8, .bool a1_9, .string a1_10, .bool a1_11, .string a1_12, .bool a1_13, .string a1_14, .slice A1_15 l1_15.length c1_15, .slice A1_16 l1_16.length c1_16] 29 (0, 0)) (by (with_reducible repeat (first | refine blk_drewN ?_ _ | refine blk_drew ?_ | refine blk_alloc ?_ _)); exact BK179.out) hb)
  have n2_ := Aside0.mk (below_step (by repeat (first | (with_reducible first | exact HB.out | apply below_alloc | apply pw_below_drewN | apply below_drew1 | refine below_set ?_ GE178.out | refine below_set ?_ GE179.out) | exact HB.out)) hb)
  clear BK178
  clear BK179
  clear HB
  have BK178 := n0_
  have BK179 := n1_
  have HB := n2_
  clear n0_ n1_ n2_
  (try clear hb)
  (try clear hb2)
  (try clear hk)
  (try clear hi)
  refine hK.out _ _ ⟨(blk_cell BK178.out 0).trans rfl, (blk_cell BK178.out 1).trans rfl, (blk_cell BK178.out 2).trans rfl, (blk_cell BK178.out 3).trans rfl, (blk_cell BK178.out 4).trans rfl, (blk_cell BK178.out 5).trans rfl, (blk_cell BK178.out 6).trans rfl, (blk_cell BK178.out 7).trans rfl, (blk_cell BK178.out 8).trans rfl, (blk_cell BK178.out 9).trans rfl, (blk_cell BK178.out 10).trans rfl, (blk_cell BK178.out 11).trans rfl, (blk_cell BK178.out 12).trans rfl, (blk_cell BK178.out 13).trans rfl, (blk_cell BK178.out 14).trans rfl, (blk_cell BK178.out 15).trans rfl, (blk_cell BK178.out 16).trans rfl, (blk_cell BK179.out 0).trans rfl, (blk_cell BK179.out 1).trans rfl, (blk_cell BK179.out 2).trans rfl, (blk_cell BK179.out 3).trans rfl, (blk_cell BK179.out 4).trans rfl, (blk_cell BK179.out 5).trans rfl, (blk_cell BK179.out 6).trans rfl, (blk_cell BK179.out 7).trans rfl, (blk_cell BK179.out 8).trans rfl, (blk_cell BK179.out 9).trans rfl, (blk_cell BK179.out 10).trans rfl, (blk_cell BK179.out 11).trans rfl, (blk_cell BK179.out 12).trans rfl, (blk_cell BK179.out 13).trans rfl, (blk_cell BK179.out 14).trans rfl, (blk_cell BK179.out 15).trans rfl, (blk_cell BK179.out 16).trans rfl⟩ (fun hHeld => ?_)
  clear hK K
  refine norm_ (a' := ?_) ?_ ?_
  rotate_left
  · show Act.put _ (some 9) _ = _
    simp only [Act.put, List.setIfInBounds_toArray, List.set_cons_zero, List.set_cons_succ, i64_w, i32_w]
    rfl
  refine one_ (i := 3) (N := some 11) #[true, true, true, true, false, false] rfl rfl (by kernel_rfl) (by decide) (fun K hK => ?_)
  refine goes_ Try.func18 (by kernel_rfl) rfl #[.agg #[.bool a1_0, .string a1_1, .slice A1_2 l1_2.length c1_2, .bool a1_3, .string a1_4, .bool a1_5, .string a1_6, .bool a1_7, .string a1_8, .bool a1_9, .string a1_10, .bool a1_11, .string a1_12, .bool a1_13, .string a1_14, .slice A1_15 l1_15.length c1_15, .slice A1_16 l1_16.length c1_16]] (by rfl) rfl rfl (by (try simp only [List.map_toArray, List.map_cons, List.map_nil]); first | done | rfl | (simp only [List.length_drop, List.length_take]; rfl)) ?_
  with_reducible refine (spec_pypiPlace.calls a1_0 a1_1 _ _ l1_2 a1_3 a1_4 a1_5 a1_6 a1_7 a1_8 a1_9 a1_10 a1_11 a1_12 a1_13 a1_14 _ _ l1_15 _ _ l1_16 t181 _ ?side1 ?side2 ?side3 ?side4 ?side5 ?side6 A4.out).mono ?_
  (case side1 => repeat (first | exact (Kd.C_below HR1_2.out HB.out) | (with_reducible refine Kd.C_alloc ?_ _) | (with_reducible refine Kd.C_drewN ?_ _) | (with_reducible refine Kd.C_drew ?_)))
  (case side2 => exact HC1_2.out)
  (case side3 => repeat (first | exact (Kd.C_below HR1_15.out HB.out) | (with_reducible refine Kd.C_alloc ?_ _) | (with_reducible refine Kd.C_drewN ?_ _) | (with_reducible refine Kd.C_drew ?_)))
  (case side4 => exact HC1_15.out)
  (case side5 => repeat (first | exact (Kd.C_below HR1_16.out HB.out) | (with_reducible refine Kd.C_alloc ?_ _) | (with_reducible refine Kd.C_drewN ?_ _) | (with_reducible refine Kd.C_drew ?_)))
  (case side6 => exact HC1_16.out)
  rintro e w10 ⟨rfl, hb⟩
  refine ⟨_, rfl, ?_⟩
  have n0_ := Aside0.mk (blk_below (g := gb178) (o := .cells #[.bool a0_0, .string a0_1, .slice A0_2 l0_2.length c0_2, .bool a0_3, .string a0_4, .bool a0_5, .string a0_6, .bool a0_7, .string a0_8, .bool a0_9, .string a0_10, .bool a0_11, .string a0_12, .bool a0_13, .string a0_14, .slice A0_15 l0_15.length c0_15, .slice A0_16 l0_16.length c0_16] 29 (0, 0)) (by (with_reducible repeat (first | refine blk_drewN ?_ _ | refine blk_drew ?_ | refine blk_alloc ?_ _)); exact BK178.out) hb)
  have n1_ := Aside0.mk (blk_below (g := gb179) (o := .cells #[.bool a1_0, .string a1_1, .slice A1_2 l1_2.length c1_2, .bool a1_3, .string a1_4, .bool a1_5, .string a1_6, .bool a1_7, .string a1_8, .bool a1_9, .string a1_10, .bool a1_11, .string a1_12, .bool a1_13, .string a1_14, .slice A1_15 l1_15.length c1_15, .slice A1_16 l1_16.length c1_16] 29 (0, 0)) (by (with_reducible repeat (first | refine blk_drewN ?_ _ | refine blk_drew ?_ | refine blk_alloc ?_ _)); exact BK179.out) hb)
  have n2_ := Aside0.mk (below_step (by repeat (first | (with_reducible first | exact HB.out | apply below_alloc | apply pw_below_drewN | apply below_drew1 | refine below_set ?_ GE178.out | refine below_set ?_ GE179.out) | exact HB.out)) hb)
  clear BK178
  clear BK179
  clear HB
  have BK178 := n0_
  have BK179 := n1_
  have HB := n2_
  clear n0_ n1_ n2_
  (try clear hb)
  (try clear hb2)
  (try clear hk)
  (try clear hi)
  refine hK.out _ _ ⟨(blk_cell BK178.out 0).trans rfl, (blk_cell BK178.out 1).trans rfl, (blk_cell BK178.out 2).trans rfl, (blk_cell BK178.out 3).trans rfl, (blk_cell BK178.out 4).trans rfl, (blk_cell BK178.out 5).trans rfl, (blk_cell BK178.out 6).trans rfl, (blk_cell BK178.out 7).trans rfl, (blk_cell BK178.out 8).trans rfl, (blk_cell BK178.out 9).trans rfl, (blk_cell BK178.out 10).trans rfl, (blk_cell BK178.out 11).trans rfl, (blk_cell BK178.out 12).trans rfl, (blk_cell BK178.out 13).trans rfl, (blk_cell BK178.out 14).trans rfl, (blk_cell BK178.out 15).trans rfl, (blk_cell BK178.out 16).trans rfl, (blk_cell BK179.out 0).trans rfl, (blk_cell BK179.out 1).trans rfl, (blk_cell BK179.out 2).trans rfl, (blk_cell BK179.out 3).trans rfl, (blk_cell BK179.out 4).trans rfl, (blk_cell BK179.out 5).trans rfl, (blk_cell BK179.out 6).trans rfl, (blk_cell BK179.out 7).trans rfl, (blk_cell BK179.out 8).trans rfl, (blk_cell BK179.out 9).trans rfl, (blk_cell BK179.out 10).trans rfl, (blk_cell BK179.out 11).trans rfl, (blk_cell BK179.out 12).trans rfl, (blk_cell BK179.out 13).trans rfl, (blk_cell BK179.out 14).trans rfl, (blk_cell BK179.out 15).trans rfl, (blk_cell BK179.out 16).trans rfl⟩ (fun hHeld => ?_)
  clear hK K
  refine norm_ (a' := ?_) ?_ ?_
  rotate_left
  · show Act.put _ (some 11) _ = _
    simp only [Act.put, List.setIfInBounds_toArray, List.set_cons_zero, List.set_cons_succ, i64_w, i32_w]
    rfl
  refine pure_ (i := 4) (N := some 5) (v := ?_) (a' := ?_) #[true, true, true, true, true, false] rfl rfl (by kernel_rfl) (fun _ _ _ h => h) (Or.inl ⟨by rfl, ?_⟩) ?_ ?_
  rotate_left
  · intro w'
    go_simp
    with_reducible rfl
  rotate_left
  · simp only [Act.put, List.setIfInBounds_toArray, List.set_cons_zero, List.set_cons_succ, i64_w, i32_w]
    rfl
  refine pure_ (i := 5) (N := some 6) (v := ?_) (a' := ?_) #[true, true, true, true, true, true] rfl rfl (by kernel_rfl) (fun _ _ _ h => h) (Or.inl ⟨by rfl, ?_⟩) ?_ ?_
  rotate_left
  · intro w'
    go_simp
    with_reducible rfl
  rotate_left
  · simp only [Act.put, List.setIfInBounds_toArray, List.set_cons_zero, List.set_cons_succ, i64_w, i32_w]
    rfl
  refine done_ (by kernel_rfl) ?_
  go_upto_region 2 with (fail)
  go_cut [18] (fun v18 wc => ∃ (kq : Nat) (x18_4 : Bool), v18 = .bool x18_4 ∧ Aside0 (spec_PyPIPre.j0 kq t180 t181 x18_4 a0_0 a0_1 l0_2 a0_3 a0_4 a0_5 a0_6 a0_7 a0_8 a0_9 a0_10 a0_11 a0_12 a0_13 a0_14 l0_15 l0_16 a1_0 a1_1 l1_2 a1_3 a1_4 a1_5 a1_6 a1_7 a1_8 a1_9 a1_10 a1_11 a1_12 a1_13 a1_14 l1_15 l1_16 = some r) ∧ Aside0 (kq ≤ k) ∧ Aside0 (wc.heap[gb178]? = some (.cells #[.bool a0_0, .string a0_1, (.slice A0_2 l0_2.length c0_2), .bool a0_3, .string a0_4, .bool a0_5, .string a0_6, .bool a0_7, .string a0_8, .bool a0_9, .string a0_10, .bool a0_11, .string a0_12, .bool a0_13, .string a0_14, (.slice A0_15 l0_15.length c0_15), (.slice A0_16 l0_16.length c0_16)] 29 (0, 0))) ∧ Aside0 (wc.heap[gb179]? = some (.cells #[.bool a1_0, .string a1_1, (.slice A1_2 l1_2.length c1_2), .bool a1_3, .string a1_4, .bool a1_5, .string a1_6, .bool a1_7, .string a1_8, .bool a1_9, .string a1_10, .bool a1_11, .string a1_12, .bool a1_13, .string a1_14, (.slice A1_15 l1_15.length c1_15), (.slice A1_16 l1_16.length c1_16)] 29 (0, 0))) ∧ Aside0 (Below w.heap.size w wc))
  case first =>
    have H := HC5.out
    clear HC5
    by_cases c11 : t180 = t181
    · rw [if_pos c11] at H
      have c11b0 : (t180 == t181) = true := beq_iff_eq.mpr c11
      have c11b1 : (t180 != t181) = false := bne_eq_false_iff_eq.mpr c11
      clear c11
      (first | rw [c11b0] | (simp only [i64_w, i32_w]; rw [c11b0]) | skip)
      have H' := Aside0.mk H
      clear H
      go_wp2
      go_meet
      case rel => exact ⟨_, ((t180 != 0)), (by first | rfl | (simp; done) | (simp [*]; done)), H', ⟨by first | omega | exact Nat.le_refl _⟩, ⟨by (with_reducible repeat (first | refine blk_drewN ?_ _ | refine blk_drew ?_ | refine blk_alloc ?_ _)); exact BK178.out⟩, ⟨by (with_reducible repeat (first | refine blk_drewN ?_ _ | refine blk_drew ?_ | refine blk_alloc ?_ _)); exact BK179.out⟩, ⟨by repeat (first | (with_reducible first | exact HB.out | apply below_alloc | apply pw_below_drewN | apply below_drew1 | refine below_set ?_ GE178.out | refine below_set ?_ GE179.out) | exact HB.out)⟩⟩
    · rw [if_neg c11] at H
      have c11b0 : (t180 == t181) = false := beq_eq_false_iff_ne.mpr c11
      have c11b1 : (t180 != t181) = true := bne_iff_ne.mpr c11
      (first | rw [c11b0] | (simp only [i64_w, i32_w]; rw [c11b0]) | skip)
      have H' := Aside0.mk H
      clear H
      go_wp2
      go_meet
      case rel => exact ⟨_, (true), (by first | rfl | (simp; done) | (simp [*]; done)), H', ⟨by first | omega | exact Nat.le_refl _⟩, ⟨by (with_reducible repeat (first | refine blk_drewN ?_ _ | refine blk_drew ?_ | refine blk_alloc ?_ _)); exact BK178.out⟩, ⟨by (with_reducible repeat (first | refine blk_drewN ?_ _ | refine blk_drew ?_ | refine blk_alloc ?_ _)); exact BK179.out⟩, ⟨by repeat (first | (with_reducible first | exact HB.out | apply below_alloc | apply pw_below_drewN | apply below_drew1 | refine below_set ?_ GE178.out | refine below_set ?_ GE179.out) | exact HB.out)⟩⟩
  case rest =>
    clear HC5
    try clear c1
    try clear p2
    try clear c7
    try clear c11
    try clear c11b0
    try clear c11b1
    obtain ⟨kq, x18_4, rfl, HA, HJ4, BK178, BK179, HB⟩ := hcut
    cases kq with
    | zero => exact absurd HA.out (by simp [spec_PyPIPre.j0])
    | succ kj4 =>
      have H := HA.out
      clear HA
      simp only [spec_PyPIPre.j0] at H
      by_cases c12 : x18_4 = true
      · subst c12
        have H1 : ((spec_orderInts.f t180 t181).bind fun t182 => (some t182)) = some r := by rw [if_pos rfl] at H; exact H
        clear H
        have H := H1
        clear H1
        replace H := Option.bind_eq_some_iff.mp H
        obtain ⟨t182, A130, H⟩ := H
        replace H : (some t182) = some r := H
        have A13 := Aside0.mk A130
        clear A130
        obtain rfl := Option.some.inj H
        go_wp2_with (first | ((with_reducible refine gate_callee (f := 19) rfl ?_); refine goesL_ (some 21) rfl rfl Try.func19 (by kernel_rfl) rfl #[.int .i64 t180, .int .i64 t181] rfl (by (try simp only [List.map_toArray, List.map_cons, List.map_nil]); first | done | rfl | (simp only [List.length_drop, List.length_take]; rfl)) ?_; (with_reducible refine (spec_orderInts.calls t180 t181 t182 _ A13.out).mono ?_); rintro e w' ⟨rfl, ⟨nd, rfl⟩⟩; refine ⟨_, rfl, ?_⟩))
        go_ret
        exact ⟨by first | rfl | (simp [errW_none, errW_some] <;> rfl) | (simp [*, errW_none, errW_some] <;> rfl), by repeat (first | (with_reducible first | exact HB.out | apply below_alloc | apply pw_below_drewN | apply below_drew1 | refine below_set ?_ GE178.out | refine below_set ?_ GE179.out) | exact HB.out)⟩
      · replace c12 := Bool.eq_false_iff.mpr c12
        subst c12
        have H1 : (if 0 ≤ 1 then (if 1 ≤ (a0_4.size : Int) then (if 1 ≤ (a1_4.size : Int) then ((spec_order.f (a0_4.extract 0 1) (a1_4.extract 0 1)).bind fun t183 => (if t183 = 0 then ((spec_intOrder.f kj4 a0_5 a0_6 a1_5 a1_6).bind fun t184 => (some t184)) else (some t183))) else (none)) else (none)) else (none)) = some r := by rw [if_neg (show ¬ (false = true) by decide)] at H; exact H
        clear H
        have H := H1
        clear H1
        by_cases c14 : 0 ≤ 1
        · rw [if_pos c14] at H
          have c14b0 := eq_true c14
          have c14b1 : decide (0 ≤ 1) = true := decide_eq_true c14
          clear c14
          by_cases c15 : 1 ≤ (a0_4.size : Int)
          · rw [if_pos c15] at H
            have c15b0 := eq_true c15
            have c15b1 : decide (1 ≤ (a0_4.size : Int)) = true := decide_eq_true c15
            clear c15
            have c16b0 := eq_true (of_decide_eq_true (by first | (with_reducible assumption) | assumption) : 0 ≤ 1)
            by_cases c17 : 1 ≤ (a1_4.size : Int)
            · rw [if_pos c17] at H
              have c17b0 := eq_true c17
              have c17b1 : decide (1 ≤ (a1_4.size : Int)) = true := decide_eq_true c17
              clear c17
              replace H := Option.bind_eq_some_iff.mp H
              obtain ⟨t183, A180, H⟩ := H
              replace H : (if t183 = 0 then ((spec_intOrder.f kj4 a0_5 a0_6 a1_5 a1_6).bind fun t184 => (some t184)) else (some t183)) = some r := H
              have A18 := Aside0.mk A180
              clear A180
              by_cases c19 : t183 = 0
              · rw [if_pos c19] at H
                have c19b0 : (t183 == 0) = true := beq_iff_eq.mpr c19
                have c19b1 : (t183 != 0) = false := bne_eq_false_iff_eq.mpr c19
                clear c19
                replace H := Option.bind_eq_some_iff.mp H
                obtain ⟨t184, A200, H⟩ := H
                replace H : (some t184) = some r := H
                have A20 := Aside0.mk A200
                clear A200
                obtain rfl := Option.some.inj H
                try go_wp2
                have n0_ := Aside0.mk (blk_drew BK178.out)
                have n1_ := Aside0.mk (blk_drew BK179.out)
                have n2_ := Aside0.mk (below_drew1 HB.out)
                clear BK178
                clear BK179
                clear HB
                have BK178 := n0_
                have BK179 := n1_
                have HB := n2_
                clear n0_ n1_ n2_
                refine start_ (n := 10) (S := fun w' => w'.cell? ⟨gb178, 0, none⟩ = some (.bool a0_0) ∧ w'.cell? ⟨gb178, 1, none⟩ = some (.string a0_1) ∧ w'.cell? ⟨gb178, 2, none⟩ = some (.slice A0_2 l0_2.length c0_2) ∧ w'.cell? ⟨gb178, 3, none⟩ = some (.bool a0_3) ∧ w'.cell? ⟨gb178, 4, none⟩ = some (.string a0_4) ∧ w'.cell? ⟨gb178, 5, none⟩ = some (.bool a0_5) ∧ w'.cell? ⟨gb178, 6, none⟩ = some (.string a0_6) ∧ w'.cell? ⟨gb178, 7, none⟩ = some (.bool a0_7) ∧ w'.cell? ⟨gb178, 8, none⟩ = some (.string a0_8) ∧ w'.cell? ⟨gb178, 9, none⟩ = some (.bool a0_9) ∧ w'.cell? ⟨gb178, 10, none⟩ = some (.string a0_10) ∧ w'.cell? ⟨gb178, 11, none⟩ = some (.bool a0_11) ∧ w'.cell? ⟨gb178, 12, none⟩ = some (.string a0_12) ∧ w'.cell? ⟨gb178, 13, none⟩ = some (.bool a0_13) ∧ w'.cell? ⟨gb178, 14, none⟩ = some (.string a0_14) ∧ w'.cell? ⟨gb178, 15, none⟩ = some (.slice A0_15 l0_15.length c0_15) ∧ w'.cell? ⟨gb178, 16, none⟩ = some (.slice A0_16 l0_16.length c0_16) ∧ w'.cell? ⟨gb179, 0, none⟩ = some (.bool a1_0) ∧ w'.cell? ⟨gb179, 1, none⟩ = some (.string a1_1) ∧ w'.cell? ⟨gb179, 2, none⟩ = some (.slice A1_2 l1_2.length c1_2) ∧ w'.cell? ⟨gb179, 3, none⟩ = some (.bool a1_3) ∧ w'.cell? ⟨gb179, 4, none⟩ = some (.string a1_4) ∧ w'.cell? ⟨gb179, 5, none⟩ = some (.bool a1_5) ∧ w'.cell? ⟨gb179, 6, none⟩ = some (.string a1_6) ∧ w'.cell? ⟨gb179, 7, none⟩ = some (.bool a1_7) ∧ w'.cell? ⟨gb179, 8, none⟩ = some (.string a1_8) ∧ w'.cell? ⟨gb179, 9, none⟩ = some (.bool a1_9) ∧ w'.cell? ⟨gb179, 10, none⟩ = some (.string a1_10) ∧ w'.cell? ⟨gb179, 11, none⟩ = some (.bool a1_11) ∧ w'.cell? ⟨gb179, 12, none⟩ = some (.string a1_12) ∧ w'.cell? ⟨gb179, 13, none⟩ = some (.bool a1_13) ∧ w'.cell? ⟨gb179, 14, none⟩ = some (.string a1_14) ∧ w'.cell? ⟨gb179, 15, none⟩ = some (.slice A1_15 l1_15.length c1_15) ∧ w'.cell? ⟨gb179, 16, none⟩ = some (.slice A1_16 l1_16.length c1_16)) (ds := []) #[false, false, false, false, false, false, false, false, false, false] (by kernel_rfl) rfl rfl ⟨(blk_cell BK178.out 0).trans rfl, (blk_cell BK178.out 1).trans rfl, (blk_cell BK178.out 2).trans rfl, (blk_cell BK178.out 3).trans rfl, (blk_cell BK178.out 4).trans rfl, (blk_cell BK178.out 5).trans rfl, (blk_cell BK178.out 6).trans rfl, (blk_cell BK178.out 7).trans rfl, (blk_cell BK178.out 8).trans rfl, (blk_cell BK178.out 9).trans rfl, (blk_cell BK178.out 10).trans rfl, (blk_cell BK178.out 11).trans rfl, (blk_cell BK178.out 12).trans rfl, (blk_cell BK178.out 13).trans rfl, (blk_cell BK178.out 14).trans rfl, (blk_cell BK178.out 15).trans rfl, (blk_cell BK178.out 16).trans rfl, (blk_cell BK179.out 0).trans rfl, (blk_cell BK179.out 1).trans rfl, (blk_cell BK179.out 2).trans rfl, (blk_cell BK179.out 3).trans rfl, (blk_cell BK179.out 4).trans rfl, (blk_cell BK179.out 5).trans rfl, (blk_cell BK179.out 6).trans rfl, (blk_cell BK179.out 7).trans rfl, (blk_cell BK179.out 8).trans rfl, (blk_cell BK179.out 9).trans rfl, (blk_cell BK179.out 10).trans rfl, (blk_cell BK179.out 11).trans rfl, (blk_cell BK179.out 12).trans rfl, (blk_cell BK179.out 13).trans rfl, (blk_cell BK179.out 14).trans rfl, (blk_cell BK179.out 15).trans rfl, (blk_cell BK179.out 16).trans rfl⟩ (fun hHeld => ?_); refine with_tabW spec_PyPIPre.tab4 spec_PyPIPre.bits4 (fun HT_ HW_ => ?_)
                generalize wc.drew = w21 at BK178 BK179 HB hHeld ⊢
                refine pure_ (i := 0) (N := some 22) (v := ?_) (a' := ?_) #[true, false, false, false, false, false, false, false, false, false] rfl rfl (any_of HT_.out (by kernel_rfl)) (fun _ _ _ h => h) (Or.inl ⟨by rfl, ?_⟩) ?_ ?_
                rotate_left
                · intro w'
                  go_simp
                  with_reducible rfl
                rotate_left
                · simp only [Act.put, List.setIfInBounds_toArray, List.set_cons_zero, List.set_cons_succ, i64_w, i32_w]
                  rfl
                refine pure_ (i := 1) (N := some 23) (v := ?_) (a' := ?_) #[true, true, false, false, false, false, false, false, false, false] rfl rfl (any_of HT_.out (by kernel_rfl)) (fun _ _ _ h => h) (Or.inl ⟨by rfl, ?_⟩) ?_ ?_
                rotate_left
                · intro w'
                  go_simp
                  with_reducible rfl
                rotate_left
                · simp only [Act.put, List.setIfInBounds_toArray, List.set_cons_zero, List.set_cons_succ, i64_w, i32_w]
                  rfl
                refine pure_ (i := 4) (N := some 26) (v := ?_) (a' := ?_) #[true, true, false, false, true, false, false, false, false, false] rfl rfl (any_of HT_.out (by kernel_rfl)) (fun _ _ _ h => h) (Or.inl ⟨by rfl, ?_⟩) ?_ ?_
                rotate_left
                · intro w'
                  go_simp
                  with_reducible rfl
                rotate_left
                · simp only [Act.put, List.setIfInBounds_toArray, List.set_cons_zero, List.set_cons_succ, i64_w, i32_w]
                  rfl
                refine pure_ (i := 5) (N := some 27) (v := ?_) (a' := ?_) #[true, true, false, false, true, true, false, false, false, false] rfl rfl (any_of HT_.out (by kernel_rfl)) (fun _ _ _ h => h) (Or.inl ⟨by rfl, ?_⟩) ?_ ?_
                rotate_left
                · intro w'
                  go_simp
                  with_reducible rfl
                rotate_left
                · simp only [Act.put, List.setIfInBounds_toArray, List.set_cons_zero, List.set_cons_succ, i64_w, i32_w]
                  rfl
                refine take_ (i := 2) (N := some 24) (v := ?_) (a' := ?_) #[true, true, true, false, true, true, false, false, false, false] rfl rfl (take_ofW HT_.out HW_.out (by kernel_rfl)) (fun _ _ _ h => h) (Or.inl ⟨by rfl, ?_⟩) hHeld ?_ ?_
                rotate_left
                · rintro w' ⟨s0, s1, s2, s3, s4, s5, s6, s7, s8, s9, s10, s11, s12, s13, s14, s15, s16, s17, s18, s19, s20, s21, s22, s23, s24, s25, s26, s27, s28, s29, s30, s31, s32, s33⟩
                  go_simp
                  with_reducible rfl
                rotate_left
                · simp only [Act.put, List.setIfInBounds_toArray, List.set_cons_zero, List.set_cons_succ, i64_w, i32_w]
                  rfl
                refine pure_ (i := 3) (N := some 25) (v := ?_) (a' := ?_) #[true, true, true, true, true, true, false, false, false, false] rfl rfl (any_of HT_.out (by kernel_rfl)) (fun _ _ _ h => h) (Or.inl ⟨by rfl, ?_⟩) ?_ ?_
                rotate_left
                · intro w'
                  go_simp
                  with_reducible rfl
                rotate_left
                · simp only [Act.put, List.setIfInBounds_toArray, List.set_cons_zero, List.set_cons_succ, i64_w, i32_w]
                  rfl
                refine take_ (i := 6) (N := some 28) (v := ?_) (a' := ?_) #[true, true, true, true, true, true, true, false, false, false] rfl rfl (take_ofW HT_.out HW_.out (by kernel_rfl)) (fun _ _ _ h => h) (Or.inl ⟨by rfl, ?_⟩) hHeld ?_ ?_
                rotate_left
                · rintro w' ⟨s0, s1, s2, s3, s4, s5, s6, s7, s8, s9, s10, s11, s12, s13, s14, s15, s16, s17, s18, s19, s20, s21, s22, s23, s24, s25, s26, s27, s28, s29, s30, s31, s32, s33⟩
                  go_simp
                  with_reducible rfl
                rotate_left
                · simp only [Act.put, List.setIfInBounds_toArray, List.set_cons_zero, List.set_cons_succ, i64_w, i32_w]
                  rfl
                refine pure_ (i := 7) (N := some 29) (v := ?_) (a' := ?_) #[true, true, true, true, true, true, true, true, false, false] rfl rfl (any_of HT_.out (by kernel_rfl)) (fun _ _ _ h => h) (Or.inl ⟨by rfl, ?_⟩) ?_ ?_
                rotate_left
                · intro w'
                  go_simp
                  with_reducible rfl
                rotate_left
                · simp only [Act.put, List.setIfInBounds_toArray, List.set_cons_zero, List.set_cons_succ, i64_w, i32_w]
                  rfl
                refine one_ (i := 8) (N := some 30) #[true, true, true, true, true, true, true, true, true, false] rfl rfl (one_of HT_.out (by kernel_rfl)) (by decide) (fun K hK => ?_)
                refine goes_ Try.func20 (by kernel_rfl) rfl #[.string (a0_4.extract 0 1), .string (a1_4.extract 0 1)] (by rfl) rfl rfl (by (try simp only [List.map_toArray, List.map_cons, List.map_nil]); first | done | rfl | (simp only [List.length_drop, List.length_take]; rfl)) ?_
                with_reducible refine (spec_order.calls (a0_4.extract 0 1) (a1_4.extract 0 1) t183 _ A18.out).mono ?_
                rintro e w' ⟨rfl, ⟨nd, rfl⟩⟩
                refine ⟨_, rfl, ?_⟩
                refine hK.out _ _ ⟨(blk_cell BK178.out 0).trans rfl, (blk_cell BK178.out 1).trans rfl, (blk_cell BK178.out 2).trans rfl, (blk_cell BK178.out 3).trans rfl, (blk_cell BK178.out 4).trans rfl, (blk_cell BK178.out 5).trans rfl, (blk_cell BK178.out 6).trans rfl, (blk_cell BK178.out 7).trans rfl, (blk_cell BK178.out 8).trans rfl, (blk_cell BK178.out 9).trans rfl, (blk_cell BK178.out 10).trans rfl, (blk_cell BK178.out 11).trans rfl, (blk_cell BK178.out 12).trans rfl, (blk_cell BK178.out 13).trans rfl, (blk_cell BK178.out 14).trans rfl, (blk_cell BK178.out 15).trans rfl, (blk_cell BK178.out 16).trans rfl, (blk_cell BK179.out 0).trans rfl, (blk_cell BK179.out 1).trans rfl, (blk_cell BK179.out 2).trans rfl, (blk_cell BK179.out 3).trans rfl, (blk_cell BK179.out 4).trans rfl, (blk_cell BK179.out 5).trans rfl, (blk_cell BK179.out 6).trans rfl, (blk_cell BK179.out 7).trans rfl, (blk_cell BK179.out 8).trans rfl, (blk_cell BK179.out 9).trans rfl, (blk_cell BK179.out 10).trans rfl, (blk_cell BK179.out 11).trans rfl, (blk_cell BK179.out 12).trans rfl, (blk_cell BK179.out 13).trans rfl, (blk_cell BK179.out 14).trans rfl, (blk_cell BK179.out 15).trans rfl, (blk_cell BK179.out 16).trans rfl⟩ (fun hHeld => ?_)
                clear hK K
                refine norm_ (a' := ?_) ?_ ?_
                rotate_left
                · show Act.put _ (some 30) _ = _
                  simp only [Act.put, List.setIfInBounds_toArray, List.set_cons_zero, List.set_cons_succ, i64_w, i32_w]
                  rfl
                refine pure_ (i := 9) (N := some 7) (v := ?_) (a' := ?_) #[true, true, true, true, true, true, true, true, true, true] rfl rfl (any_of HT_.out (by kernel_rfl)) (fun _ _ _ h => h) (Or.inl ⟨by rfl, ?_⟩) ?_ ?_
                rotate_left
                · intro w'
                  go_simp
                  with_reducible rfl
                rotate_left
                · simp only [Act.put, List.setIfInBounds_toArray, List.set_cons_zero, List.set_cons_succ, i64_w, i32_w]
                  rfl
                refine done_ (done_of HT_.out (by kernel_rfl)) ?_
                have hnb22 := NB178_179.out
                have hnc22 := NB179_178.out
                have hcz23_0 : w21.cell? ⟨gb178, 0, none⟩ = some (.bool a0_0) := (blk_cell BK178.out 0).trans rfl
                have hcz23_1 : w21.cell? ⟨gb178, 1, none⟩ = some (.string a0_1) := (blk_cell BK178.out 1).trans rfl
                have hcz23_2 : w21.cell? ⟨gb178, 2, none⟩ = some (.slice A0_2 l0_2.length c0_2) := (blk_cell BK178.out 2).trans rfl
                have hcz23_3 : w21.cell? ⟨gb178, 3, none⟩ = some (.bool a0_3) := (blk_cell BK178.out 3).trans rfl
                have hcz23_4 : w21.cell? ⟨gb178, 4, none⟩ = some (.string a0_4) := (blk_cell BK178.out 4).trans rfl
                have hcz23_5 : w21.cell? ⟨gb178, 5, none⟩ = some (.bool a0_5) := (blk_cell BK178.out 5).trans rfl
                have hcz23_6 : w21.cell? ⟨gb178, 6, none⟩ = some (.string a0_6) := (blk_cell BK178.out 6).trans rfl
                have hcz23_7 : w21.cell? ⟨gb178, 7, none⟩ = some (.bool a0_7) := (blk_cell BK178.out 7).trans rfl
                have hcz23_8 : w21.cell? ⟨gb178, 8, none⟩ = some (.string a0_8) := (blk_cell BK178.out 8).trans rfl
                have hcz23_9 : w21.cell? ⟨gb178, 9, none⟩ = some (.bool a0_9) := (blk_cell BK178.out 9).trans rfl
                have hcz23_10 : w21.cell? ⟨gb178, 10, none⟩ = some (.string a0_10) := (blk_cell BK178.out 10).trans rfl
                have hcz23_11 : w21.cell? ⟨gb178, 11, none⟩ = some (.bool a0_11) := (blk_cell BK178.out 11).trans rfl
                have hcz23_12 : w21.cell? ⟨gb178, 12, none⟩ = some (.string a0_12) := (blk_cell BK178.out 12).trans rfl
                have hcz23_13 : w21.cell? ⟨gb178, 13, none⟩ = some (.bool a0_13) := (blk_cell BK178.out 13).trans rfl
                have hcz23_14 : w21.cell? ⟨gb178, 14, none⟩ = some (.string a0_14) := (blk_cell BK178.out 14).trans rfl
                have hcz23_15 : w21.cell? ⟨gb178, 15, none⟩ = some (.slice A0_15 l0_15.length c0_15) := (blk_cell BK178.out 15).trans rfl
                have hcz23_16 : w21.cell? ⟨gb178, 16, none⟩ = some (.slice A0_16 l0_16.length c0_16) := (blk_cell BK178.out 16).trans rfl
                have hfz23_0 := blk_frozen BK178.out 0
                have hfz23_1 := blk_frozen BK178.out 1
                have hfz23_2 := blk_frozen BK178.out 2
                have hfz23_3 := blk_frozen BK178.out 3
                have hfz23_4 := blk_frozen BK178.out 4
                have hfz23_5 := blk_frozen BK178.out 5
                have hfz23_6 := blk_frozen BK178.out 6
                have hfz23_7 := blk_frozen BK178.out 7
                have hfz23_8 := blk_frozen BK178.out 8
                have hfz23_9 := blk_frozen BK178.out 9
                have hfz23_10 := blk_frozen BK178.out 10
                have hfz23_11 := blk_frozen BK178.out 11
                have hfz23_12 := blk_frozen BK178.out 12
                have hfz23_13 := blk_frozen BK178.out 13
                have hfz23_14 := blk_frozen BK178.out 14
                have hfz23_15 := blk_frozen BK178.out 15
                have hfz23_16 := blk_frozen BK178.out 16
                have hcz24_0 : w21.cell? ⟨gb179, 0, none⟩ = some (.bool a1_0) := (blk_cell BK179.out 0).trans rfl
                have hcz24_1 : w21.cell? ⟨gb179, 1, none⟩ = some (.string a1_1) := (blk_cell BK179.out 1).trans rfl
                have hcz24_2 : w21.cell? ⟨gb179, 2, none⟩ = some (.slice A1_2 l1_2.length c1_2) := (blk_cell BK179.out 2).trans rfl
                have hcz24_3 : w21.cell? ⟨gb179, 3, none⟩ = some (.bool a1_3) := (blk_cell BK179.out 3).trans rfl
                have hcz24_4 : w21.cell? ⟨gb179, 4, none⟩ = some (.string a1_4) := (blk_cell BK179.out 4).trans rfl
                have hcz24_5 : w21.cell? ⟨gb179, 5, none⟩ = some (.bool a1_5) := (blk_cell BK179.out 5).trans rfl
                have hcz24_6 : w21.cell? ⟨gb179, 6, none⟩ = some (.string a1_6) := (blk_cell BK179.out 6).trans rfl
                have hcz24_7 : w21.cell? ⟨gb179, 7, none⟩ = some (.bool a1_7) := (blk_cell BK179.out 7).trans rfl
                have hcz24_8 : w21.cell? ⟨gb179, 8, none⟩ = some (.string a1_8) := (blk_cell BK179.out 8).trans rfl
                have hcz24_9 : w21.cell? ⟨gb179, 9, none⟩ = some (.bool a1_9) := (blk_cell BK179.out 9).trans rfl
                have hcz24_10 : w21.cell? ⟨gb179, 10, none⟩ = some (.string a1_10) := (blk_cell BK179.out 10).trans rfl
                have hcz24_11 : w21.cell? ⟨gb179, 11, none⟩ = some (.bool a1_11) := (blk_cell BK179.out 11).trans rfl
                have hcz24_12 : w21.cell? ⟨gb179, 12, none⟩ = some (.string a1_12) := (blk_cell BK179.out 12).trans rfl
                have hcz24_13 : w21.cell? ⟨gb179, 13, none⟩ = some (.bool a1_13) := (blk_cell BK179.out 13).trans rfl
                have hcz24_14 : w21.cell? ⟨gb179, 14, none⟩ = some (.string a1_14) := (blk_cell BK179.out 14).trans rfl
                have hcz24_15 : w21.cell? ⟨gb179, 15, none⟩ = some (.slice A1_15 l1_15.length c1_15) := (blk_cell BK179.out 15).trans rfl
                have hcz24_16 : w21.cell? ⟨gb179, 16, none⟩ = some (.slice A1_16 l1_16.length c1_16) := (blk_cell BK179.out 16).trans rfl
                have hfz24_0 := blk_frozen BK179.out 0
                have hfz24_1 := blk_frozen BK179.out 1
                have hfz24_2 := blk_frozen BK179.out 2
                have hfz24_3 := blk_frozen BK179.out 3
                have hfz24_4 := blk_frozen BK179.out 4
                have hfz24_5 := blk_frozen BK179.out 5
                have hfz24_6 := blk_frozen BK179.out 6
                have hfz24_7 := blk_frozen BK179.out 7
                have hfz24_8 := blk_frozen BK179.out 8
                have hfz24_9 := blk_frozen BK179.out 9
                have hfz24_10 := blk_frozen BK179.out 10
                have hfz24_11 := blk_frozen BK179.out 11
                have hfz24_12 := blk_frozen BK179.out 12
                have hfz24_13 := blk_frozen BK179.out 13
                have hfz24_14 := blk_frozen BK179.out 14
                have hfz24_15 := blk_frozen BK179.out 15
                have hfz24_16 := blk_frozen BK179.out 16
                try go_wp2_with (first | ((with_reducible refine gate_callee (f := 21) rfl ?_); refine goesL_ (some 40) rfl rfl Try.func21 (by kernel_rfl) rfl #[.agg #[.bool a0_5, .string a0_6], .agg #[.bool a1_5, .string a1_6]] rfl (by (try simp only [List.map_toArray, List.map_cons, List.map_nil]); first | done | rfl | (simp only [List.length_drop, List.length_take]; rfl)) ?_; (with_reducible refine (spec_intOrder.calls kj4 a0_5 a0_6 a1_5 a1_6 t184 _ A20.out).mono ?_); rintro e w25 ⟨rfl, hb⟩; refine ⟨_, rfl, ?_⟩; have n0_ := Aside0.mk (blk_below (g := gb178) (o := .cells #[.bool a0_0, .string a0_1, .slice A0_2 l0_2.length c0_2, .bool a0_3, .string a0_4, .bool a0_5, .string a0_6, .bool a0_7, .string a0_8, .bool a0_9, .string a0_10, .bool a0_11, .string a0_12, .bool a0_13, .string a0_14, .slice A0_15 l0_15.length c0_15, .slice A0_16 l0_16.length c0_16] 29 (0, 0)) (by (with_reducible repeat (first | refine blk_drewN ?_ _ | refine blk_drew ?_ | refine blk_alloc ?_ _)); exact BK178.out) hb); have n1_ := Aside0.mk (blk_below (g := gb179) (o := .cells #[.bool a1_0, .string a1_1, .slice A1_2 l1_2.length c1_2, .bool a1_3, .string a1_4, .bool a1_5, .string a1_6, .bool a1_7, .string a1_8, .bool a1_9, .string a1_10, .bool a1_11, .string a1_12, .bool a1_13, .string a1_14, .slice A1_15 l1_15.length c1_15, .slice A1_16 l1_16.length c1_16] 29 (0, 0)) (by (with_reducible repeat (first | refine blk_drewN ?_ _ | refine blk_drew ?_ | refine blk_alloc ?_ _)); exact BK179.out) hb); have n2_ := Aside0.mk (below_step (by repeat (first | (with_reducible first | exact HB.out | apply below_alloc | apply pw_below_drewN | apply below_drew1 | refine below_set ?_ GE178.out | refine below_set ?_ GE179.out) | exact HB.out)) hb); clear BK178; clear BK179; clear HB; have BK178 := n0_; have BK179 := n1_; have HB := n2_; clear n0_ n1_ n2_; (try clear hb); (try clear hb2); (try clear hk); (try clear hi)))
                go_ret
                exact ⟨by first | rfl | (simp [errW_none, errW_some] <;> rfl) | (simp [*, errW_none, errW_some] <;> rfl), by repeat (first | (with_reducible first | exact HB.out | apply below_alloc | apply pw_below_drewN | apply below_drew1 | refine below_set ?_ GE178.out | refine below_set ?_ GE179.out) | exact HB.out)⟩
              · rw [if_neg c19] at H
                have c19b0 : (t183 == 0) = false := beq_eq_false_iff_ne.mpr c19
                have c19b1 : (t183 != 0) = true := bne_iff_ne.mpr c19
                obtain rfl := Option.some.inj H
                try go_wp2
                have n0_ := Aside0.mk (blk_drew BK178.out)
                have n1_ := Aside0.mk (blk_drew BK179.out)
                have n2_ := Aside0.mk (below_drew1 HB.out)
                clear BK178
                clear BK179
                clear HB
                have BK178 := n0_
                have BK179 := n1_
                have HB := n2_
                clear n0_ n1_ n2_
                refine start_ (n := 10) (S := fun w' => w'.cell? ⟨gb178, 0, none⟩ = some (.bool a0_0) ∧ w'.cell? ⟨gb178, 1, none⟩ = some (.string a0_1) ∧ w'.cell? ⟨gb178, 2, none⟩ = some (.slice A0_2 l0_2.length c0_2) ∧ w'.cell? ⟨gb178, 3, none⟩ = some (.bool a0_3) ∧ w'.cell? ⟨gb178, 4, none⟩ = some (.string a0_4) ∧ w'.cell? ⟨gb178, 5, none⟩ = some (.bool a0_5) ∧ w'.cell? ⟨gb178, 6, none⟩ = some (.string a0_6) ∧ w'.cell? ⟨gb178, 7, none⟩ = some (.bool a0_7) ∧ w'.cell? ⟨gb178, 8, none⟩ = some (.string a0_8) ∧ w'.cell? ⟨gb178, 9, none⟩ = some (.bool a0_9) ∧ w'.cell? ⟨gb178, 10, none⟩ = some (.string a0_10) ∧ w'.cell? ⟨gb178, 11, none⟩ = some (.bool a0_11) ∧ w'.cell? ⟨gb178, 12, none⟩ = some (.string a0_12) ∧ w'.cell? ⟨gb178, 13, none⟩ = some (.bool a0_13) ∧ w'.cell? ⟨gb178, 14, none⟩ = some (.string a0_14) ∧ w'.cell? ⟨gb178, 15, none⟩ = some (.slice A0_15 l0_15.length c0_15) ∧ w'.cell? ⟨gb178, 16, none⟩ = some (.slice A0_16 l0_16.length c0_16) ∧ w'.cell? ⟨gb179, 0, none⟩ = some (.bool a1_0) ∧ w'.cell? ⟨gb179, 1, none⟩ = some (.string a1_1) ∧ w'.cell? ⟨gb179, 2, none⟩ = some (.slice A1_2 l1_2.length c1_2) ∧ w'.cell? ⟨gb179, 3, none⟩ = some (.bool a1_3) ∧ w'.cell? ⟨gb179, 4, none⟩ = some (.string a1_4) ∧ w'.cell? ⟨gb179, 5, none⟩ = some (.bool a1_5) ∧ w'.cell? ⟨gb179, 6, none⟩ = some (.string a1_6) ∧ w'.cell? ⟨gb179, 7, none⟩ = some (.bool a1_7) ∧ w'.cell? ⟨gb179, 8, none⟩ = some (.string a1_8) ∧ w'.cell? ⟨gb179, 9, none⟩ = some (.bool a1_9) ∧ w'.cell? ⟨gb179, 10, none⟩ = some (.string a1_10) ∧ w'.cell? ⟨gb179, 11, none⟩ = some (.bool a1_11) ∧ w'.cell? ⟨gb179, 12, none⟩ = some (.string a1_12) ∧ w'.cell? ⟨gb179, 13, none⟩ = some (.bool a1_13) ∧ w'.cell? ⟨gb179, 14, none⟩ = some (.string a1_14) ∧ w'.cell? ⟨gb179, 15, none⟩ = some (.slice A1_15 l1_15.length c1_15) ∧ w'.cell? ⟨gb179, 16, none⟩ = some (.slice A1_16 l1_16.length c1_16)) (ds := []) #[false, false, false, false, false, false, false, false, false, false] (by kernel_rfl) rfl rfl ⟨(blk_cell BK178.out 0).trans rfl, (blk_cell BK178.out 1).trans rfl, (blk_cell BK178.out 2).trans rfl, (blk_cell BK178.out 3).trans rfl, (blk_cell BK178.out 4).trans rfl, (blk_cell BK178.out 5).trans rfl, (blk_cell BK178.out 6).trans rfl, (blk_cell BK178.out 7).trans rfl, (blk_cell BK178.out 8).trans rfl, (blk_cell BK178.out 9).trans rfl, (blk_cell BK178.out 10).trans rfl, (blk_cell BK178.out 11).trans rfl, (blk_cell BK178.out 12).trans rfl, (blk_cell BK178.out 13).trans rfl, (blk_cell BK178.out 14).trans rfl, (blk_cell BK178.out 15).trans rfl, (blk_cell BK178.out 16).trans rfl, (blk_cell BK179.out 0).trans rfl, (blk_cell BK179.out 1).trans rfl, (blk_cell BK179.out 2).trans rfl, (blk_cell BK179.out 3).trans rfl, (blk_cell BK179.out 4).trans rfl, (blk_cell BK179.out 5).trans rfl, (blk_cell BK179.out 6).trans rfl, (blk_cell BK179.out 7).trans rfl, (blk_cell BK179.out 8).trans rfl, (blk_cell BK179.out 9).trans rfl, (blk_cell BK179.out 10).trans rfl, (blk_cell BK179.out 11).trans rfl, (blk_cell BK179.out 12).trans rfl, (blk_cell BK179.out 13).trans rfl, (blk_cell BK179.out 14).trans rfl, (blk_cell BK179.out 15).trans rfl, (blk_cell BK179.out 16).trans rfl⟩ (fun hHeld => ?_); refine with_tabW spec_PyPIPre.tab4 spec_PyPIPre.bits4 (fun HT_ HW_ => ?_)
                generalize wc.drew = w26 at BK178 BK179 HB hHeld ⊢
                refine pure_ (i := 0) (N := some 22) (v := ?_) (a' := ?_) #[true, false, false, false, false, false, false, false, false, false] rfl rfl (any_of HT_.out (by kernel_rfl)) (fun _ _ _ h => h) (Or.inl ⟨by rfl, ?_⟩) ?_ ?_
                rotate_left
                · intro w'
                  go_simp
                  with_reducible rfl
                rotate_left
                · simp only [Act.put, List.setIfInBounds_toArray, List.set_cons_zero, List.set_cons_succ, i64_w, i32_w]
                  rfl
                refine pure_ (i := 1) (N := some 23) (v := ?_) (a' := ?_) #[true, true, false, false, false, false, false, false, false, false] rfl rfl (any_of HT_.out (by kernel_rfl)) (fun _ _ _ h => h) (Or.inl ⟨by rfl, ?_⟩) ?_ ?_
                rotate_left
                · intro w'
                  go_simp
                  with_reducible rfl
                rotate_left
                · simp only [Act.put, List.setIfInBounds_toArray, List.set_cons_zero, List.set_cons_succ, i64_w, i32_w]
                  rfl
                refine pure_ (i := 4) (N := some 26) (v := ?_) (a' := ?_) #[true, true, false, false, true, false, false, false, false, false] rfl rfl (any_of HT_.out (by kernel_rfl)) (fun _ _ _ h => h) (Or.inl ⟨by rfl, ?_⟩) ?_ ?_
                rotate_left
                · intro w'
                  go_simp
                  with_reducible rfl
                rotate_left
                · simp only [Act.put, List.setIfInBounds_toArray, List.set_cons_zero, List.set_cons_succ, i64_w, i32_w]
                  rfl
                refine pure_ (i := 5) (N := some 27) (v := ?_) (a' := ?_) #[true, true, false, false, true, true, false, false, false, false] rfl rfl (any_of HT_.out (by kernel_rfl)) (fun _ _ _ h => h) (Or.inl ⟨by rfl, ?_⟩) ?_ ?_
                rotate_left
                · intro w'
                  go_simp
                  with_reducible rfl
                rotate_left
                · simp only [Act.put, List.setIfInBounds_toArray, List.set_cons_zero, List.set_cons_succ, i64_w, i32_w]
                  rfl
                refine take_ (i := 2) (N := some 24) (v := ?_) (a' := ?_) #[true, true, true, false, true, true, false, false, false, false] rfl rfl (take_ofW HT_.out HW_.out (by kernel_rfl)) (fun _ _ _ h => h) (Or.inl ⟨by rfl, ?_⟩) hHeld ?_ ?_
                rotate_left
                · rintro w' ⟨s0, s1, s2, s3, s4, s5, s6, s7, s8, s9, s10, s11, s12, s13, s14, s15, s16, s17, s18, s19, s20, s21, s22, s23, s24, s25, s26, s27, s28, s29, s30, s31, s32, s33⟩
                  go_simp
                  with_reducible rfl
                rotate_left
                · simp only [Act.put, List.setIfInBounds_toArray, List.set_cons_zero, List.set_cons_succ, i64_w, i32_w]
                  rfl
                refine pure_ (i := 3) (N := some 25) (v := ?_) (a' := ?_) #[true, true, true, true, true, true, false, false, false, false] rfl rfl (any_of HT_.out (by kernel_rfl)) (fun _ _ _ h => h) (Or.inl ⟨by rfl, ?_⟩) ?_ ?_
                rotate_left
                · intro w'
                  go_simp
                  with_reducible rfl
                rotate_left
                · simp only [Act.put, List.setIfInBounds_toArray, List.set_cons_zero, List.set_cons_succ, i64_w, i32_w]
                  rfl
                refine take_ (i := 6) (N := some 28) (v := ?_) (a' := ?_) #[true, true, true, true, true, true, true, false, false, false] rfl rfl (take_ofW HT_.out HW_.out (by kernel_rfl)) (fun _ _ _ h => h) (Or.inl ⟨by rfl, ?_⟩) hHeld ?_ ?_
                rotate_left
                · rintro w' ⟨s0, s1, s2, s3, s4, s5, s6, s7, s8, s9, s10, s11, s12, s13, s14, s15, s16, s17, s18, s19, s20, s21, s22, s23, s24, s25, s26, s27, s28, s29, s30, s31, s32, s33⟩
                  go_simp
                  with_reducible rfl
                rotate_left
                · simp only [Act.put, List.setIfInBounds_toArray, List.set_cons_zero, List.set_cons_succ, i64_w, i32_w]
                  rfl
                refine pure_ (i := 7) (N := some 29) (v := ?_) (a' := ?_) #[true, true, true, true, true, true, true, true, false, false] rfl rfl (any_of HT_.out (by kernel_rfl)) (fun _ _ _ h => h) (Or.inl ⟨by rfl, ?_⟩) ?_ ?_
                rotate_left
                · intro w'
                  go_simp
                  with_reducible rfl
                rotate_left
                · simp only [Act.put, List.setIfInBounds_toArray, List.set_cons_zero, List.set_cons_succ, i64_w, i32_w]
                  rfl
                refine one_ (i := 8) (N := some 30) #[true, true, true, true, true, true, true, true, true, false] rfl rfl (one_of HT_.out (by kernel_rfl)) (by decide) (fun K hK => ?_)
                refine goes_ Try.func20 (by kernel_rfl) rfl #[.string (a0_4.extract 0 1), .string (a1_4.extract 0 1)] (by rfl) rfl rfl (by (try simp only [List.map_toArray, List.map_cons, List.map_nil]); first | done | rfl | (simp only [List.length_drop, List.length_take]; rfl)) ?_
                with_reducible refine (spec_order.calls (a0_4.extract 0 1) (a1_4.extract 0 1) t183 _ A18.out).mono ?_
                rintro e w' ⟨rfl, ⟨nd, rfl⟩⟩
                refine ⟨_, rfl, ?_⟩
                refine hK.out _ _ ⟨(blk_cell BK178.out 0).trans rfl, (blk_cell BK178.out 1).trans rfl, (blk_cell BK178.out 2).trans rfl, (blk_cell BK178.out 3).trans rfl, (blk_cell BK178.out 4).trans rfl, (blk_cell BK178.out 5).trans rfl, (blk_cell BK178.out 6).trans rfl, (blk_cell BK178.out 7).trans rfl, (blk_cell BK178.out 8).trans rfl, (blk_cell BK178.out 9).trans rfl, (blk_cell BK178.out 10).trans rfl, (blk_cell BK178.out 11).trans rfl, (blk_cell BK178.out 12).trans rfl, (blk_cell BK178.out 13).trans rfl, (blk_cell BK178.out 14).trans rfl, (blk_cell BK178.out 15).trans rfl, (blk_cell BK178.out 16).trans rfl, (blk_cell BK179.out 0).trans rfl, (blk_cell BK179.out 1).trans rfl, (blk_cell BK179.out 2).trans rfl, (blk_cell BK179.out 3).trans rfl, (blk_cell BK179.out 4).trans rfl, (blk_cell BK179.out 5).trans rfl, (blk_cell BK179.out 6).trans rfl, (blk_cell BK179.out 7).trans rfl, (blk_cell BK179.out 8).trans rfl, (blk_cell BK179.out 9).trans rfl, (blk_cell BK179.out 10).trans rfl, (blk_cell BK179.out 11).trans rfl, (blk_cell BK179.out 12).trans rfl, (blk_cell BK179.out 13).trans rfl, (blk_cell BK179.out 14).trans rfl, (blk_cell BK179.out 15).trans rfl, (blk_cell BK179.out 16).trans rfl⟩ (fun hHeld => ?_)
                clear hK K
                refine norm_ (a' := ?_) ?_ ?_
                rotate_left
                · show Act.put _ (some 30) _ = _
                  simp only [Act.put, List.setIfInBounds_toArray, List.set_cons_zero, List.set_cons_succ, i64_w, i32_w]
                  rfl
                refine pure_ (i := 9) (N := some 7) (v := ?_) (a' := ?_) #[true, true, true, true, true, true, true, true, true, true] rfl rfl (any_of HT_.out (by kernel_rfl)) (fun _ _ _ h => h) (Or.inl ⟨by rfl, ?_⟩) ?_ ?_
                rotate_left
                · intro w'
                  go_simp
                  with_reducible rfl
                rotate_left
                · simp only [Act.put, List.setIfInBounds_toArray, List.set_cons_zero, List.set_cons_succ, i64_w, i32_w]
                  rfl
                refine done_ (done_of HT_.out (by kernel_rfl)) ?_
                try go_wp2
                go_ret
                exact ⟨by first | rfl | (simp [errW_none, errW_some] <;> rfl) | (simp [*, errW_none, errW_some] <;> rfl), by repeat (first | (with_reducible first | exact HB.out | apply below_alloc | apply pw_below_drewN | apply below_drew1 | refine below_set ?_ GE178.out | refine below_set ?_ GE179.out) | exact HB.out)⟩
            · rw [if_neg c17] at H
              exact absurd H (by simp)
          · rw [if_neg c15] at H
            exact absurd H (by simp)
        · rw [if_neg c14] at H
          exact absurd H (by simp)

/-! ### laws_turned: function 8 -/
def laws_turned.f (a0 : Int) (a1 : Int) : Option (Bool) := if a0 = (wrap64 (-a1)) then (if a0 ≥ (-1) then (some (decide (a0 ≤ 1))) else (some false)) else (some false)
set_option maxHeartbeats 8000000 in
set_option maxRecDepth 100000 in
theorem laws_turned.calls (a0 : Int) (a1 : Int) (r : Bool) (w : World) (h : laws_turned.f a0 a1 = some r) :
    Calls Try.prog 8 #[.int .i64 a0, .int .i64 a1] w fun e w' => e = .returned (.bool r) ∧ Drawn0 w w' := by
  have H : (if a0 = (wrap64 (-a1)) then (if a0 ≥ (-1) then (some (decide (a0 ≤ 1))) else (some false)) else (some false)) = some r := h
  clear h
  by_cases c3 : a0 = (wrap64 (-a1))
  · rw [if_pos c3] at H
    have c3b0 : (a0 == (wrap64 (-a1))) = true := beq_iff_eq.mpr c3
    have c3b1 : (a0 != (wrap64 (-a1))) = false := bne_eq_false_iff_eq.mpr c3
    clear c3
    by_cases c4 : a0 ≥ (-1)
    · rw [if_pos c4] at H
      have c4b0 : decide ((-1) ≤ a0) = true := decide_eq_true c4
      clear c4
      obtain rfl := Option.some.inj H
      go_enter Try.func8, Try.ntmps8
      go_wp2
      go_ret
      exact ⟨by first | rfl | (simp; done) | (simp [*]; done), by repeat (first | exact Drawn0.refl _ | apply Drawn0.step)⟩
    · rw [if_neg c4] at H
      have c4b0 : decide ((-1) ≤ a0) = false := decide_eq_false c4
      clear c4
      obtain rfl := Option.some.inj H
      go_enter Try.func8, Try.ntmps8
      go_wp2
      go_ret
      exact ⟨by first | rfl | (simp; done) | (simp [*]; done), by repeat (first | exact Drawn0.refl _ | apply Drawn0.step)⟩
  · rw [if_neg c3] at H
    have c3b0 : (a0 == (wrap64 (-a1))) = false := beq_eq_false_iff_ne.mpr c3
    have c3b1 : (a0 != (wrap64 (-a1))) = true := bne_iff_ne.mpr c3
    obtain rfl := Option.some.inj H
    go_enter Try.func8, Try.ntmps8
    go_wp2
    go_ret
    exact ⟨by first | rfl | (simp; done) | (simp [*]; done), by repeat (first | exact Drawn0.refl _ | apply Drawn0.step)⟩

end Go.Proofs.Ytipfmkfpaglkkaa.Z
