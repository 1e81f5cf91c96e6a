-- Written by a program of this session (myprint.py).
import Derived.Test.YtondnpfncgcdkaaDoorZ0
import Derived.Test.YtondnpfncgcdkaaDoorZ1
import Derived.Test.YtondnpfncgcdkaaDoorGe
namespace Go.Proofs.YtondnpfncgcdkaaDoor.Z
open Go.Proofs.YtondnpfncgcdkaaDoor.Gw
open Go.RowKit Go.Proofs.YtondnpfncgcdkaaDoorW.PrintWords Go.Proofs.YtondnpfncgcdkaaDoorW.PrintLast Go.Proofs.YtondnpfncgcdkaaDoorW.PrintMore
attribute [local go_sem high] Go.Proofs.YtondnpfncgcdkaaDoor.Ge.gtr_str
attribute [local go_sem] max2_int min2_int max_two min_two max_three min_three max_four min_four   -- for this text's walks alone
set_option linter.unusedVariables false
set_option linter.unusedSimpArgs false

/-! ### spec_TokenOrder: function 36 -/
mutual
def spec_TokenOrder.j0 : Nat → Bool → Bool → ByteArray → ByteArray → Bool → Option (Int × Bool)
  | 0, _, _, _, _, _ => none
  | k + 1, x4, x8, x128000, x128001, x128002 => if x8 = true then (some (3, true)) else (if x128000.toList = ([46] : List UInt8) then (spec_TokenOrder.j1 k x4 (!x4) x128000 x128001 x128002) else (spec_TokenOrder.j1 k x4 false x128000 x128001 x128002))
def spec_TokenOrder.j1 : Nat → Bool → Bool → ByteArray → ByteArray → Bool → Option (Int × Bool)
  | 0, _, _, _, _, _ => none
  | k + 1, x4, x15, x128000, x128001, x128002 => if x15 = true then (some (0, true)) else (if x128000.toList = ([45] : List UInt8) then (spec_TokenOrder.j2 k x4 x128000 x128001 x128002) else (spec_TokenOrder.j2 k false x128000 x128001 x128002))
def spec_TokenOrder.j2 : Nat → Bool → ByteArray → ByteArray → Bool → Option (Int × Bool)
  | 0, _, _, _, _ => none
  | k + 1, x23, x128000, x128001, x128002 => if x23 = true then (some (2, true)) else (if x128000.toList = ([45] : List UInt8) then (some (1, true)) else (some (0, false)))
end
def spec_TokenOrder.f (k : Nat) (a0_0 : ByteArray) (a0_1 : ByteArray) (a0_2 : Bool) : Option (Int × Bool) := (spec_allDigits.f k a0_1).bind fun t128 => (if a0_0.toList = ([46] : List UInt8) then (spec_TokenOrder.j0 k t128 t128 a0_0 a0_1 a0_2) else (spec_TokenOrder.j0 k t128 false a0_0 a0_1 a0_2))
theorem spec_TokenOrder.mono_l : ∀ k, (∀ y0 y1 y2 y3 y4, LeO (spec_TokenOrder.j0 k y0 y1 y2 y3 y4) (spec_TokenOrder.j0 (k + 1) y0 y1 y2 y3 y4)) ∧ (∀ y0 y1 y2 y3 y4, LeO (spec_TokenOrder.j1 k y0 y1 y2 y3 y4) (spec_TokenOrder.j1 (k + 1) y0 y1 y2 y3 y4)) ∧ (∀ y0 y1 y2 y3, LeO (spec_TokenOrder.j2 k y0 y1 y2 y3) (spec_TokenOrder.j2 (k + 1) y0 y1 y2 y3))
  | 0 => ⟨fun _ _ _ _ _ r h => by simp [spec_TokenOrder.j0] at h, fun _ _ _ _ _ r h => by simp [spec_TokenOrder.j1] at h, fun _ _ _ _ r h => by simp [spec_TokenOrder.j2] at h⟩
  | k + 1 => by
    obtain ⟨ih0, ih1, ih2⟩ := spec_TokenOrder.mono_l k
    refine ⟨?_, ?_, ?_⟩
    · intro y0 y1 y2 y3 y4
      unfold spec_TokenOrder.j0
      repeat' first
      | (with_reducible exact ih0 _ _ _ _ _)
      | (with_reducible exact ih1 _ _ _ _ _)
      | (with_reducible exact ih2 _ _ _ _)
      | (with_reducible exact spec_allDigits.mono _ _)
      | (with_reducible exact LeO.refl _)
      | (with_reducible exact LeO.none _)
      | (with_reducible refine LeO.ite ?_ ?_)
      | (with_reducible refine LeO.bind ?_ (fun _ => ?_))
      | exact ih0 _ _ _ _ _
      | exact ih1 _ _ _ _ _
      | exact ih2 _ _ _ _
      | exact spec_allDigits.mono _ _
      | exact LeO.none _
      | refine LeO.ite ?_ ?_
      | refine LeO.bind ?_ (fun _ => ?_)
    · intro y0 y1 y2 y3 y4
      unfold spec_TokenOrder.j1
      repeat' first
      | (with_reducible exact ih0 _ _ _ _ _)
      | (with_reducible exact ih1 _ _ _ _ _)
      | (with_reducible exact ih2 _ _ _ _)
      | (with_reducible exact spec_allDigits.mono _ _)
      | (with_reducible exact LeO.refl _)
      | (with_reducible exact LeO.none _)
      | (with_reducible refine LeO.ite ?_ ?_)
      | (with_reducible refine LeO.bind ?_ (fun _ => ?_))
      | exact ih0 _ _ _ _ _
      | exact ih1 _ _ _ _ _
      | exact ih2 _ _ _ _
      | exact spec_allDigits.mono _ _
      | exact LeO.none _
      | refine LeO.ite ?_ ?_
      | refine LeO.bind ?_ (fun _ => ?_)
    · intro y0 y1 y2 y3
      unfold spec_TokenOrder.j2
      repeat' first
      | (with_reducible exact ih0 _ _ _ _ _)
      | (with_reducible exact ih1 _ _ _ _ _)
      | (with_reducible exact ih2 _ _ _ _)
      | (with_reducible exact spec_allDigits.mono _ _)
      | (with_reducible exact LeO.refl _)
      | (with_reducible exact LeO.none _)
      | (with_reducible refine LeO.ite ?_ ?_)
      | (with_reducible refine LeO.bind ?_ (fun _ => ?_))
      | exact ih0 _ _ _ _ _
      | exact ih1 _ _ _ _ _
      | exact ih2 _ _ _ _
      | exact spec_allDigits.mono _ _
      | exact LeO.none _
      | refine LeO.ite ?_ ?_
      | refine LeO.bind ?_ (fun _ => ?_)
theorem spec_TokenOrder.mono : ∀ a0 a1 a2 k, LeO (spec_TokenOrder.f k a0 a1 a2) (spec_TokenOrder.f (k + 1) a0 a1 a2) := by
  intro a0 a1 a2 k
  obtain ⟨ih0, ih1, ih2⟩ := spec_TokenOrder.mono_l k
  unfold spec_TokenOrder.f
  repeat' first
      | (with_reducible exact ih0 _ _ _ _ _)
      | (with_reducible exact ih1 _ _ _ _ _)
      | (with_reducible exact ih2 _ _ _ _)
      | (with_reducible exact spec_allDigits.mono _ _)
      | (with_reducible exact LeO.refl _)
      | (with_reducible exact LeO.none _)
      | (with_reducible refine LeO.ite ?_ ?_)
      | (with_reducible refine LeO.bind ?_ (fun _ => ?_))
      | exact ih0 _ _ _ _ _
      | exact ih1 _ _ _ _ _
      | exact ih2 _ _ _ _
      | exact spec_allDigits.mono _ _
      | exact LeO.none _
      | refine LeO.ite ?_ ?_
      | refine LeO.bind ?_ (fun _ => ?_)
set_option maxHeartbeats 8000000 in
set_option maxRecDepth 100000 in
theorem spec_TokenOrder.calls (k : Nat) (a0_0 : ByteArray) (a0_1 : ByteArray) (a0_2 : Bool) (r1 : Int) (r2 : Bool) (w : World) (h : spec_TokenOrder.f k a0_0 a0_1 a0_2 = some (r1, r2)) :
    Calls Tryd.prog 36 #[.agg #[.string a0_0, .string a0_1, .bool a0_2]] w fun e w' => e = .returned (.tuple #[.int .i64 r1, .bool r2]) ∧ Below w.heap.size w w' := by
  have hu23 := Tryd.underlying23
  have HB := Aside0.mk (Below.refl w.heap.size w)
  have H : ((spec_allDigits.f k a0_1).bind fun t128 => (if a0_0.toList = ([46] : List UInt8) then (spec_TokenOrder.j0 k t128 t128 a0_0 a0_1 a0_2) else (spec_TokenOrder.j0 k t128 false a0_0 a0_1 a0_2))) = some (r1, r2) := h
  clear h
  replace H := Option.bind_eq_some_iff.mp H
  obtain ⟨t128, A20, H⟩ := H
  replace H : (if a0_0.toList = ([46] : List UInt8) then (spec_TokenOrder.j0 k t128 t128 a0_0 a0_1 a0_2) else (spec_TokenOrder.j0 k t128 false a0_0 a0_1 a0_2)) = some (r1, r2) := H
  have A2 := Aside0.mk A20
  clear A20
  have HC3 := Aside0.mk H
  clear H
  go_enter Tryd.func36, Tryd.ntmps36
  go_upto_region 2 with (first | ((with_reducible refine gate_dst (N := 1) rfl ?_); refine box_event ?hg (N := 1) ?hd (cs := #[.string a0_0, .string a0_1, .bool a0_2]) (t := 23) ?hr ?_; (case hd => rfl); (case hg => rfl); (case hr => first | (go_simp; done) | (go_simp; rfl)); intro gb127 hg w4 hbox hb; have n0_ := Aside0.mk (below_step (by repeat (first | (with_reducible first | exact HB.out | apply below_alloc | apply pw_below_drewN | apply below_drew1) | exact HB.out)) hb); have n1_ := Aside0.mk (hbox); have n2_ := Aside0.mk ((by rw [hg]; exact (below_size (by repeat (first | (with_reducible first | exact HB.out | apply below_alloc | apply pw_below_drewN | apply below_drew1) | exact HB.out))) : w.heap.size ≤ gb127)); have n3_ := Aside0.mk ((by rw [hg]; exact (below_size (by repeat (first | (with_reducible first | exact HB.out | apply below_alloc | apply pw_below_drewN | apply below_drew1) | exact HB.out))) : w.heap.size ≤ gb127)); clear HB; have HB := n0_; have BK127 := n1_; have GW127 := n2_; have GE127 := n3_; clear n0_ n1_ n2_ n3_; clear hb hbox hg; have hcz5_0 : w4.cell? ⟨gb127, 0, none⟩ = some (.string a0_0) := (blk_cell BK127.out 0).trans rfl; have hcz5_1 : w4.cell? ⟨gb127, 1, none⟩ = some (.string a0_1) := (blk_cell BK127.out 1).trans rfl; have hcz5_2 : w4.cell? ⟨gb127, 2, none⟩ = some (.bool a0_2) := (blk_cell BK127.out 2).trans rfl; have hfz5_0 := blk_frozen BK127.out 0; have hfz5_1 := blk_frozen BK127.out 1; have hfz5_2 := blk_frozen BK127.out 2) | ((with_reducible refine gate_callee (f := 21) rfl ?_); refine goesL_ (some 7) rfl rfl Tryd.func21 (by kernel_rfl) rfl #[.string a0_1] rfl (by (try simp only [List.map_toArray, List.map_cons, List.map_nil]); first | done | rfl | (simp only [List.length_drop, List.length_take]; rfl)) ?_; (with_reducible refine (spec_allDigits.calls k a0_1 t128 _ A2.out).mono ?_); rintro e w' ⟨rfl, ⟨nd, rfl⟩⟩; refine ⟨_, rfl, ?_⟩))
  (try simp only [Act.put, List.setIfInBounds_toArray, List.set_cons_zero, List.set_cons_succ])
  go_cut [8] (fun v8 wc => ∃ (kq : Nat) (x8_2 : Bool), v8 = .bool x8_2 ∧ Aside0 (spec_TokenOrder.j0 kq t128 x8_2 a0_0 a0_1 a0_2 = some (r1, r2)) ∧ Aside0 (kq ≤ k) ∧ Aside0 (wc.heap[gb127]? = some (.cells #[.string a0_0, .string a0_1, .bool a0_2] 23 (0, 0))) ∧ Aside0 (Below w.heap.size w wc))
  case first =>
    have H := HC3.out
    clear HC3
    by_cases c6 : a0_0.toList = ([46] : List UInt8)
    · rw [if_pos c6] at H
      have c6b0 : (a0_0.toList == ([46] : List UInt8)) = true := beq_iff_eq.mpr c6
      have c6b1 : (a0_0.toList != ([46] : List UInt8)) = false := bne_eq_false_iff_eq.mpr c6
      clear c6
      (first | rw [c6b0] | (simp only [i64_w, i32_w]; rw [c6b0]) | skip)
      have H' := Aside0.mk H
      clear H
      have hcz7_0 : w4.cell? ⟨gb127, 0, none⟩ = some (.string a0_0) := (blk_cell BK127.out 0).trans rfl
      have hcz7_1 : w4.cell? ⟨gb127, 1, none⟩ = some (.string a0_1) := (blk_cell BK127.out 1).trans rfl
      have hcz7_2 : w4.cell? ⟨gb127, 2, none⟩ = some (.bool a0_2) := (blk_cell BK127.out 2).trans rfl
      have hfz7_0 := blk_frozen BK127.out 0
      have hfz7_1 := blk_frozen BK127.out 1
      have hfz7_2 := blk_frozen BK127.out 2
      go_wp2
      go_meet
      case rel => exact ⟨_, (t128), (by first | rfl | (simp; done) | (simp [*]; done)), H', ⟨by first | omega | exact Nat.le_refl _⟩, ⟨by (with_reducible repeat (first | refine blk_drewN ?_ _ | refine blk_drew ?_ | refine blk_alloc ?_ _)); exact BK127.out⟩, ⟨by repeat (first | (with_reducible first | exact HB.out | apply below_alloc | apply pw_below_drewN | apply below_drew1 | refine below_set ?_ GE127.out) | exact HB.out)⟩⟩
    · rw [if_neg c6] at H
      have c6b0 : (a0_0.toList == ([46] : List UInt8)) = false := beq_eq_false_iff_ne.mpr c6
      have c6b1 : (a0_0.toList != ([46] : List UInt8)) = true := bne_iff_ne.mpr c6
      (first | rw [c6b0] | (simp only [i64_w, i32_w]; rw [c6b0]) | skip)
      have H' := Aside0.mk H
      clear H
      have hcz8_0 : w4.cell? ⟨gb127, 0, none⟩ = some (.string a0_0) := (blk_cell BK127.out 0).trans rfl
      have hcz8_1 : w4.cell? ⟨gb127, 1, none⟩ = some (.string a0_1) := (blk_cell BK127.out 1).trans rfl
      have hcz8_2 : w4.cell? ⟨gb127, 2, none⟩ = some (.bool a0_2) := (blk_cell BK127.out 2).trans rfl
      have hfz8_0 := blk_frozen BK127.out 0
      have hfz8_1 := blk_frozen BK127.out 1
      have hfz8_2 := blk_frozen BK127.out 2
      go_wp2
      go_meet
      case rel => exact ⟨_, (false), (by first | rfl | (simp; done) | (simp [*]; done)), H', ⟨by first | omega | exact Nat.le_refl _⟩, ⟨by (with_reducible repeat (first | refine blk_drewN ?_ _ | refine blk_drew ?_ | refine blk_alloc ?_ _)); exact BK127.out⟩, ⟨by repeat (first | (with_reducible first | exact HB.out | apply below_alloc | apply pw_below_drewN | apply below_drew1 | refine below_set ?_ GE127.out) | exact HB.out)⟩⟩
  case rest =>
    clear HC3
    try clear c2
    try clear p2
    try clear c3
    try clear c6
    try clear c6b0
    try clear c6b1
    try clear hcz5_0
    try clear hcz5_1
    try clear hcz5_2
    try clear hcz7_0
    try clear hcz7_1
    try clear hcz7_2
    try clear hcz8_0
    try clear hcz8_1
    try clear hcz8_2
    try clear hfz5_0
    try clear hfz5_1
    try clear hfz5_2
    try clear hfz7_0
    try clear hfz7_1
    try clear hfz7_2
    try clear hfz8_0
    try clear hfz8_1
    try clear hfz8_2
    obtain ⟨kq, x8_2, rfl, HA, HJ2, BK127, HB⟩ := hcut
    cases kq with
    | zero => exact absurd HA.out (by simp [spec_TokenOrder.j0])
    | succ kj2 =>
      have H := HA.out
      clear HA
      simp only [spec_TokenOrder.j0] at H
      by_cases c9 : x8_2 = true
      · subst c9
        have H1 : (some (3, true)) = some (r1, r2) := by rw [if_pos rfl] at H; exact H
        clear H
        have H := H1
        clear H1
        simp only [Option.some.injEq, Prod.mk.injEq] at H
        obtain ⟨rfl, rfl⟩ := H
        go_wp2
        go_ret2
        exact ⟨by first | rfl | (simp [errW_none, errW_some] <;> rfl) | (simp [*, errW_none, errW_some] <;> rfl), by repeat (first | (with_reducible first | exact HB.out | apply below_alloc | apply pw_below_drewN | apply below_drew1 | refine below_set ?_ GE127.out) | exact HB.out)⟩
      · replace c9 := Bool.eq_false_iff.mpr c9
        subst c9
        have H1 : (if a0_0.toList = ([46] : List UInt8) then (spec_TokenOrder.j1 kj2 t128 (!t128) a0_0 a0_1 a0_2) else (spec_TokenOrder.j1 kj2 t128 false a0_0 a0_1 a0_2)) = some (r1, r2) := by rw [if_neg (show ¬ (false = true) by decide)] at H; exact H
        clear H
        have H := H1
        clear H1
        have HC10 := Aside0.mk H
        clear H
        go_upto_region 4 with (fail)
        go_cut [15] (fun v15 wc => ∃ (kq : Nat) (x15_9 : Bool), v15 = .bool x15_9 ∧ Aside0 (spec_TokenOrder.j1 kq t128 x15_9 a0_0 a0_1 a0_2 = some (r1, r2)) ∧ Aside0 (kq ≤ kj2) ∧ Aside0 (wc.heap[gb127]? = some (.cells #[.string a0_0, .string a0_1, .bool a0_2] 23 (0, 0))) ∧ Aside0 (Below w.heap.size w wc))
        case first =>
          have H := HC10.out
          clear HC10
          by_cases c11 : a0_0.toList = ([46] : List UInt8)
          · rw [if_pos c11] at H
            have c11b0 : (a0_0.toList == ([46] : List UInt8)) = true := beq_iff_eq.mpr c11
            have c11b1 : (a0_0.toList != ([46] : List UInt8)) = false := bne_eq_false_iff_eq.mpr c11
            clear c11
            (first | rw [c11b0] | (simp only [i64_w, i32_w]; rw [c11b0]) | skip)
            have H' := Aside0.mk H
            clear H
            have hcz12_0 : wc.cell? ⟨gb127, 0, none⟩ = some (.string a0_0) := (blk_cell BK127.out 0).trans rfl
            have hcz12_1 : wc.cell? ⟨gb127, 1, none⟩ = some (.string a0_1) := (blk_cell BK127.out 1).trans rfl
            have hcz12_2 : wc.cell? ⟨gb127, 2, none⟩ = some (.bool a0_2) := (blk_cell BK127.out 2).trans rfl
            have hfz12_0 := blk_frozen BK127.out 0
            have hfz12_1 := blk_frozen BK127.out 1
            have hfz12_2 := blk_frozen BK127.out 2
            go_wp2
            go_meet
            case rel => exact ⟨_, (!t128), (by first | rfl | (simp; done) | (simp [*]; done)), H', ⟨by have := HJ2.out; first | omega | exact Nat.le_refl _⟩, ⟨by (with_reducible repeat (first | refine blk_drewN ?_ _ | refine blk_drew ?_ | refine blk_alloc ?_ _)); exact BK127.out⟩, ⟨by repeat (first | (with_reducible first | exact HB.out | apply below_alloc | apply pw_below_drewN | apply below_drew1 | refine below_set ?_ GE127.out) | exact HB.out)⟩⟩
          · rw [if_neg c11] at H
            have c11b0 : (a0_0.toList == ([46] : List UInt8)) = false := beq_eq_false_iff_ne.mpr c11
            have c11b1 : (a0_0.toList != ([46] : List UInt8)) = true := bne_iff_ne.mpr c11
            (first | rw [c11b0] | (simp only [i64_w, i32_w]; rw [c11b0]) | skip)
            have H' := Aside0.mk H
            clear H
            have hcz13_0 : wc.cell? ⟨gb127, 0, none⟩ = some (.string a0_0) := (blk_cell BK127.out 0).trans rfl
            have hcz13_1 : wc.cell? ⟨gb127, 1, none⟩ = some (.string a0_1) := (blk_cell BK127.out 1).trans rfl
            have hcz13_2 : wc.cell? ⟨gb127, 2, none⟩ = some (.bool a0_2) := (blk_cell BK127.out 2).trans rfl
            have hfz13_0 := blk_frozen BK127.out 0
            have hfz13_1 := blk_frozen BK127.out 1
            have hfz13_2 := blk_frozen BK127.out 2
            go_wp2
            go_meet
            case rel => exact ⟨_, (false), (by first | rfl | (simp; done) | (simp [*]; done)), H', ⟨by have := HJ2.out; first | omega | exact Nat.le_refl _⟩, ⟨by (with_reducible repeat (first | refine blk_drewN ?_ _ | refine blk_drew ?_ | refine blk_alloc ?_ _)); exact BK127.out⟩, ⟨by repeat (first | (with_reducible first | exact HB.out | apply below_alloc | apply pw_below_drewN | apply below_drew1 | refine below_set ?_ GE127.out) | exact HB.out)⟩⟩
        case rest =>
          clear HC10
          try clear c1
          try clear c2
          try clear p2
          try clear c3
          try clear c6
          try clear c6b0
          try clear c6b1
          try clear c9
          try clear c11
          try clear c11b0
          try clear c11b1
          try clear hcz12_0
          try clear hcz12_1
          try clear hcz12_2
          try clear hcz13_0
          try clear hcz13_1
          try clear hcz13_2
          try clear hcz5_0
          try clear hcz5_1
          try clear hcz5_2
          try clear hcz7_0
          try clear hcz7_1
          try clear hcz7_2
          try clear hcz8_0
          try clear hcz8_1
          try clear hcz8_2
          try clear hfz12_0
          try clear hfz12_1
          try clear hfz12_2
          try clear hfz13_0
          try clear hfz13_1
          try clear hfz13_2
          try clear hfz5_0
          try clear hfz5_1
          try clear hfz5_2
          try clear hfz7_0
          try clear hfz7_1
          try clear hfz7_2
          try clear hfz8_0
          try clear hfz8_1
          try clear hfz8_2
          try clear p2
          obtain ⟨kq, x15_9, rfl, HA, HJ9, BK127, HB⟩ := hcut
          cases kq with
          | zero => exact absurd HA.out (by simp [spec_TokenOrder.j1])
          | succ kj9 =>
            have H := HA.out
            clear HA
            simp only [spec_TokenOrder.j1] at H
            by_cases c14 : x15_9 = true
            · subst c14
              have H1 : (some (0, true)) = some (r1, r2) := by rw [if_pos rfl] at H; exact H
              clear H
              have H := H1
              clear H1
              simp only [Option.some.injEq, Prod.mk.injEq] at H
              obtain ⟨rfl, rfl⟩ := H
              go_wp2
              go_ret2
              exact ⟨by first | rfl | (simp [errW_none, errW_some] <;> rfl) | (simp [*, errW_none, errW_some] <;> rfl), by repeat (first | (with_reducible first | exact HB.out | apply below_alloc | apply pw_below_drewN | apply below_drew1 | refine below_set ?_ GE127.out) | exact HB.out)⟩
            · replace c14 := Bool.eq_false_iff.mpr c14
              subst c14
              have H1 : (if a0_0.toList = ([45] : List UInt8) then (spec_TokenOrder.j2 kj9 t128 a0_0 a0_1 a0_2) else (spec_TokenOrder.j2 kj9 false a0_0 a0_1 a0_2)) = some (r1, r2) := by rw [if_neg (show ¬ (false = true) by decide)] at H; exact H
              clear H
              have H := H1
              clear H1
              have HC15 := Aside0.mk H
              clear H
              go_upto_region 6 with (fail)
              go_cut [23] (fun v23 wc => ∃ (kq : Nat) (x23_14 : Bool), v23 = .bool x23_14 ∧ Aside0 (spec_TokenOrder.j2 kq x23_14 a0_0 a0_1 a0_2 = some (r1, r2)) ∧ Aside0 (kq ≤ kj9) ∧ Aside0 (wc.heap[gb127]? = some (.cells #[.string a0_0, .string a0_1, .bool a0_2] 23 (0, 0))) ∧ Aside0 (Below w.heap.size w wc))
              case first =>
                have H := HC15.out
                clear HC15
                by_cases c16 : a0_0.toList = ([45] : List UInt8)
                · rw [if_pos c16] at H
                  have c16b0 : (a0_0.toList == ([45] : List UInt8)) = true := beq_iff_eq.mpr c16
                  have c16b1 : (a0_0.toList != ([45] : List UInt8)) = false := bne_eq_false_iff_eq.mpr c16
                  clear c16
                  (first | rw [c16b0] | (simp only [i64_w, i32_w]; rw [c16b0]) | skip)
                  have H' := Aside0.mk H
                  clear H
                  have hcz17_0 : wc.cell? ⟨gb127, 0, none⟩ = some (.string a0_0) := (blk_cell BK127.out 0).trans rfl
                  have hcz17_1 : wc.cell? ⟨gb127, 1, none⟩ = some (.string a0_1) := (blk_cell BK127.out 1).trans rfl
                  have hcz17_2 : wc.cell? ⟨gb127, 2, none⟩ = some (.bool a0_2) := (blk_cell BK127.out 2).trans rfl
                  have hfz17_0 := blk_frozen BK127.out 0
                  have hfz17_1 := blk_frozen BK127.out 1
                  have hfz17_2 := blk_frozen BK127.out 2
                  go_wp2
                  go_meet
                  case rel => exact ⟨_, (t128), (by first | rfl | (simp; done) | (simp [*]; done)), H', ⟨by have := HJ2.out; have := HJ9.out; first | omega | exact Nat.le_refl _⟩, ⟨by (with_reducible repeat (first | refine blk_drewN ?_ _ | refine blk_drew ?_ | refine blk_alloc ?_ _)); exact BK127.out⟩, ⟨by repeat (first | (with_reducible first | exact HB.out | apply below_alloc | apply pw_below_drewN | apply below_drew1 | refine below_set ?_ GE127.out) | exact HB.out)⟩⟩
                · rw [if_neg c16] at H
                  have c16b0 : (a0_0.toList == ([45] : List UInt8)) = false := beq_eq_false_iff_ne.mpr c16
                  have c16b1 : (a0_0.toList != ([45] : List UInt8)) = true := bne_iff_ne.mpr c16
                  (first | rw [c16b0] | (simp only [i64_w, i32_w]; rw [c16b0]) | skip)
                  have H' := Aside0.mk H
                  clear H
                  have hcz18_0 : wc.cell? ⟨gb127, 0, none⟩ = some (.string a0_0) := (blk_cell BK127.out 0).trans rfl
                  have hcz18_1 : wc.cell? ⟨gb127, 1, none⟩ = some (.string a0_1) := (blk_cell BK127.out 1).trans rfl
                  have hcz18_2 : wc.cell? ⟨gb127, 2, none⟩ = some (.bool a0_2) := (blk_cell BK127.out 2).trans rfl
                  have hfz18_0 := blk_frozen BK127.out 0
                  have hfz18_1 := blk_frozen BK127.out 1
                  have hfz18_2 := blk_frozen BK127.out 2
                  go_wp2
                  go_meet
                  case rel => exact ⟨_, (false), (by first | rfl | (simp; done) | (simp [*]; done)), H', ⟨by have := HJ2.out; have := HJ9.out; first | omega | exact Nat.le_refl _⟩, ⟨by (with_reducible repeat (first | refine blk_drewN ?_ _ | refine blk_drew ?_ | refine blk_alloc ?_ _)); exact BK127.out⟩, ⟨by repeat (first | (with_reducible first | exact HB.out | apply below_alloc | apply pw_below_drewN | apply below_drew1 | refine below_set ?_ GE127.out) | exact HB.out)⟩⟩
              case rest =>
                clear HC15
                try clear c1
                try clear c2
                try clear p2
                try clear c3
                try clear c6
                try clear c6b0
                try clear c6b1
                try clear c9
                try clear c11
                try clear c11b0
                try clear c11b1
                try clear c14
                try clear c16
                try clear c16b0
                try clear c16b1
                try clear hcz12_0
                try clear hcz12_1
                try clear hcz12_2
                try clear hcz13_0
                try clear hcz13_1
                try clear hcz13_2
                try clear hcz17_0
                try clear hcz17_1
                try clear hcz17_2
                try clear hcz18_0
                try clear hcz18_1
                try clear hcz18_2
                try clear hcz5_0
                try clear hcz5_1
                try clear hcz5_2
                try clear hcz7_0
                try clear hcz7_1
                try clear hcz7_2
                try clear hcz8_0
                try clear hcz8_1
                try clear hcz8_2
                try clear hfz12_0
                try clear hfz12_1
                try clear hfz12_2
                try clear hfz13_0
                try clear hfz13_1
                try clear hfz13_2
                try clear hfz17_0
                try clear hfz17_1
                try clear hfz17_2
                try clear hfz18_0
                try clear hfz18_1
                try clear hfz18_2
                try clear hfz5_0
                try clear hfz5_1
                try clear hfz5_2
                try clear hfz7_0
                try clear hfz7_1
                try clear hfz7_2
                try clear hfz8_0
                try clear hfz8_1
                try clear hfz8_2
                try clear p2
                obtain ⟨kq, x23_14, rfl, HA, HJ14, BK127, HB⟩ := hcut
                cases kq with
                | zero => exact absurd HA.out (by simp [spec_TokenOrder.j2])
                | succ kj14 =>
                  have H := HA.out
                  clear HA
                  simp only [spec_TokenOrder.j2] at H
                  by_cases c19 : x23_14 = true
                  · subst c19
                    have H1 : (some (2, true)) = some (r1, r2) := by rw [if_pos rfl] at H; exact H
                    clear H
                    have H := H1
                    clear H1
                    simp only [Option.some.injEq, Prod.mk.injEq] at H
                    obtain ⟨rfl, rfl⟩ := H
                    go_wp2
                    go_ret2
                    exact ⟨by first | rfl | (simp [errW_none, errW_some] <;> rfl) | (simp [*, errW_none, errW_some] <;> rfl), by repeat (first | (with_reducible first | exact HB.out | apply below_alloc | apply pw_below_drewN | apply below_drew1 | refine below_set ?_ GE127.out) | exact HB.out)⟩
                  · replace c19 := Bool.eq_false_iff.mpr c19
                    subst c19
                    have H1 : (if a0_0.toList = ([45] : List UInt8) then (some (1, true)) else (some (0, false))) = some (r1, r2) := by rw [if_neg (show ¬ (false = true) by decide)] at H; exact H
                    clear H
                    have H := H1
                    clear H1
                    by_cases c20 : a0_0.toList = ([45] : List UInt8)
                    · rw [if_pos c20] at H
                      have c20b0 : (a0_0.toList == ([45] : List UInt8)) = true := beq_iff_eq.mpr c20
                      have c20b1 : (a0_0.toList != ([45] : List UInt8)) = false := bne_eq_false_iff_eq.mpr c20
                      clear c20
                      simp only [Option.some.injEq, Prod.mk.injEq] at H
                      obtain ⟨rfl, rfl⟩ := H
                      have hcz21_0 : wc.cell? ⟨gb127, 0, none⟩ = some (.string a0_0) := (blk_cell BK127.out 0).trans rfl
                      have hcz21_1 : wc.cell? ⟨gb127, 1, none⟩ = some (.string a0_1) := (blk_cell BK127.out 1).trans rfl
                      have hcz21_2 : wc.cell? ⟨gb127, 2, none⟩ = some (.bool a0_2) := (blk_cell BK127.out 2).trans rfl
                      have hfz21_0 := blk_frozen BK127.out 0
                      have hfz21_1 := blk_frozen BK127.out 1
                      have hfz21_2 := blk_frozen BK127.out 2
                      go_wp2
                      go_ret2
                      exact ⟨by first | rfl | (simp [errW_none, errW_some] <;> rfl) | (simp [*, errW_none, errW_some] <;> rfl), by repeat (first | (with_reducible first | exact HB.out | apply below_alloc | apply pw_below_drewN | apply below_drew1 | refine below_set ?_ GE127.out) | exact HB.out)⟩
                    · rw [if_neg c20] at H
                      have c20b0 : (a0_0.toList == ([45] : List UInt8)) = false := beq_eq_false_iff_ne.mpr c20
                      have c20b1 : (a0_0.toList != ([45] : List UInt8)) = true := bne_iff_ne.mpr c20
                      simp only [Option.some.injEq, Prod.mk.injEq] at H
                      obtain ⟨rfl, rfl⟩ := H
                      have hcz22_0 : wc.cell? ⟨gb127, 0, none⟩ = some (.string a0_0) := (blk_cell BK127.out 0).trans rfl
                      have hcz22_1 : wc.cell? ⟨gb127, 1, none⟩ = some (.string a0_1) := (blk_cell BK127.out 1).trans rfl
                      have hcz22_2 : wc.cell? ⟨gb127, 2, none⟩ = some (.bool a0_2) := (blk_cell BK127.out 2).trans rfl
                      have hfz22_0 := blk_frozen BK127.out 0
                      have hfz22_1 := blk_frozen BK127.out 1
                      have hfz22_2 := blk_frozen BK127.out 2
                      go_wp2
                      go_ret2
                      exact ⟨by first | rfl | (simp [errW_none, errW_some] <;> rfl) | (simp [*, errW_none, errW_some] <;> rfl), by repeat (first | (with_reducible first | exact HB.out | apply below_alloc | apply pw_below_drewN | apply below_drew1 | refine below_set ?_ GE127.out) | exact HB.out)⟩

/-! ### spec_orderInts: function 37 -/
def spec_orderInts.f (a0 : Int) (a1 : Int) : Option (Int) := if a0 < a1 then (some (-1)) else (if a0 > a1 then (some 1) else (some 0))
set_option maxHeartbeats 8000000 in
set_option maxRecDepth 100000 in
theorem spec_orderInts.calls (a0 : Int) (a1 : Int) (r : Int) (w : World) (h : spec_orderInts.f a0 a1 = some r) :
    Calls Tryd.prog 37 #[.int .i64 a0, .int .i64 a1] w fun e w' => e = .returned (.int .i64 r) ∧ Drawn0 w w' := by
  have H : (if a0 < a1 then (some (-1)) else (if a0 > a1 then (some 1) else (some 0))) = some r := h
  clear h
  by_cases c3 : a0 < a1
  · rw [if_pos c3] at H
    have c3b0 : decide (a0 < a1) = true := decide_eq_true c3
    clear c3
    obtain rfl := Option.some.inj H
    go_enter Tryd.func37, Tryd.ntmps37
    go_wp2
    go_ret
    exact ⟨by first | rfl | (simp; done) | (simp [*]; done), by repeat (first | exact Drawn0.refl _ | apply Drawn0.step)⟩
  · rw [if_neg c3] at H
    have c3b0 : decide (a0 < a1) = false := decide_eq_false c3
    clear c3
    by_cases c4 : a0 > a1
    · rw [if_pos c4] at H
      have c4b0 : decide (a1 < a0) = true := decide_eq_true c4
      clear c4
      obtain rfl := Option.some.inj H
      go_enter Tryd.func37, Tryd.ntmps37
      go_wp2
      go_ret
      exact ⟨by first | rfl | (simp; done) | (simp [*]; done), by repeat (first | exact Drawn0.refl _ | apply Drawn0.step)⟩
    · rw [if_neg c4] at H
      have c4b0 : decide (a1 < a0) = false := decide_eq_false c4
      clear c4
      obtain rfl := Option.some.inj H
      go_enter Tryd.func37, Tryd.ntmps37
      go_wp2
      go_ret
      exact ⟨by first | rfl | (simp; done) | (simp [*]; done), by repeat (first | exact Drawn0.refl _ | apply Drawn0.step)⟩

/-! ### spec_order: function 49 -/
def spec_order.f (a0 : ByteArray) (a1 : ByteArray) : Option (Int) := if (Op.bytesLess a0.toList a1.toList) = true then (some (-1)) else (if (Op.bytesLess a1.toList a0.toList) = true then (some 1) else (some 0))
set_option maxHeartbeats 8000000 in
set_option maxRecDepth 100000 in
theorem spec_order.calls (a0 : ByteArray) (a1 : ByteArray) (r : Int) (w : World) (h : spec_order.f a0 a1 = some r) :
    Calls Tryd.prog 49 #[.string a0, .string a1] w fun e w' => e = .returned (.int .i64 r) ∧ Drawn0 w w' := by
  have H : (if (Op.bytesLess a0.toList a1.toList) = true then (some (-1)) else (if (Op.bytesLess a1.toList a0.toList) = true then (some 1) else (some 0))) = some r := h
  clear h
  by_cases c3 : (Op.bytesLess a0.toList a1.toList) = true
  · rw [if_pos c3] at H
    have c3b0 : (Op.bytesLess a0.toList a1.toList) = true := c3
    clear c3
    obtain rfl := Option.some.inj H
    go_enter Tryd.func49, Tryd.ntmps49
    go_wp2
    go_ret
    exact ⟨by first | rfl | (simp; done) | (simp [*]; done), by repeat (first | exact Drawn0.refl _ | apply Drawn0.step)⟩
  · rw [if_neg c3] at H
    have c3b0 : (Op.bytesLess a0.toList a1.toList) = false := by simpa using c3
    clear c3
    by_cases c4 : (Op.bytesLess a1.toList a0.toList) = true
    · rw [if_pos c4] at H
      have c4b0 : (Op.bytesLess a1.toList a0.toList) = true := c4
      clear c4
      obtain rfl := Option.some.inj H
      go_enter Tryd.func49, Tryd.ntmps49
      go_wp2
      go_ret
      exact ⟨by first | rfl | (simp; done) | (simp [*]; done), by repeat (first | exact Drawn0.refl _ | apply Drawn0.step)⟩
    · rw [if_neg c4] at H
      have c4b0 : (Op.bytesLess a1.toList a0.toList) = false := by simpa using c4
      clear c4
      obtain rfl := Option.some.inj H
      go_enter Tryd.func49, Tryd.ntmps49
      go_wp2
      go_ret
      exact ⟨by first | rfl | (simp; done) | (simp [*]; done), by repeat (first | exact Drawn0.refl _ | apply Drawn0.step)⟩

/-! ### spec_orderNumbers: function 38 -/
mutual
def spec_orderNumbers.j1 : Nat → ByteArray → ByteArray → Option (Int)
  | 0, _, _ => none
  | k + 1, x0, x1 => spec_orderNumbers.l1 k x0 x1
def spec_orderNumbers.j3 : Nat → ByteArray → ByteArray → Option (Int)
  | 0, _, _ => none
  | k + 1, x0, x1 => if (x0.size : Int) = (x1.size : Int) then ((spec_order.f x0 x1).bind fun t129 => (some t129)) else ((spec_orderInts.f (x0.size : Int) (x1.size : Int)).bind fun t130 => (some t130))
def spec_orderNumbers.l1 : Nat → ByteArray → ByteArray → Option (Int)
  | 0, _, _ => none
  | k + 1, x0, x1 => if (x1.size : Int) > 0 then (if 0 < (x1.size : Int) then (if (bt x1 0) = 48 then (if 1 ≤ (x1.size : Int) then (spec_orderNumbers.l1 k x0 (x1.extract 1 x1.size)) else (none)) else (spec_orderNumbers.j3 k x0 x1)) else (none)) else (spec_orderNumbers.j3 k x0 x1)
def spec_orderNumbers.l0 : Nat → ByteArray → ByteArray → Option (Int)
  | 0, _, _ => none
  | k + 1, x0, x1 => if (x0.size : Int) > 0 then (if 0 < (x0.size : Int) then (if (bt x0 0) = 48 then (if 1 ≤ (x0.size : Int) then (spec_orderNumbers.l0 k (x0.extract 1 x0.size) x1) else (none)) else (spec_orderNumbers.j1 k x0 x1)) else (none)) else (spec_orderNumbers.j1 k x0 x1)
end
def spec_orderNumbers.f (k : Nat) (a0 : ByteArray) (a1 : ByteArray) : Option (Int) := spec_orderNumbers.l0 k a0 a1
theorem spec_orderNumbers.mono_l : ∀ k, (∀ y0 y1, LeO (spec_orderNumbers.j1 k y0 y1) (spec_orderNumbers.j1 (k + 1) y0 y1)) ∧ (∀ y0 y1, LeO (spec_orderNumbers.j3 k y0 y1) (spec_orderNumbers.j3 (k + 1) y0 y1)) ∧ (∀ y0 y1, LeO (spec_orderNumbers.l1 k y0 y1) (spec_orderNumbers.l1 (k + 1) y0 y1)) ∧ (∀ y0 y1, LeO (spec_orderNumbers.l0 k y0 y1) (spec_orderNumbers.l0 (k + 1) y0 y1))
  | 0 => ⟨fun _ _ r h => by simp [spec_orderNumbers.j1] at h, fun _ _ r h => by simp [spec_orderNumbers.j3] at h, fun _ _ r h => by simp [spec_orderNumbers.l1] at h, fun _ _ r h => by simp [spec_orderNumbers.l0] at h⟩
  | k + 1 => by
    obtain ⟨ih0, ih1, ih2, ih3⟩ := spec_orderNumbers.mono_l k
    refine ⟨?_, ?_, ?_, ?_⟩
    · intro y0 y1
      unfold spec_orderNumbers.j1
      repeat' first
      | (with_reducible exact ih0 _ _)
      | (with_reducible exact ih1 _ _)
      | (with_reducible exact ih2 _ _)
      | (with_reducible exact ih3 _ _)
      | (with_reducible exact LeO.refl _)
      | (with_reducible exact LeO.none _)
      | (with_reducible refine LeO.ite ?_ ?_)
      | (with_reducible refine LeO.bind ?_ (fun _ => ?_))
      | exact ih0 _ _
      | exact ih1 _ _
      | exact ih2 _ _
      | exact ih3 _ _
      | exact LeO.none _
      | refine LeO.ite ?_ ?_
      | refine LeO.bind ?_ (fun _ => ?_)
    · intro y0 y1
      unfold spec_orderNumbers.j3
      repeat' first
      | (with_reducible exact ih0 _ _)
      | (with_reducible exact ih1 _ _)
      | (with_reducible exact ih2 _ _)
      | (with_reducible exact ih3 _ _)
      | (with_reducible exact LeO.refl _)
      | (with_reducible exact LeO.none _)
      | (with_reducible refine LeO.ite ?_ ?_)
      | (with_reducible refine LeO.bind ?_ (fun _ => ?_))
      | exact ih0 _ _
      | exact ih1 _ _
      | exact ih2 _ _
      | exact ih3 _ _
      | exact LeO.none _
      | refine LeO.ite ?_ ?_
      | refine LeO.bind ?_ (fun _ => ?_)
    · intro y0 y1
      unfold spec_orderNumbers.l1
      repeat' first
      | (with_reducible exact ih0 _ _)
      | (with_reducible exact ih1 _ _)
      | (with_reducible exact ih2 _ _)
      | (with_reducible exact ih3 _ _)
      | (with_reducible exact LeO.refl _)
      | (with_reducible exact LeO.none _)
      | (with_reducible refine LeO.ite ?_ ?_)
      | (with_reducible refine LeO.bind ?_ (fun _ => ?_))
      | exact ih0 _ _
      | exact ih1 _ _
      | exact ih2 _ _
      | exact ih3 _ _
      | exact LeO.none _
      | refine LeO.ite ?_ ?_
      | refine LeO.bind ?_ (fun _ => ?_)
    · intro y0 y1
      unfold spec_orderNumbers.l0
      repeat' first
      | (with_reducible exact ih0 _ _)
      | (with_reducible exact ih1 _ _)
      | (with_reducible exact ih2 _ _)
      | (with_reducible exact ih3 _ _)
      | (with_reducible exact LeO.refl _)
      | (with_reducible exact LeO.none _)
      | (with_reducible refine LeO.ite ?_ ?_)
      | (with_reducible refine LeO.bind ?_ (fun _ => ?_))
      | exact ih0 _ _
      | exact ih1 _ _
      | exact ih2 _ _
      | exact ih3 _ _
      | exact LeO.none _
      | refine LeO.ite ?_ ?_
      | refine LeO.bind ?_ (fun _ => ?_)
theorem spec_orderNumbers.mono : ∀ a0 a1 k, LeO (spec_orderNumbers.f k a0 a1) (spec_orderNumbers.f (k + 1) a0 a1) := by
  intro a0 a1 k
  obtain ⟨ih0, ih1, ih2, ih3⟩ := spec_orderNumbers.mono_l k
  unfold spec_orderNumbers.f
  repeat' first
      | (with_reducible exact ih0 _ _)
      | (with_reducible exact ih1 _ _)
      | (with_reducible exact ih2 _ _)
      | (with_reducible exact ih3 _ _)
      | (with_reducible exact LeO.refl _)
      | (with_reducible exact LeO.none _)
      | (with_reducible refine LeO.ite ?_ ?_)
      | (with_reducible refine LeO.bind ?_ (fun _ => ?_))
      | exact ih0 _ _
      | exact ih1 _ _
      | exact ih2 _ _
      | exact ih3 _ _
      | exact LeO.none _
      | refine LeO.ite ?_ ?_
      | refine LeO.bind ?_ (fun _ => ?_)
set_option maxHeartbeats 8000000 in
set_option maxRecDepth 100000 in
theorem spec_orderNumbers.calls (k : Nat) (a0 : ByteArray) (a1 : ByteArray) (r : Int) (w : World) (h : spec_orderNumbers.f k a0 a1 = some r) :
    Calls Tryd.prog 38 #[.string a0, .string a1] w fun e w' => e = .returned (.int .i64 r) ∧ Drawn0 w w' := by
  have H : (spec_orderNumbers.l0 k a0 a1) = some r := h
  clear h
  have HC3 := Aside0.mk H
  clear H
  go_enter Tryd.func38, Tryd.ntmps38
  go_upto_block 0 with (fail)
  go_cut [0] (fun v0 wc => ∃ (kq : Nat) (x0_2 : ByteArray), v0 = .string x0_2 ∧ Aside0 (spec_orderNumbers.j1 kq x0_2 a1 = some r) ∧ Aside0 (kq ≤ k) ∧ Drawn0 w wc)
  case first =>
    have H := HC3.out
    clear HC3
    have H' := Aside0.mk H
    clear H
    go_wp2
    go_loopg [0] k (fun kq v0 w' => ∃ (x0_1 : ByteArray), v0 = .string x0_1 ∧ Aside0 (spec_orderNumbers.l0 kq x0_1 a1 = some r) ∧ Aside0 (kq ≤ k) ∧ Drawn0 w w')
    case atStart => exact ⟨(a0), (by first | rfl | (simp; done) | (simp [*]; done)), H', ⟨Nat.le_refl _⟩, by repeat (first | exact Drawn0.refl _ | apply Drawn0.step)⟩
    case round =>
      clear H'
      try clear p2
      try clear c3
      obtain ⟨x0_1, rfl, HA, HK1, ⟨m1, rfl⟩⟩ := hrel
      cases gk with
      | zero => exact absurd HA.out (by simp [spec_orderNumbers.l0])
      | succ k1 =>
        have H := HA.out
        clear HA
        simp only [spec_orderNumbers.l0] at H
        by_cases c4 : (x0_1.size : Int) > 0
        · rw [if_pos c4] at H
          have c4b0 : decide (0 < (x0_1.size : Int)) = true := decide_eq_true c4
          have c4b1 : decide (0 < x0_1.size) = true := decide_eq_true (by omega)
          clear c4
          (first | rw [c4b0] | (simp only [i64_w, i32_w]; rw [c4b0]) | skip)
          by_cases c5 : 0 < (x0_1.size : Int)
          · rw [if_pos c5] at H
            have c5b0 : decide (0 < (x0_1.size : Int)) = true := decide_eq_true c5
            have c5b1 : decide (0 < x0_1.size) = true := decide_eq_true (by omega)
            clear c5
            by_cases c7 : (bt x0_1 0) = 48
            · rw [if_pos c7] at H
              have c7b0 : ((bt x0_1 0) == 48) = true := beq_iff_eq.mpr c7
              have c7b1 : ((bt x0_1 0) != 48) = false := bne_eq_false_iff_eq.mpr c7
              clear c7
              by_cases c8 : 1 ≤ (x0_1.size : Int)
              · rw [if_pos c8] at H
                have c8b0 := eq_true c8
                have c8b1 : decide (1 ≤ (x0_1.size : Int)) = true := decide_eq_true c8
                clear c8
                have H' := Aside0.mk H
                clear H
                have p6 : 0 ≤ (0 : Int) := (by omega)
                have q6 : 0 < x0_1.size := (by have : (0 : Int) < (x0_1.size : Int) := of_decide_eq_true (by first | (with_reducible assumption) | assumption); omega)
                have hx6 : ∀ h : 0 < x0_1.size, ((x0_1[0]'h).toNat : Int) = bt x0_1 0 := bt_at x0_1 0
                clear p6
                have qi6 : (0 < (x0_1.size : Int)) = True := eq_true (of_decide_eq_true (by first | (with_reducible assumption) | assumption))
                replace q6 := eq_true q6
                go_wp2
                go_roundg k1
                case measure => have := HK1.out; omega
                case rel => exact ⟨(x0_1.extract 1 x0_1.size), (by first | rfl | (simp; done) | (simp [*]; done)), H', ⟨by have := HK1.out; omega⟩, by repeat (first | exact Drawn0.refl _ | apply Drawn0.step)⟩
              · rw [if_neg c8] at H
                exact absurd H (by simp)
            · rw [if_neg c7] at H
              have c7b0 : ((bt x0_1 0) == 48) = false := beq_eq_false_iff_ne.mpr c7
              have c7b1 : ((bt x0_1 0) != 48) = true := bne_iff_ne.mpr c7
              have H' := Aside0.mk H
              clear H
              have p6 : 0 ≤ (0 : Int) := (by omega)
              have q6 : 0 < x0_1.size := (by have : (0 : Int) < (x0_1.size : Int) := of_decide_eq_true (by first | (with_reducible assumption) | assumption); omega)
              have hx6 : ∀ h : 0 < x0_1.size, ((x0_1[0]'h).toNat : Int) = bt x0_1 0 := bt_at x0_1 0
              clear p6
              have qi6 : (0 < (x0_1.size : Int)) = True := eq_true (of_decide_eq_true (by first | (with_reducible assumption) | assumption))
              replace q6 := eq_true q6
              go_wp2
              go_meet
              case rel => exact ⟨_, (x0_1), (by first | rfl | (simp; done) | (simp [*]; done)), H', ⟨by have := HK1.out; first | omega | exact Nat.le_refl _⟩, by repeat (first | exact Drawn0.refl _ | apply Drawn0.step)⟩
          · rw [if_neg c5] at H
            exact absurd H (by simp)
        · rw [if_neg c4] at H
          have c4b0 : decide (0 < (x0_1.size : Int)) = false := decide_eq_false c4
          have c4b1 : decide (0 < x0_1.size) = false := decide_eq_false (by omega)
          clear c4
          (first | rw [c4b0] | (simp only [i64_w, i32_w]; rw [c4b0]) | skip)
          have H' := Aside0.mk H
          clear H
          go_wp2
          go_meet
          case rel => exact ⟨_, (x0_1), (by first | rfl | (simp; done) | (simp [*]; done)), H', ⟨by have := HK1.out; first | omega | exact Nat.le_refl _⟩, by repeat (first | exact Drawn0.refl _ | apply Drawn0.step)⟩
  case rest =>
    clear HC3
    try clear p2
    try clear c3
    try clear c4
    try clear c4b0
    try clear c4b1
    try clear c5
    try clear c5b0
    try clear c5b1
    try clear p6
    try clear q6
    try clear hx6
    try clear qi6
    try clear c7
    try clear c7b0
    try clear c7b1
    try clear c8
    try clear c8b0
    try clear c8b1
    try clear p2
    try clear p6
    try clear q6
    obtain ⟨kq, x0_2, rfl, HA, HJ2, ⟨mc2, rfl⟩⟩ := hcut
    cases kq with
    | zero => exact absurd HA.out (by simp [spec_orderNumbers.j1])
    | succ kj2 =>
      have H := HA.out
      clear HA
      simp only [spec_orderNumbers.j1] at H
      have HC9 := Aside0.mk H
      clear H
      go_upto_block 2 with (fail)
      go_cut [1] (fun v1 wc => ∃ (kq : Nat) (x1_8 : ByteArray), v1 = .string x1_8 ∧ Aside0 (spec_orderNumbers.j3 kq x0_2 x1_8 = some r) ∧ Aside0 (kq ≤ kj2) ∧ Drawn0 w wc)
      case first =>
        have H := HC9.out
        clear HC9
        have H' := Aside0.mk H
        clear H
        go_wp2
        go_loopg [1] kj2 (fun kq v1 w' => ∃ (x1_2 : ByteArray), v1 = .string x1_2 ∧ Aside0 (spec_orderNumbers.l1 kq x0_2 x1_2 = some r) ∧ Aside0 (kq ≤ kj2) ∧ Drawn0 w w')
        case atStart => exact ⟨(a1), (by first | rfl | (simp; done) | (simp [*]; done)), H', ⟨Nat.le_refl _⟩, by repeat (first | exact Drawn0.refl _ | apply Drawn0.step)⟩
        case round =>
          clear H'
          try clear c2
          try clear p2
          try clear c3
          try clear c4
          try clear c4b0
          try clear c4b1
          try clear c5
          try clear c5b0
          try clear c5b1
          try clear p6
          try clear q6
          try clear hx6
          try clear qi6
          try clear c7
          try clear c7b0
          try clear c7b1
          try clear c8
          try clear c8b0
          try clear c8b1
          try clear p2
          try clear p6
          try clear q6
          obtain ⟨x1_2, rfl, HA, HK2, ⟨m2, rfl⟩⟩ := hrel
          cases gk with
          | zero => exact absurd HA.out (by simp [spec_orderNumbers.l1])
          | succ k2 =>
            have H := HA.out
            clear HA
            simp only [spec_orderNumbers.l1] at H
            by_cases c10 : (x1_2.size : Int) > 0
            · rw [if_pos c10] at H
              have c10b0 : decide (0 < (x1_2.size : Int)) = true := decide_eq_true c10
              have c10b1 : decide (0 < x1_2.size) = true := decide_eq_true (by omega)
              clear c10
              (first | rw [c10b0] | (simp only [i64_w, i32_w]; rw [c10b0]) | skip)
              by_cases c11 : 0 < (x1_2.size : Int)
              · rw [if_pos c11] at H
                have c11b0 : decide (0 < (x1_2.size : Int)) = true := decide_eq_true c11
                have c11b1 : decide (0 < x1_2.size) = true := decide_eq_true (by omega)
                clear c11
                by_cases c13 : (bt x1_2 0) = 48
                · rw [if_pos c13] at H
                  have c13b0 : ((bt x1_2 0) == 48) = true := beq_iff_eq.mpr c13
                  have c13b1 : ((bt x1_2 0) != 48) = false := bne_eq_false_iff_eq.mpr c13
                  clear c13
                  by_cases c14 : 1 ≤ (x1_2.size : Int)
                  · rw [if_pos c14] at H
                    have c14b0 := eq_true c14
                    have c14b1 : decide (1 ≤ (x1_2.size : Int)) = true := decide_eq_true c14
                    clear c14
                    have H' := Aside0.mk H
                    clear H
                    have p12 : 0 ≤ (0 : Int) := (by omega)
                    have q12 : 0 < x1_2.size := (by have : (0 : Int) < (x1_2.size : Int) := of_decide_eq_true (by first | (with_reducible assumption) | assumption); omega)
                    have hx12 : ∀ h : 0 < x1_2.size, ((x1_2[0]'h).toNat : Int) = bt x1_2 0 := bt_at x1_2 0
                    clear p12
                    have qi12 : (0 < (x1_2.size : Int)) = True := eq_true (of_decide_eq_true (by first | (with_reducible assumption) | assumption))
                    replace q12 := eq_true q12
                    go_wp2
                    go_roundg k2
                    case measure => have := HJ2.out; have := HK2.out; omega
                    case rel => exact ⟨(x1_2.extract 1 x1_2.size), (by first | rfl | (simp; done) | (simp [*]; done)), H', ⟨by have := HJ2.out; have := HK2.out; omega⟩, by repeat (first | exact Drawn0.refl _ | apply Drawn0.step)⟩
                  · rw [if_neg c14] at H
                    exact absurd H (by simp)
                · rw [if_neg c13] at H
                  have c13b0 : ((bt x1_2 0) == 48) = false := beq_eq_false_iff_ne.mpr c13
                  have c13b1 : ((bt x1_2 0) != 48) = true := bne_iff_ne.mpr c13
                  have H' := Aside0.mk H
                  clear H
                  have p12 : 0 ≤ (0 : Int) := (by omega)
                  have q12 : 0 < x1_2.size := (by have : (0 : Int) < (x1_2.size : Int) := of_decide_eq_true (by first | (with_reducible assumption) | assumption); omega)
                  have hx12 : ∀ h : 0 < x1_2.size, ((x1_2[0]'h).toNat : Int) = bt x1_2 0 := bt_at x1_2 0
                  clear p12
                  have qi12 : (0 < (x1_2.size : Int)) = True := eq_true (of_decide_eq_true (by first | (with_reducible assumption) | assumption))
                  replace q12 := eq_true q12
                  go_wp2
                  go_meet
                  case rel => exact ⟨_, (x1_2), (by first | rfl | (simp; done) | (simp [*]; done)), H', ⟨by have := HJ2.out; have := HK2.out; first | omega | exact Nat.le_refl _⟩, by repeat (first | exact Drawn0.refl _ | apply Drawn0.step)⟩
              · rw [if_neg c11] at H
                exact absurd H (by simp)
            · rw [if_neg c10] at H
              have c10b0 : decide (0 < (x1_2.size : Int)) = false := decide_eq_false c10
              have c10b1 : decide (0 < x1_2.size) = false := decide_eq_false (by omega)
              clear c10
              (first | rw [c10b0] | (simp only [i64_w, i32_w]; rw [c10b0]) | skip)
              have H' := Aside0.mk H
              clear H
              go_wp2
              go_meet
              case rel => exact ⟨_, (x1_2), (by first | rfl | (simp; done) | (simp [*]; done)), H', ⟨by have := HJ2.out; have := HK2.out; first | omega | exact Nat.le_refl _⟩, by repeat (first | exact Drawn0.refl _ | apply Drawn0.step)⟩
      case rest =>
        clear HC9
        try clear c1
        try clear p1
        try clear q1
        try clear hx1
        try clear qi1
        try clear c2
        try clear p2
        try clear c3
        try clear c4
        try clear c4b0
        try clear c4b1
        try clear c5
        try clear c5b0
        try clear c5b1
        try clear p6
        try clear q6
        try clear hx6
        try clear qi6
        try clear c7
        try clear c7b0
        try clear c7b1
        try clear c8
        try clear c8b0
        try clear c8b1
        try clear c10
        try clear c10b0
        try clear c10b1
        try clear c11
        try clear c11b0
        try clear c11b1
        try clear p12
        try clear q12
        try clear hx12
        try clear qi12
        try clear c13
        try clear c13b0
        try clear c13b1
        try clear c14
        try clear c14b0
        try clear c14b1
        try clear p12
        try clear p2
        try clear p6
        try clear q12
        try clear q6
        obtain ⟨kq, x1_8, rfl, HA, HJ8, ⟨mc8, rfl⟩⟩ := hcut
        cases kq with
        | zero => exact absurd HA.out (by simp [spec_orderNumbers.j3])
        | succ kj8 =>
          have H := HA.out
          clear HA
          simp only [spec_orderNumbers.j3] at H
          by_cases c15 : (x0_2.size : Int) = (x1_8.size : Int)
          · rw [if_pos c15] at H
            have c15b0 : ((x0_2.size : Int) == (x1_8.size : Int)) = true := beq_iff_eq.mpr c15
            have c15b1 : ((x0_2.size : Int) != (x1_8.size : Int)) = false := bne_eq_false_iff_eq.mpr c15
            have c15b2 : (x0_2.size == x1_8.size) = true := by first | simpa using c15 | (simp at c15 ⊢; omega)
            clear c15
            replace H := Option.bind_eq_some_iff.mp H
            obtain ⟨t129, A160, H⟩ := H
            replace H : (some t129) = some r := H
            have A16 := Aside0.mk A160
            clear A160
            obtain rfl := Option.some.inj H
            go_wp2_with (first | ((with_reducible refine gate_callee (f := 49) rfl ?_); refine goesL_ (some 37) rfl rfl Tryd.func49 (by kernel_rfl) rfl #[.string x0_2, .string x1_8] rfl (by (try simp only [List.map_toArray, List.map_cons, List.map_nil]); first | done | rfl | (simp only [List.length_drop, List.length_take]; rfl)) ?_; (with_reducible refine (spec_order.calls x0_2 x1_8 t129 _ A16.out).mono ?_); rintro e w' ⟨rfl, ⟨nd, rfl⟩⟩; refine ⟨_, rfl, ?_⟩))
            go_ret
            exact ⟨by first | rfl | (simp; done) | (simp [*]; done), by repeat (first | exact Drawn0.refl _ | apply Drawn0.step)⟩
          · rw [if_neg c15] at H
            have c15b0 : ((x0_2.size : Int) == (x1_8.size : Int)) = false := beq_eq_false_iff_ne.mpr c15
            have c15b1 : ((x0_2.size : Int) != (x1_8.size : Int)) = true := bne_iff_ne.mpr c15
            have c15b2 : (x0_2.size == x1_8.size) = false := by first | simpa using c15 | (simp at c15 ⊢; omega)
            replace H := Option.bind_eq_some_iff.mp H
            obtain ⟨t130, A170, H⟩ := H
            replace H : (some t130) = some r := H
            have A17 := Aside0.mk A170
            clear A170
            obtain rfl := Option.some.inj H
            go_wp2_with (first | ((with_reducible refine gate_callee (f := 37) rfl ?_); refine goesL_ (some 34) rfl rfl Tryd.func37 (by kernel_rfl) rfl #[.int .i64 (x0_2.size : Int), .int .i64 (x1_8.size : Int)] rfl (by (try simp only [List.map_toArray, List.map_cons, List.map_nil]); first | done | rfl | (simp only [List.length_drop, List.length_take]; rfl)) ?_; (with_reducible refine (spec_orderInts.calls (x0_2.size : Int) (x1_8.size : Int) t130 _ A17.out).mono ?_); rintro e w' ⟨rfl, ⟨nd, rfl⟩⟩; refine ⟨_, rfl, ?_⟩))
            go_ret
            exact ⟨by first | rfl | (simp; done) | (simp [*]; done), by repeat (first | exact Drawn0.refl _ | apply Drawn0.step)⟩

/-! ### spec_Keyword: function 40 -/
def spec_Keyword.l0 : Nat → ByteArray → List ByteArray → Int → Option (Int)
  | 0, _, _, _ => none
  | k + 1, x0, x3, x4 => if x4 < (x3.length : Int) then (if 0 ≤ x4 then (if (rdOf ByteArray.empty x3 x4).toList = x0.toList then (some x4) else (spec_Keyword.l0 k x0 x3 (wrap64 (x4 + 1)))) else (none)) else (some (x3.length : Int))
def spec_Keyword.f (k : Nat) (a0 : ByteArray) : Option (Int) := spec_Keyword.l0 k a0 (([(⟨#[97, 108, 112, 104, 97]⟩ : ByteArray), (⟨#[98, 101, 116, 97]⟩ : ByteArray), (⟨#[109, 105, 108, 101, 115, 116, 111, 110, 101]⟩ : ByteArray), (⟨#[114, 99]⟩ : ByteArray), (⟨#[115, 110, 97, 112, 115, 104, 111, 116]⟩ : ByteArray), (⟨#[]⟩ : ByteArray), (⟨#[115, 112]⟩ : ByteArray)] : List ByteArray)) 0
theorem spec_Keyword.mono_l : ∀ k, (∀ y0 y1 y2, LeO (spec_Keyword.l0 k y0 y1 y2) (spec_Keyword.l0 (k + 1) y0 y1 y2))
  | 0 => fun _ _ _ r h => by simp [spec_Keyword.l0] at h
  | k + 1 => by
    have ih0 := spec_Keyword.mono_l k
    · intro y0 y1 y2
      unfold spec_Keyword.l0
      repeat' first
      | (with_reducible exact ih0 _ _ _)
      | (with_reducible exact LeO.refl _)
      | (with_reducible exact LeO.none _)
      | (with_reducible refine LeO.ite ?_ ?_)
      | (with_reducible refine LeO.bind ?_ (fun _ => ?_))
      | exact ih0 _ _ _
      | exact LeO.none _
      | refine LeO.ite ?_ ?_
      | refine LeO.bind ?_ (fun _ => ?_)
theorem spec_Keyword.mono : ∀ a0 k, LeO (spec_Keyword.f k a0) (spec_Keyword.f (k + 1) a0) := by
  intro a0 k
  have ih0 := spec_Keyword.mono_l k
  unfold spec_Keyword.f
  repeat' first
      | (with_reducible exact ih0 _ _ _)
      | (with_reducible exact LeO.refl _)
      | (with_reducible exact LeO.none _)
      | (with_reducible refine LeO.ite ?_ ?_)
      | (with_reducible refine LeO.bind ?_ (fun _ => ?_))
      | exact ih0 _ _ _
      | exact LeO.none _
      | refine LeO.ite ?_ ?_
      | refine LeO.bind ?_ (fun _ => ?_)
set_option maxHeartbeats 8000000 in
set_option maxRecDepth 100000 in
theorem spec_Keyword.calls (k : Nat) (a0 : ByteArray) (r : Int) (w : World) (h : spec_Keyword.f k a0 = some r) :
    Calls Tryd.prog 40 #[.string a0] w fun e w' => e = .returned (.int .i64 r) ∧ Below w.heap.size w w' := by
  have HB := Aside0.mk (Below.refl w.heap.size w)
  have H : (spec_Keyword.l0 k a0 (([(⟨#[97, 108, 112, 104, 97]⟩ : ByteArray), (⟨#[98, 101, 116, 97]⟩ : ByteArray), (⟨#[109, 105, 108, 101, 115, 116, 111, 110, 101]⟩ : ByteArray), (⟨#[114, 99]⟩ : ByteArray), (⟨#[115, 110, 97, 112, 115, 104, 111, 116]⟩ : ByteArray), (⟨#[]⟩ : ByteArray), (⟨#[115, 112]⟩ : ByteArray)] : List ByteArray)) 0) = some r := h
  clear h
  obtain ⟨y131, hy131⟩ : ∃ y_ : List ByteArray, y_ = (([(⟨#[97, 108, 112, 104, 97]⟩ : ByteArray), (⟨#[98, 101, 116, 97]⟩ : ByteArray), (⟨#[109, 105, 108, 101, 115, 116, 111, 110, 101]⟩ : ByteArray), (⟨#[114, 99]⟩ : ByteArray), (⟨#[115, 110, 97, 112, 115, 104, 111, 116]⟩ : ByteArray), (⟨#[]⟩ : ByteArray), (⟨#[115, 112]⟩ : ByteArray)] : List ByteArray)) := ⟨_, rfl⟩
  replace H : (spec_Keyword.l0 k a0 y131 0) = some r := by first | (rw [hy131]; with_reducible exact H) | (have H2_ := (Option.bind_some _ _).symm.trans H; rw [hy131]; with_reducible exact H2_) | (have H2_ := (Option.bind_some _ _).symm.trans H; with_reducible exact H2_) | with_reducible exact H | (rw [hy131]; exact H) | exact H
  have Ny131 := Aside0.mk hy131
  clear hy131
  have H' := Aside0.mk H
  clear H
  go_enter Tryd.func40, Tryd.ntmps40
  go_wp2_with (first | ((with_reducible refine gate_dst (N := 5) rfl ?_); refine Kd.R_lit Kd.string _ 9 ?hg (N := 5) ?hd (xs := ([(⟨#[97, 108, 112, 104, 97]⟩ : ByteArray), (⟨#[98, 101, 116, 97]⟩ : ByteArray), (⟨#[109, 105, 108, 101, 115, 116, 111, 110, 101]⟩ : ByteArray), (⟨#[114, 99]⟩ : ByteArray), (⟨#[115, 110, 97, 112, 115, 104, 111, 116]⟩ : ByteArray), (⟨#[]⟩ : ByteArray), (⟨#[115, 112]⟩ : ByteArray)] : List ByteArray)) (inner := [.string (⟨#[97, 108, 112, 104, 97]⟩ : ByteArray), .string (⟨#[98, 101, 116, 97]⟩ : ByteArray), .string (⟨#[109, 105, 108, 101, 115, 116, 111, 110, 101]⟩ : ByteArray), .string (⟨#[114, 99]⟩ : ByteArray), .string (⟨#[115, 110, 97, 112, 115, 104, 111, 116]⟩ : ByteArray), .string (⟨#[]⟩ : ByteArray), .string (⟨#[115, 112]⟩ : ByteArray)]) (ok := fun _ => True) (okp := fun _ => True) ?hr ?hp (fun _ hk => hk) trivial (Below.refl _ _) (Nat.le_refl _) (by simp) ?_; (case hd => rfl); (case hg => rfl); (case hr => first | (go_simp; done) | (go_simp; rfl)); (case hp => exact (Reps.one (show Kd.M Kd.string _ _ _ (⟨#[97, 108, 112, 104, 97]⟩ : ByteArray) [.string (⟨#[97, 108, 112, 104, 97]⟩ : ByteArray)] from rfl) (Reps.one (show Kd.M Kd.string _ _ _ (⟨#[98, 101, 116, 97]⟩ : ByteArray) [.string (⟨#[98, 101, 116, 97]⟩ : ByteArray)] from rfl) (Reps.one (show Kd.M Kd.string _ _ _ (⟨#[109, 105, 108, 101, 115, 116, 111, 110, 101]⟩ : ByteArray) [.string (⟨#[109, 105, 108, 101, 115, 116, 111, 110, 101]⟩ : ByteArray)] from rfl) (Reps.one (show Kd.M Kd.string _ _ _ (⟨#[114, 99]⟩ : ByteArray) [.string (⟨#[114, 99]⟩ : ByteArray)] from rfl) (Reps.one (show Kd.M Kd.string _ _ _ (⟨#[115, 110, 97, 112, 115, 104, 111, 116]⟩ : ByteArray) [.string (⟨#[115, 110, 97, 112, 115, 104, 111, 116]⟩ : ByteArray)] from rfl) (Reps.one (show Kd.M Kd.string _ _ _ (⟨#[]⟩ : ByteArray) [.string (⟨#[]⟩ : ByteArray)] from rfl) (Reps.one (show Kd.M Kd.string _ _ _ (⟨#[115, 112]⟩ : ByteArray) [.string (⟨#[115, 112]⟩ : ByteArray)] from rfl) (Reps.none _ _))))))))); intro v132 w2 ho3 hb hg_ hnew_; clear hg_ hnew_; (first | rw [← Ny131.out] at ho3 | (simp only [Int.reduceToNat] at ho3; rw [← Ny131.out] at ho3)); have n0_ := Aside0.mk (Kd.R_lower ho3 (below_size (by repeat (first | (with_reducible first | exact HB.out | apply below_alloc | apply pw_below_drewN | apply below_drew1) | exact HB.out)))); have n1_ := Aside0.mk (below_step (by repeat (first | (with_reducible first | exact HB.out | apply below_alloc | apply pw_below_drewN | apply below_drew1) | exact HB.out)) hb); clear HB; have HO133 := n0_; have HB := n1_; clear n0_ n1_; clear hb ho3))
  go_loopg [4] k (fun kq v4 w' => ∃ (x4_1 : Int), v4 = .int .i64 x4_1 ∧ Aside0 (spec_Keyword.l0 kq a0 y131 x4_1 = some r) ∧ Aside0 (kq ≤ k) ∧ Aside0 (Kd.R Kd.string 9 w' w.heap.size (fun _ => True) v132 y131) ∧ Aside0 (Below w.heap.size w w'))
  case atStart => exact ⟨(0), (by first | rfl | (simp; done) | (simp [*]; done)), H', ⟨Nat.le_refl _⟩, ⟨by (with_reducible repeat (first | apply Kd.R_alloc | apply Kd.R_drewN | apply Kd.R_drew)); exact HO133.out⟩, ⟨by repeat (first | (with_reducible first | exact HB.out | apply below_alloc | apply pw_below_drewN | apply below_drew1) | exact HB.out)⟩⟩
  case round =>
    clear H'
    try clear p2
    obtain ⟨x4_1, rfl, HA, HK1, HO_3, HB⟩ := hrel
    cases gk with
    | zero => exact absurd HA.out (by simp [spec_Keyword.l0])
    | succ k1 =>
      have H := HA.out
      clear HA
      simp only [spec_Keyword.l0] at H
      by_cases c4 : x4_1 < (y131.length : Int)
      · rw [if_pos c4] at H
        have c4b0 : decide (x4_1 < (y131.length : Int)) = true := decide_eq_true c4
        clear c4
        by_cases c5 : 0 ≤ x4_1
        · rw [if_pos c5] at H
          have c5b0 : decide (0 ≤ x4_1) = true := decide_eq_true c5
          clear c5
          by_cases c6 : (rdOf ByteArray.empty y131 x4_1).toList = a0.toList
          · rw [if_pos c6] at H
            have c6b0 : ((rdOf ByteArray.empty y131 x4_1).toList == a0.toList) = true := beq_iff_eq.mpr c6
            have c6b1 : ((rdOf ByteArray.empty y131 x4_1).toList != a0.toList) = false := bne_eq_false_iff_eq.mpr c6
            clear c6
            obtain rfl := Option.some.inj H
            obtain ⟨Ao7, co7, eo7⟩ := Kd.R_slice HO_3.out
            subst eo7
            have p134 : 0 ≤ (x4_1 : Int) := of_decide_eq_true (by first | (with_reducible assumption) | assumption)
            have q134 : x4_1 < (y131.length : Int) := of_decide_eq_true (by first | (with_reducible assumption) | assumption)
            obtain ⟨ad134, e134, hx134_0⟩ := Kd.at_string (Kd.R_reads' HO_3.out).2.2 x4_1 p134 q134
            cases e134
            replace p134 := eq_true p134
            replace q134 := eq_true q134
            go_wp2
            go_ret
            exact ⟨by first | rfl | (simp [errW_none, errW_some] <;> rfl) | (simp [*, errW_none, errW_some] <;> rfl), by repeat (first | (with_reducible first | exact HB.out | apply below_alloc | apply pw_below_drewN | apply below_drew1) | exact HB.out)⟩
          · rw [if_neg c6] at H
            have c6b0 : ((rdOf ByteArray.empty y131 x4_1).toList == a0.toList) = false := beq_eq_false_iff_ne.mpr c6
            have c6b1 : ((rdOf ByteArray.empty y131 x4_1).toList != a0.toList) = true := bne_iff_ne.mpr c6
            have H' := Aside0.mk H
            clear H
            obtain ⟨Ao8, co8, eo8⟩ := Kd.R_slice HO_3.out
            subst eo8
            have p134 : 0 ≤ (x4_1 : Int) := of_decide_eq_true (by first | (with_reducible assumption) | assumption)
            have q134 : x4_1 < (y131.length : Int) := of_decide_eq_true (by first | (with_reducible assumption) | assumption)
            obtain ⟨ad134, e134, hx134_0⟩ := Kd.at_string (Kd.R_reads' HO_3.out).2.2 x4_1 p134 q134
            cases e134
            replace p134 := eq_true p134
            replace q134 := eq_true q134
            go_wp2
            go_roundg k1
            case measure => have := HK1.out; omega
            case rel => exact ⟨(wrap64 (x4_1 + 1)), (by first | rfl | (simp; done) | (simp [*]; done)), H', ⟨by have := HK1.out; omega⟩, ⟨by (with_reducible repeat (first | apply Kd.R_alloc | apply Kd.R_drewN | apply Kd.R_drew)); exact HO_3.out⟩, ⟨by repeat (first | (with_reducible first | exact HB.out | apply below_alloc | apply pw_below_drewN | apply below_drew1) | exact HB.out)⟩⟩
        · rw [if_neg c5] at H
          exact absurd H (by simp)
      · rw [if_neg c4] at H
        have c4b0 : decide (x4_1 < (y131.length : Int)) = false := decide_eq_false c4
        clear c4
        obtain rfl := Option.some.inj H
        obtain ⟨Ao9, co9, eo9⟩ := Kd.R_slice HO_3.out
        subst eo9
        go_wp2
        go_ret
        exact ⟨by first | rfl | (simp [errW_none, errW_some] <;> rfl) | (simp [*, errW_none, errW_some] <;> rfl), by repeat (first | (with_reducible first | exact HB.out | apply below_alloc | apply pw_below_drewN | apply below_drew1) | exact HB.out)⟩

/-! ### spec_mavenQualifiers: function 39 -/
def spec_mavenQualifiers.f (k : Nat) (a0 : ByteArray) (a1 : ByteArray) : Option (Int) := (spec_Keyword.f k a0).bind fun t135 => ((spec_Keyword.f k a1).bind fun t136 => (if t135 = t136 then ((spec_order.f a0 a1).bind fun t137 => (some t137)) else ((spec_orderInts.f t135 t136).bind fun t138 => (some t138))))
theorem spec_mavenQualifiers.mono : ∀ a0 a1 k, LeO (spec_mavenQualifiers.f k a0 a1) (spec_mavenQualifiers.f (k + 1) a0 a1) := by
  intro a0 a1 k
  unfold spec_mavenQualifiers.f
  repeat' first
      | (with_reducible exact spec_Keyword.mono _ _)
      | (with_reducible exact LeO.refl _)
      | (with_reducible exact LeO.none _)
      | (with_reducible refine LeO.ite ?_ ?_)
      | (with_reducible refine LeO.bind ?_ (fun _ => ?_))
      | exact spec_Keyword.mono _ _
      | exact LeO.none _
      | refine LeO.ite ?_ ?_
      | refine LeO.bind ?_ (fun _ => ?_)
set_option maxHeartbeats 8000000 in
set_option maxRecDepth 100000 in
theorem spec_mavenQualifiers.calls (k : Nat) (a0 : ByteArray) (a1 : ByteArray) (r : Int) (w : World) (h : spec_mavenQualifiers.f k a0 a1 = some r) :
    Calls Tryd.prog 39 #[.string a0, .string a1] w fun e w' => e = .returned (.int .i64 r) ∧ Below w.heap.size w w' := by
  have HB := Aside0.mk (Below.refl w.heap.size w)
  have H : ((spec_Keyword.f k a0).bind fun t135 => ((spec_Keyword.f k a1).bind fun t136 => (if t135 = t136 then ((spec_order.f a0 a1).bind fun t137 => (some t137)) else ((spec_orderInts.f t135 t136).bind fun t138 => (some t138))))) = some r := h
  clear h
  replace H := Option.bind_eq_some_iff.mp H
  obtain ⟨t135, A30, H⟩ := H
  replace H : ((spec_Keyword.f k a1).bind fun t136 => (if t135 = t136 then ((spec_order.f a0 a1).bind fun t137 => (some t137)) else ((spec_orderInts.f t135 t136).bind fun t138 => (some t138)))) = some r := H
  have A3 := Aside0.mk A30
  clear A30
  replace H := Option.bind_eq_some_iff.mp H
  obtain ⟨t136, A40, H⟩ := H
  replace H : (if t135 = t136 then ((spec_order.f a0 a1).bind fun t137 => (some t137)) else ((spec_orderInts.f t135 t136).bind fun t138 => (some t138))) = some r := H
  have A4 := Aside0.mk A40
  clear A40
  by_cases c5 : t135 = t136
  · rw [if_pos c5] at H
    have c5b0 : (t135 == t136) = true := beq_iff_eq.mpr c5
    have c5b1 : (t135 != t136) = false := bne_eq_false_iff_eq.mpr c5
    clear c5
    replace H := Option.bind_eq_some_iff.mp H
    obtain ⟨t137, A60, H⟩ := H
    replace H : (some t137) = some r := H
    have A6 := Aside0.mk A60
    clear A60
    obtain rfl := Option.some.inj H
    go_enter Tryd.func39, Tryd.ntmps39
    go_wp2_with (first | ((with_reducible refine gate_callee (f := 40) rfl ?_); refine goesL_ (some 8) rfl rfl Tryd.func40 (by kernel_rfl) rfl #[.string a0] rfl (by (try simp only [List.map_toArray, List.map_cons, List.map_nil]); first | done | rfl | (simp only [List.length_drop, List.length_take]; rfl)) ?_; (with_reducible refine (spec_Keyword.calls k a0 t135 _ A3.out).mono ?_); rintro e w7 ⟨rfl, hb⟩; refine ⟨_, rfl, ?_⟩; have n0_ := Aside0.mk (below_step (by repeat (first | (with_reducible first | exact HB.out | apply below_alloc | apply pw_below_drewN | apply below_drew1) | exact HB.out)) hb); clear HB; have HB := n0_; clear n0_; (try clear hb); (try clear hb2); (try clear hk); (try clear hi)) | ((with_reducible refine gate_callee (f := 40) rfl ?_); refine goesL_ (some 10) rfl rfl Tryd.func40 (by kernel_rfl) rfl #[.string a1] rfl (by (try simp only [List.map_toArray, List.map_cons, List.map_nil]); first | done | rfl | (simp only [List.length_drop, List.length_take]; rfl)) ?_; (with_reducible refine (spec_Keyword.calls k a1 t136 _ A4.out).mono ?_); rintro e w8 ⟨rfl, hb⟩; refine ⟨_, rfl, ?_⟩; have n0_ := Aside0.mk (below_step (by repeat (first | (with_reducible first | exact HB.out | apply below_alloc | apply pw_below_drewN | apply below_drew1) | exact HB.out)) hb); clear HB; have HB := n0_; clear n0_; (try clear hb); (try clear hb2); (try clear hk); (try clear hi)) | ((with_reducible refine gate_callee (f := 49) rfl ?_); refine goesL_ (some 19) rfl rfl Tryd.func49 (by kernel_rfl) rfl #[.string a0, .string a1] rfl (by (try simp only [List.map_toArray, List.map_cons, List.map_nil]); first | done | rfl | (simp only [List.length_drop, List.length_take]; rfl)) ?_; (with_reducible refine (spec_order.calls a0 a1 t137 _ A6.out).mono ?_); rintro e w' ⟨rfl, ⟨nd, rfl⟩⟩; refine ⟨_, rfl, ?_⟩))
    go_ret
    exact ⟨by first | rfl | (simp [errW_none, errW_some] <;> rfl) | (simp [*, errW_none, errW_some] <;> rfl), by repeat (first | (with_reducible first | exact HB.out | apply below_alloc | apply pw_below_drewN | apply below_drew1) | exact HB.out)⟩
  · rw [if_neg c5] at H
    have c5b0 : (t135 == t136) = false := beq_eq_false_iff_ne.mpr c5
    have c5b1 : (t135 != t136) = true := bne_iff_ne.mpr c5
    replace H := Option.bind_eq_some_iff.mp H
    obtain ⟨t138, A90, H⟩ := H
    replace H : (some t138) = some r := H
    have A9 := Aside0.mk A90
    clear A90
    obtain rfl := Option.some.inj H
    go_enter Tryd.func39, Tryd.ntmps39
    go_wp2_with (first | ((with_reducible refine gate_callee (f := 40) rfl ?_); refine goesL_ (some 8) rfl rfl Tryd.func40 (by kernel_rfl) rfl #[.string a0] rfl (by (try simp only [List.map_toArray, List.map_cons, List.map_nil]); first | done | rfl | (simp only [List.length_drop, List.length_take]; rfl)) ?_; (with_reducible refine (spec_Keyword.calls k a0 t135 _ A3.out).mono ?_); rintro e w10 ⟨rfl, hb⟩; refine ⟨_, rfl, ?_⟩; have n0_ := Aside0.mk (below_step (by repeat (first | (with_reducible first | exact HB.out | apply below_alloc | apply pw_below_drewN | apply below_drew1) | exact HB.out)) hb); clear HB; have HB := n0_; clear n0_; (try clear hb); (try clear hb2); (try clear hk); (try clear hi)) | ((with_reducible refine gate_callee (f := 40) rfl ?_); refine goesL_ (some 10) rfl rfl Tryd.func40 (by kernel_rfl) rfl #[.string a1] rfl (by (try simp only [List.map_toArray, List.map_cons, List.map_nil]); first | done | rfl | (simp only [List.length_drop, List.length_take]; rfl)) ?_; (with_reducible refine (spec_Keyword.calls k a1 t136 _ A4.out).mono ?_); rintro e w11 ⟨rfl, hb⟩; refine ⟨_, rfl, ?_⟩; have n0_ := Aside0.mk (below_step (by repeat (first | (with_reducible first | exact HB.out | apply below_alloc | apply pw_below_drewN | apply below_drew1) | exact HB.out)) hb); clear HB; have HB := n0_; clear n0_; (try clear hb); (try clear hb2); (try clear hk); (try clear hi)) | ((with_reducible refine gate_callee (f := 37) rfl ?_); refine goesL_ (some 16) rfl rfl Tryd.func37 (by kernel_rfl) rfl #[.int .i64 t135, .int .i64 t136] rfl (by (try simp only [List.map_toArray, List.map_cons, List.map_nil]); first | done | rfl | (simp only [List.length_drop, List.length_take]; rfl)) ?_; (with_reducible refine (spec_orderInts.calls t135 t136 t138 _ A9.out).mono ?_); rintro e w' ⟨rfl, ⟨nd, rfl⟩⟩; refine ⟨_, rfl, ?_⟩))
    go_ret
    exact ⟨by first | rfl | (simp [errW_none, errW_some] <;> rfl) | (simp [*, errW_none, errW_some] <;> rfl), by repeat (first | (with_reducible first | exact HB.out | apply below_alloc | apply pw_below_drewN | apply below_drew1) | exact HB.out)⟩

end Go.Proofs.YtondnpfncgcdkaaDoor.Z
