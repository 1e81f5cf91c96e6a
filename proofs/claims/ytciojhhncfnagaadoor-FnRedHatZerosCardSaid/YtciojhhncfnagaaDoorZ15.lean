-- Written by a program of this session (myprint.py).
import Derived.Test.YtciojhhncfnagaaDoorZ0
import Derived.Test.YtciojhhncfnagaaDoorZ1
import Derived.Test.YtciojhhncfnagaaDoorGe
namespace Go.Proofs.YtciojhhncfnagaaDoor.Z
open Go.RowKit Go.Proofs.YtciojhhncfnagaaDoorW.PrintWords Go.Proofs.YtciojhhncfnagaaDoorW.PrintLast Go.Proofs.YtciojhhncfnagaaDoorW.PrintMore
attribute [local go_sem high] Go.Proofs.YtciojhhncfnagaaDoor.Ge.gtr_str
attribute [local go_sem] max2_int min2_int max_two min_two max_three min_three max_four min_four   -- for this text's walks alone
set_option linter.unusedVariables false
set_option linter.unusedSimpArgs false

/-! ### spec_indexOf: function 39 -/
def spec_indexOf.l0 : Nat → ByteArray → Int → Int → Option (Int)
  | 0, _, _, _ => none
  | k + 1, x0, x1, x5 => if x5 < (x0.size : Int) then (if 0 ≤ x5 then (if (bt x0 x5) = x1 then (some x5) else (spec_indexOf.l0 k x0 x1 (wrap64 (x5 + 1)))) else (none)) else (some (-1))
def spec_indexOf.f (k : Nat) (a0 : ByteArray) (a1 : Int) : Option (Int) := spec_indexOf.l0 k a0 a1 0
theorem spec_indexOf.mono_l : ∀ k, (∀ y0 y1 y2, LeO (spec_indexOf.l0 k y0 y1 y2) (spec_indexOf.l0 (k + 1) y0 y1 y2))
  | 0 => fun _ _ _ r h => by simp [spec_indexOf.l0] at h
  | k + 1 => by
    have ih0 := spec_indexOf.mono_l k
    · intro y0 y1 y2
      unfold spec_indexOf.l0
      repeat' first
      | (with_reducible exact ih0 _ _ _)
      | (with_reducible exact LeO.refl _)
      | (with_reducible exact LeO.none _)
      | (with_reducible refine LeO.ite ?_ ?_)
      | (with_reducible refine LeO.bind ?_ (fun _ => ?_))
      | exact ih0 _ _ _
      | exact LeO.none _
      | refine LeO.ite ?_ ?_
      | refine LeO.bind ?_ (fun _ => ?_)
theorem spec_indexOf.mono : ∀ a0 a1 k, LeO (spec_indexOf.f k a0 a1) (spec_indexOf.f (k + 1) a0 a1) := by
  intro a0 a1 k
  have ih0 := spec_indexOf.mono_l k
  unfold spec_indexOf.f
  repeat' first
      | (with_reducible exact ih0 _ _ _)
      | (with_reducible exact LeO.refl _)
      | (with_reducible exact LeO.none _)
      | (with_reducible refine LeO.ite ?_ ?_)
      | (with_reducible refine LeO.bind ?_ (fun _ => ?_))
      | exact ih0 _ _ _
      | exact LeO.none _
      | refine LeO.ite ?_ ?_
      | refine LeO.bind ?_ (fun _ => ?_)
set_option maxHeartbeats 8000000 in
set_option maxRecDepth 100000 in
theorem spec_indexOf.calls (k : Nat) (a0 : ByteArray) (a1 : Int) (r : Int) (w : World) (h : spec_indexOf.f k a0 a1 = some r) :
    Calls Tryd.prog 39 #[.string a0, .int .u8 a1] w fun e w' => e = .returned (.int .i64 r) ∧ Drawn0 w w' := by
  have H : (spec_indexOf.l0 k a0 a1 0) = some r := h
  clear h
  have H' := Aside0.mk H
  clear H
  go_enter Tryd.func39, Tryd.ntmps39
  go_wp2
  go_loopg [5] k (fun kq v5 w' => ∃ (x5_1 : Int), v5 = .int .i64 x5_1 ∧ Aside0 (spec_indexOf.l0 kq a0 a1 x5_1 = some r) ∧ Aside0 (kq ≤ k) ∧ Drawn0 w w')
  case atStart => exact ⟨(0), (by first | rfl | (simp; done) | (simp [*]; done)), H', ⟨Nat.le_refl _⟩, by repeat (first | exact Drawn0.refl _ | apply Drawn0.step)⟩
  case round =>
    clear H'
    try clear p2
    obtain ⟨x5_1, rfl, HA, HK1, ⟨m1, rfl⟩⟩ := hrel
    cases gk with
    | zero => exact absurd HA.out (by simp [spec_indexOf.l0])
    | succ k1 =>
      have H := HA.out
      clear HA
      simp only [spec_indexOf.l0] at H
      by_cases c3 : x5_1 < (a0.size : Int)
      · rw [if_pos c3] at H
        have c3b0 : decide (x5_1 < (a0.size : Int)) = true := decide_eq_true c3
        clear c3
        by_cases c4 : 0 ≤ x5_1
        · rw [if_pos c4] at H
          have c4b0 : decide (0 ≤ x5_1) = true := decide_eq_true c4
          clear c4
          by_cases c6 : (bt a0 x5_1) = a1
          · rw [if_pos c6] at H
            have c6b0 : ((bt a0 x5_1) == a1) = true := beq_iff_eq.mpr c6
            have c6b1 : ((bt a0 x5_1) != a1) = false := bne_eq_false_iff_eq.mpr c6
            clear c6
            obtain rfl := Option.some.inj H
            have p5 : 0 ≤ (x5_1 : Int) := of_decide_eq_true (by first | (with_reducible assumption) | assumption)
            have q5 : x5_1 < (a0.size : Int) := of_decide_eq_true (by first | (with_reducible assumption) | assumption)
            have hx5 := bt_at a0 x5_1
            replace p5 := eq_true p5
            replace q5 := eq_true q5
            go_wp2
            go_ret
            exact ⟨by first | rfl | (simp; done) | (simp [*]; done), by repeat (first | exact Drawn0.refl _ | apply Drawn0.step)⟩
          · rw [if_neg c6] at H
            have c6b0 : ((bt a0 x5_1) == a1) = false := beq_eq_false_iff_ne.mpr c6
            have c6b1 : ((bt a0 x5_1) != a1) = true := bne_iff_ne.mpr c6
            have H' := Aside0.mk H
            clear H
            have p5 : 0 ≤ (x5_1 : Int) := of_decide_eq_true (by first | (with_reducible assumption) | assumption)
            have q5 : x5_1 < (a0.size : Int) := of_decide_eq_true (by first | (with_reducible assumption) | assumption)
            have hx5 := bt_at a0 x5_1
            replace p5 := eq_true p5
            replace q5 := eq_true q5
            go_wp2
            go_roundg k1
            case measure => have := HK1.out; omega
            case rel => exact ⟨(wrap64 (x5_1 + 1)), (by first | rfl | (simp; done) | (simp [*]; done)), H', ⟨by have := HK1.out; omega⟩, by repeat (first | exact Drawn0.refl _ | apply Drawn0.step)⟩
        · rw [if_neg c4] at H
          exact absurd H (by simp)
      · rw [if_neg c3] at H
        have c3b0 : decide (x5_1 < (a0.size : Int)) = false := decide_eq_false c3
        clear c3
        obtain rfl := Option.some.inj H
        go_wp2
        go_ret
        exact ⟨by first | rfl | (simp; done) | (simp [*]; done), by repeat (first | exact Drawn0.refl _ | apply Drawn0.step)⟩

/-! ### spec_RedHatParse: function 28 -/
def spec_RedHatParse.j0 : Nat → ByteArray → Int → Bool → ByteArray → ByteArray → ByteArray → Option (ByteArray × ByteArray × ByteArray)
  | 0, _, _, _, _, _, _ => none
  | k + 1, x0, x4, x20, x230000, x230001, x230002 => if x20 = true then (if x4 > 0 then (if 0 ≤ x4 then (if x4 ≤ (x0.size : Int) then (if 0 ≤ (wrap64 (x4 + 1)) then (if (wrap64 (x4 + 1)) ≤ (x0.size : Int) then ((spec_indexOf.f k (x0.extract ((wrap64 (x4 + 1)) : Int).toNat x0.size) 45).bind fun t232 => (if t232 ≥ 0 then (if 0 ≤ t232 then (if t232 ≤ ((x0.size - ((wrap64 (x4 + 1)) : Int).toNat : Nat) : Int) then (some (x0.extract 0 (x4 : Int).toNat, (x0.extract ((wrap64 (x4 + 1)) : Int).toNat x0.size).extract 0 (t232 : Int).toNat, (x0.extract ((wrap64 (x4 + 1)) : Int).toNat x0.size).extract (t232 : Int).toNat (x0.size - ((wrap64 (x4 + 1)) : Int).toNat))) else (none)) else (none)) else (some (x0.extract 0 (x4 : Int).toNat, x0.extract ((wrap64 (x4 + 1)) : Int).toNat x0.size, x230002)))) else (none)) else (none)) else (none)) else (none)) else (if 0 ≤ (wrap64 (x4 + 1)) then (if (wrap64 (x4 + 1)) ≤ (x0.size : Int) then ((spec_indexOf.f k (x0.extract ((wrap64 (x4 + 1)) : Int).toNat x0.size) 45).bind fun t233 => (if t233 ≥ 0 then (if 0 ≤ t233 then (if t233 ≤ ((x0.size - ((wrap64 (x4 + 1)) : Int).toNat : Nat) : Int) then (some (x230000, (x0.extract ((wrap64 (x4 + 1)) : Int).toNat x0.size).extract 0 (t233 : Int).toNat, (x0.extract ((wrap64 (x4 + 1)) : Int).toNat x0.size).extract (t233 : Int).toNat (x0.size - ((wrap64 (x4 + 1)) : Int).toNat))) else (none)) else (none)) else (some (x230000, x0.extract ((wrap64 (x4 + 1)) : Int).toNat x0.size, x230002)))) else (none)) else (none))) else ((spec_indexOf.f k x0 45).bind fun t234 => (if t234 ≥ 0 then (if 0 ≤ t234 then (if t234 ≤ (x0.size : Int) then (some (x230000, x0.extract 0 (t234 : Int).toNat, x0.extract (t234 : Int).toNat x0.size)) else (none)) else (none)) else (some (x230000, x0, x230002))))
def spec_RedHatParse.f (k : Nat) (a0 : ByteArray) : Option (ByteArray × ByteArray × ByteArray) := (spec_indexOf.f k a0 58).bind fun t230 => (if t230 ≥ 0 then (if t230 = 0 then (spec_RedHatParse.j0 k a0 t230 true (⟨#[48]⟩ : ByteArray) (⟨#[]⟩ : ByteArray) (⟨#[]⟩ : ByteArray)) else (if 0 ≤ t230 then (if t230 ≤ (a0.size : Int) then ((spec_allDigits.f k (a0.extract 0 (t230 : Int).toNat)).bind fun t231 => (spec_RedHatParse.j0 k a0 t230 t231 (⟨#[48]⟩ : ByteArray) (⟨#[]⟩ : ByteArray) (⟨#[]⟩ : ByteArray))) else (none)) else (none))) else (spec_RedHatParse.j0 k a0 t230 false (⟨#[48]⟩ : ByteArray) (⟨#[]⟩ : ByteArray) (⟨#[]⟩ : ByteArray)))
theorem spec_RedHatParse.mono_l : ∀ k, (∀ y0 y1 y2 y3 y4 y5, LeO (spec_RedHatParse.j0 k y0 y1 y2 y3 y4 y5) (spec_RedHatParse.j0 (k + 1) y0 y1 y2 y3 y4 y5))
  | 0 => fun _ _ _ _ _ _ r h => by simp [spec_RedHatParse.j0] at h
  | k + 1 => by
    have ih0 := spec_RedHatParse.mono_l k
    · intro y0 y1 y2 y3 y4 y5
      unfold spec_RedHatParse.j0
      repeat' first
      | (with_reducible exact ih0 _ _ _ _ _ _)
      | (with_reducible exact spec_allDigits.mono _ _)
      | (with_reducible exact spec_indexOf.mono _ _ _)
      | (with_reducible exact LeO.refl _)
      | (with_reducible exact LeO.none _)
      | (with_reducible refine LeO.ite ?_ ?_)
      | (with_reducible refine LeO.bind ?_ (fun _ => ?_))
      | exact ih0 _ _ _ _ _ _
      | exact spec_allDigits.mono _ _
      | exact spec_indexOf.mono _ _ _
      | exact LeO.none _
      | refine LeO.ite ?_ ?_
      | refine LeO.bind ?_ (fun _ => ?_)
theorem spec_RedHatParse.mono : ∀ a0 k, LeO (spec_RedHatParse.f k a0) (spec_RedHatParse.f (k + 1) a0) := by
  intro a0 k
  have ih0 := spec_RedHatParse.mono_l k
  unfold spec_RedHatParse.f
  repeat' first
      | (with_reducible exact ih0 _ _ _ _ _ _)
      | (with_reducible exact spec_allDigits.mono _ _)
      | (with_reducible exact spec_indexOf.mono _ _ _)
      | (with_reducible exact LeO.refl _)
      | (with_reducible exact LeO.none _)
      | (with_reducible refine LeO.ite ?_ ?_)
      | (with_reducible refine LeO.bind ?_ (fun _ => ?_))
      | exact ih0 _ _ _ _ _ _
      | exact spec_allDigits.mono _ _
      | exact spec_indexOf.mono _ _ _
      | exact LeO.none _
      | refine LeO.ite ?_ ?_
      | refine LeO.bind ?_ (fun _ => ?_)
def spec_RedHatParse.T10 : Bool × List (List Nat × List Nat) := (true, [([], []), ([], []), ([0, 1], [0, 1]), ([], []), ([], []), ([3, 4], [3, 4]), ([0, 1, 2], []), ([6, 2, 0, 1, 2], [2, 6]), ([0, 1, 2, 3, 4, 5, 6, 7], []), ([8, 5, 7, 0, 1, 2, 3, 4, 5, 6, 7], [5, 8])])
def spec_RedHatParse.B10 : List Nat := [0, 0, 3, 0, 0, 24, 7, 71, 255, 511]
theorem spec_RedHatParse.tab10 : rtab .any (opsOf Tryd.f28 10) = spec_RedHatParse.T10 := by kernel_rfl
theorem spec_RedHatParse.bits10 : waitsOk spec_RedHatParse.T10.2 spec_RedHatParse.B10 = true := by kernel_rfl
set_option maxHeartbeats 8000000 in
set_option maxRecDepth 100000 in
theorem spec_RedHatParse.calls (k : Nat) (a0 : ByteArray) (r1 : ByteArray) (r2 : ByteArray) (r3 : ByteArray) (w : World) (h : spec_RedHatParse.f k a0 = some (r1, r2, r3)) :
    Calls Tryd.prog 28 #[.string a0] w fun e w' => e = .returned (.agg #[.string r1, .string r2, .string r3]) ∧ Below w.heap.size w w' := by
  have hu51 := Tryd.underlying51
  have HB := Aside0.mk (Below.refl w.heap.size w)
  have H : ((spec_indexOf.f k a0 58).bind fun t230 => (if t230 ≥ 0 then (if t230 = 0 then (spec_RedHatParse.j0 k a0 t230 true (⟨#[48]⟩ : ByteArray) (⟨#[]⟩ : ByteArray) (⟨#[]⟩ : ByteArray)) else (if 0 ≤ t230 then (if t230 ≤ (a0.size : Int) then ((spec_allDigits.f k (a0.extract 0 (t230 : Int).toNat)).bind fun t231 => (spec_RedHatParse.j0 k a0 t230 t231 (⟨#[48]⟩ : ByteArray) (⟨#[]⟩ : ByteArray) (⟨#[]⟩ : ByteArray))) else (none)) else (none))) else (spec_RedHatParse.j0 k a0 t230 false (⟨#[48]⟩ : ByteArray) (⟨#[]⟩ : ByteArray) (⟨#[]⟩ : ByteArray)))) = some (r1, r2, r3) := h
  clear h
  replace H := Option.bind_eq_some_iff.mp H
  obtain ⟨t230, A20, H⟩ := H
  replace H : (if t230 ≥ 0 then (if t230 = 0 then (spec_RedHatParse.j0 k a0 t230 true (⟨#[48]⟩ : ByteArray) (⟨#[]⟩ : ByteArray) (⟨#[]⟩ : ByteArray)) else (if 0 ≤ t230 then (if t230 ≤ (a0.size : Int) then ((spec_allDigits.f k (a0.extract 0 (t230 : Int).toNat)).bind fun t231 => (spec_RedHatParse.j0 k a0 t230 t231 (⟨#[48]⟩ : ByteArray) (⟨#[]⟩ : ByteArray) (⟨#[]⟩ : ByteArray))) else (none)) else (none))) else (spec_RedHatParse.j0 k a0 t230 false (⟨#[48]⟩ : ByteArray) (⟨#[]⟩ : ByteArray) (⟨#[]⟩ : ByteArray))) = some (r1, r2, r3) := H
  have A2 := Aside0.mk A20
  clear A20
  have HC3 := Aside0.mk H
  clear H
  go_enter Tryd.func28, Tryd.ntmps28
  go_upto_region 3 with (first | ((with_reducible refine gate_dst (N := 2) rfl ?_); refine box_event ?hg (N := 2) ?hd (cs := #[.string (⟨#[]⟩ : ByteArray), .string (⟨#[]⟩ : ByteArray), .string (⟨#[]⟩ : ByteArray)]) (t := 51) ?hr ?_; (case hd => rfl); (case hg => rfl); (case hr => first | (go_simp; done) | (go_simp; rfl)); intro gb228 hg w4 hbox hb; have n0_ := Aside0.mk (below_step (by repeat (first | (with_reducible first | exact HB.out | apply below_alloc | apply pw_below_drewN | apply below_drew1) | exact HB.out)) hb); have n1_ := Aside0.mk (hbox); have n2_ := Aside0.mk ((by rw [hg]; exact (below_size (by repeat (first | (with_reducible first | exact HB.out | apply below_alloc | apply pw_below_drewN | apply below_drew1) | exact HB.out))) : w.heap.size ≤ gb228)); have n3_ := Aside0.mk ((by rw [hg]; exact (below_size (by repeat (first | (with_reducible first | exact HB.out | apply below_alloc | apply pw_below_drewN | apply below_drew1) | exact HB.out))) : w.heap.size ≤ gb228)); clear HB; have HB := n0_; have BK228 := n1_; have GW228 := n2_; have GE228 := n3_; clear n0_ n1_ n2_ n3_; clear hb hbox hg) | ((with_reducible refine gate_dst (N := 3) rfl ?_); refine box_event ?hg (N := 3) ?hd (cs := #[.string (⟨#[]⟩ : ByteArray), .string (⟨#[]⟩ : ByteArray), .string (⟨#[]⟩ : ByteArray)]) (t := 51) ?hr ?_; (case hd => rfl); (case hg => rfl); (case hr => first | (go_simp; done) | (go_simp; rfl)); intro gb229 hg w5 hbox hb; have n0_ := Aside0.mk (blk_below (g := gb228) (o := .cells #[.string (⟨#[]⟩ : ByteArray), .string (⟨#[]⟩ : ByteArray), .string (⟨#[]⟩ : ByteArray)] 51 (0, 0)) (by (with_reducible repeat (first | refine blk_drewN ?_ _ | refine blk_drew ?_ | refine blk_alloc ?_ _)); exact BK228.out) hb); have n1_ := Aside0.mk (below_step (by repeat (first | (with_reducible first | exact HB.out | apply below_alloc | apply pw_below_drewN | apply below_drew1 | refine below_set ?_ GE228.out) | exact HB.out)) hb); have n2_ := Aside0.mk (hbox); have n3_ := Aside0.mk ((by rw [hg]; exact (below_size (by repeat (first | (with_reducible first | exact HB.out | apply below_alloc | apply pw_below_drewN | apply below_drew1 | refine below_set ?_ GE228.out) | exact HB.out))) : w.heap.size ≤ gb229)); have n4_ := Aside0.mk ((by rw [hg]; exact (below_size (by repeat (first | (with_reducible first | exact HB.out | apply below_alloc | apply pw_below_drewN | apply below_drew1 | refine below_set ?_ GE228.out) | exact HB.out))) : w.heap.size ≤ gb229)); have n5_ := Aside0.mk ((by rw [hg]; exact Nat.ne_of_lt (blk_lt (g := gb228) (o := .cells #[.string (⟨#[]⟩ : ByteArray), .string (⟨#[]⟩ : ByteArray), .string (⟨#[]⟩ : ByteArray)] 51 (0, 0)) (by (with_reducible repeat (first | refine blk_drewN ?_ _ | refine blk_drew ?_ | refine blk_alloc ?_ _)); exact BK228.out)) : gb228 ≠ gb229)); have n6_ := Aside0.mk ((by rw [hg]; exact Nat.ne_of_gt (blk_lt (g := gb228) (o := .cells #[.string (⟨#[]⟩ : ByteArray), .string (⟨#[]⟩ : ByteArray), .string (⟨#[]⟩ : ByteArray)] 51 (0, 0)) (by (with_reducible repeat (first | refine blk_drewN ?_ _ | refine blk_drew ?_ | refine blk_alloc ?_ _)); exact BK228.out)) : gb229 ≠ gb228)); clear BK228; clear HB; have BK228 := n0_; have HB := n1_; have BK229 := n2_; have GW229 := n3_; have GE229 := n4_; have NB228_229 := n5_; have NB229_228 := n6_; clear n0_ n1_ n2_ n3_ n4_ n5_ n6_; clear hb hbox hg; have hnb6 := NB229_228.out; have hnc6 := NB228_229.out; have hcz7_0 : w5.cell? ⟨gb229, 0, none⟩ = some (.string (⟨#[]⟩ : ByteArray)) := (blk_cell BK229.out 0).trans rfl; have hcz7_1 : w5.cell? ⟨gb229, 1, none⟩ = some (.string (⟨#[]⟩ : ByteArray)) := (blk_cell BK229.out 1).trans rfl; have hcz7_2 : w5.cell? ⟨gb229, 2, none⟩ = some (.string (⟨#[]⟩ : ByteArray)) := (blk_cell BK229.out 2).trans rfl; have hfz7_0 := blk_frozen BK229.out 0; have hfz7_1 := blk_frozen BK229.out 1; have hfz7_2 := blk_frozen BK229.out 2) | ((with_reducible refine gate_callee (f := 39) rfl ?_); refine goesL_ (some 8) rfl rfl Tryd.func39 (by kernel_rfl) rfl #[.string a0, .int .u8 58] rfl (by (try simp only [List.map_toArray, List.map_cons, List.map_nil]); first | done | rfl | (simp only [List.length_drop, List.length_take]; rfl)) ?_; (with_reducible refine (spec_indexOf.calls k a0 58 t230 _ A2.out).mono ?_); rintro e w' ⟨rfl, ⟨nd, rfl⟩⟩; refine ⟨_, rfl, ?_⟩))
  (try simp only [Act.put, List.setIfInBounds_toArray, List.set_cons_zero, List.set_cons_succ])
  go_cut [20] (fun v20 wc => ∃ (kq : Nat) (x20_2 : Bool), v20 = .bool x20_2 ∧ Aside0 (spec_RedHatParse.j0 kq a0 t230 x20_2 (⟨#[48]⟩ : ByteArray) (⟨#[]⟩ : ByteArray) (⟨#[]⟩ : ByteArray) = some (r1, r2, r3)) ∧ Aside0 (kq ≤ k) ∧ Aside0 (wc.heap[gb228]? = some (.cells #[.string (⟨#[]⟩ : ByteArray), .string (⟨#[]⟩ : ByteArray), .string (⟨#[]⟩ : ByteArray)] 51 (0, 0))) ∧ Aside0 (wc.heap[gb229]? = some (.cells #[.string (⟨#[48]⟩ : ByteArray), .string (⟨#[]⟩ : ByteArray), .string (⟨#[]⟩ : ByteArray)] 51 (0, 0))) ∧ Aside0 (Below w.heap.size w wc))
  case first =>
    have H := HC3.out
    clear HC3
    by_cases c8 : t230 ≥ 0
    · rw [if_pos c8] at H
      have c8b0 : decide (0 ≤ t230) = true := decide_eq_true c8
      clear c8
      (first | rw [c8b0] | (simp only [i64_w, i32_w]; rw [c8b0]) | skip)
      by_cases c9 : t230 = 0
      · rw [if_pos c9] at H
        have c9b0 : (t230 == 0) = true := beq_iff_eq.mpr c9
        have c9b1 : (t230 != 0) = false := bne_eq_false_iff_eq.mpr c9
        clear c9
        have H' := Aside0.mk H
        clear H
        go_wp2
        go_meet
        case rel => exact ⟨_, (true), (by first | rfl | (simp; done) | (simp [*]; done)), H', ⟨by first | omega | exact Nat.le_refl _⟩, ⟨by (with_reducible repeat (first | refine blk_drewN ?_ _ | refine blk_drew ?_ | refine blk_alloc ?_ _)); refine blk_far ?_ NB228_229.out _; (with_reducible repeat (first | refine blk_drewN ?_ _ | refine blk_drew ?_ | refine blk_alloc ?_ _)); refine blk_far ?_ NB228_229.out _; (with_reducible repeat (first | refine blk_drewN ?_ _ | refine blk_drew ?_ | refine blk_alloc ?_ _)); refine blk_far ?_ NB228_229.out _; (with_reducible repeat (first | refine blk_drewN ?_ _ | refine blk_drew ?_ | refine blk_alloc ?_ _)); exact BK228.out⟩, ⟨by (with_reducible repeat (first | refine blk_drewN ?_ _ | refine blk_drew ?_ | refine blk_alloc ?_ _)); refine blk_put (cs := #[.string (⟨#[48]⟩ : ByteArray), .string (⟨#[]⟩ : ByteArray), .string (⟨#[]⟩ : ByteArray)]) ?_ 2 _ rfl; (with_reducible repeat (first | refine blk_drewN ?_ _ | refine blk_drew ?_ | refine blk_alloc ?_ _)); refine blk_put (cs := #[.string (⟨#[48]⟩ : ByteArray), .string (⟨#[]⟩ : ByteArray), .string (⟨#[]⟩ : ByteArray)]) ?_ 1 _ rfl; (with_reducible repeat (first | refine blk_drewN ?_ _ | refine blk_drew ?_ | refine blk_alloc ?_ _)); refine blk_put (cs := #[.string (⟨#[]⟩ : ByteArray), .string (⟨#[]⟩ : ByteArray), .string (⟨#[]⟩ : ByteArray)]) ?_ 0 _ rfl; (with_reducible repeat (first | refine blk_drewN ?_ _ | refine blk_drew ?_ | refine blk_alloc ?_ _)); exact BK229.out⟩, ⟨by repeat (first | (with_reducible first | exact HB.out | apply below_alloc | apply pw_below_drewN | apply below_drew1 | refine below_set ?_ GE228.out | refine below_set ?_ GE229.out) | exact HB.out)⟩⟩
      · rw [if_neg c9] at H
        have c9b0 : (t230 == 0) = false := beq_eq_false_iff_ne.mpr c9
        have c9b1 : (t230 != 0) = true := bne_iff_ne.mpr c9
        by_cases c10 : 0 ≤ t230
        · rw [if_pos c10] at H
          have c10b0 := eq_true c10
          have c10b1 : decide (0 ≤ t230) = true := decide_eq_true c10
          clear c10
          by_cases c11 : t230 ≤ (a0.size : Int)
          · rw [if_pos c11] at H
            have c11b0 := eq_true c11
            have c11b1 : decide (t230 ≤ (a0.size : Int)) = true := decide_eq_true c11
            clear c11
            replace H := Option.bind_eq_some_iff.mp H
            obtain ⟨t231, A120, H⟩ := H
            replace H : (spec_RedHatParse.j0 k a0 t230 t231 (⟨#[48]⟩ : ByteArray) (⟨#[]⟩ : ByteArray) (⟨#[]⟩ : ByteArray)) = some (r1, r2, r3) := H
            have A12 := Aside0.mk A120
            clear A120
            have H' := Aside0.mk H
            clear H
            go_wp2_with (first | (go_at_call 22; (with_reducible refine (spec_allDigits.calls k (a0.extract 0 (t230 : Int).toNat) t231 _ A12.out).mono ?_); rintro e w' ⟨rfl, ⟨nd, rfl⟩⟩))
            go_meet
            case rel => exact ⟨_, (t231), (by first | rfl | (simp; done) | (simp [*]; done)), H', ⟨by first | omega | exact Nat.le_refl _⟩, ⟨by (with_reducible repeat (first | refine blk_drewN ?_ _ | refine blk_drew ?_ | refine blk_alloc ?_ _)); refine blk_far ?_ NB228_229.out _; (with_reducible repeat (first | refine blk_drewN ?_ _ | refine blk_drew ?_ | refine blk_alloc ?_ _)); refine blk_far ?_ NB228_229.out _; (with_reducible repeat (first | refine blk_drewN ?_ _ | refine blk_drew ?_ | refine blk_alloc ?_ _)); refine blk_far ?_ NB228_229.out _; (with_reducible repeat (first | refine blk_drewN ?_ _ | refine blk_drew ?_ | refine blk_alloc ?_ _)); exact BK228.out⟩, ⟨by (with_reducible repeat (first | refine blk_drewN ?_ _ | refine blk_drew ?_ | refine blk_alloc ?_ _)); refine blk_put (cs := #[.string (⟨#[48]⟩ : ByteArray), .string (⟨#[]⟩ : ByteArray), .string (⟨#[]⟩ : ByteArray)]) ?_ 2 _ rfl; (with_reducible repeat (first | refine blk_drewN ?_ _ | refine blk_drew ?_ | refine blk_alloc ?_ _)); refine blk_put (cs := #[.string (⟨#[48]⟩ : ByteArray), .string (⟨#[]⟩ : ByteArray), .string (⟨#[]⟩ : ByteArray)]) ?_ 1 _ rfl; (with_reducible repeat (first | refine blk_drewN ?_ _ | refine blk_drew ?_ | refine blk_alloc ?_ _)); refine blk_put (cs := #[.string (⟨#[]⟩ : ByteArray), .string (⟨#[]⟩ : ByteArray), .string (⟨#[]⟩ : ByteArray)]) ?_ 0 _ rfl; (with_reducible repeat (first | refine blk_drewN ?_ _ | refine blk_drew ?_ | refine blk_alloc ?_ _)); exact BK229.out⟩, ⟨by repeat (first | (with_reducible first | exact HB.out | apply below_alloc | apply pw_below_drewN | apply below_drew1 | refine below_set ?_ GE228.out | refine below_set ?_ GE229.out) | exact HB.out)⟩⟩
          · rw [if_neg c11] at H
            exact absurd H (by simp)
        · rw [if_neg c10] at H
          exact absurd H (by simp)
    · rw [if_neg c8] at H
      have c8b0 : decide (0 ≤ t230) = false := decide_eq_false c8
      clear c8
      (first | rw [c8b0] | (simp only [i64_w, i32_w]; rw [c8b0]) | skip)
      have H' := Aside0.mk H
      clear H
      go_wp2
      go_meet
      case rel => exact ⟨_, (false), (by first | rfl | (simp; done) | (simp [*]; done)), H', ⟨by first | omega | exact Nat.le_refl _⟩, ⟨by (with_reducible repeat (first | refine blk_drewN ?_ _ | refine blk_drew ?_ | refine blk_alloc ?_ _)); refine blk_far ?_ NB228_229.out _; (with_reducible repeat (first | refine blk_drewN ?_ _ | refine blk_drew ?_ | refine blk_alloc ?_ _)); refine blk_far ?_ NB228_229.out _; (with_reducible repeat (first | refine blk_drewN ?_ _ | refine blk_drew ?_ | refine blk_alloc ?_ _)); refine blk_far ?_ NB228_229.out _; (with_reducible repeat (first | refine blk_drewN ?_ _ | refine blk_drew ?_ | refine blk_alloc ?_ _)); exact BK228.out⟩, ⟨by (with_reducible repeat (first | refine blk_drewN ?_ _ | refine blk_drew ?_ | refine blk_alloc ?_ _)); refine blk_put (cs := #[.string (⟨#[48]⟩ : ByteArray), .string (⟨#[]⟩ : ByteArray), .string (⟨#[]⟩ : ByteArray)]) ?_ 2 _ rfl; (with_reducible repeat (first | refine blk_drewN ?_ _ | refine blk_drew ?_ | refine blk_alloc ?_ _)); refine blk_put (cs := #[.string (⟨#[48]⟩ : ByteArray), .string (⟨#[]⟩ : ByteArray), .string (⟨#[]⟩ : ByteArray)]) ?_ 1 _ rfl; (with_reducible repeat (first | refine blk_drewN ?_ _ | refine blk_drew ?_ | refine blk_alloc ?_ _)); refine blk_put (cs := #[.string (⟨#[]⟩ : ByteArray), .string (⟨#[]⟩ : ByteArray), .string (⟨#[]⟩ : ByteArray)]) ?_ 0 _ rfl; (with_reducible repeat (first | refine blk_drewN ?_ _ | refine blk_drew ?_ | refine blk_alloc ?_ _)); exact BK229.out⟩, ⟨by repeat (first | (with_reducible first | exact HB.out | apply below_alloc | apply pw_below_drewN | apply below_drew1 | refine below_set ?_ GE228.out | refine below_set ?_ GE229.out) | exact HB.out)⟩⟩
  case rest =>
    clear HC3
    try clear c1
    try clear c2
    try clear p2
    try clear c3
    try clear c6
    try clear c8
    try clear c8b0
    try clear c9
    try clear c9b0
    try clear c9b1
    try clear c10
    try clear c10b0
    try clear c10b1
    try clear c11
    try clear c11b0
    try clear c11b1
    try clear hcz7_0
    try clear hcz7_1
    try clear hcz7_2
    try clear hfz7_0
    try clear hfz7_1
    try clear hfz7_2
    obtain ⟨kq, x20_2, rfl, HA, HJ2, BK228, BK229, HB⟩ := hcut
    cases kq with
    | zero => exact absurd HA.out (by simp [spec_RedHatParse.j0])
    | succ kj2 =>
      have H := HA.out
      clear HA
      simp only [spec_RedHatParse.j0] at H
      by_cases c13 : x20_2 = true
      · subst c13
        have H1 : (if t230 > 0 then (if 0 ≤ t230 then (if t230 ≤ (a0.size : Int) then (if 0 ≤ (wrap64 (t230 + 1)) then (if (wrap64 (t230 + 1)) ≤ (a0.size : Int) then ((spec_indexOf.f kj2 (a0.extract ((wrap64 (t230 + 1)) : Int).toNat a0.size) 45).bind fun t232 => (if t232 ≥ 0 then (if 0 ≤ t232 then (if t232 ≤ ((a0.size - ((wrap64 (t230 + 1)) : Int).toNat : Nat) : Int) then (some (a0.extract 0 (t230 : Int).toNat, (a0.extract ((wrap64 (t230 + 1)) : Int).toNat a0.size).extract 0 (t232 : Int).toNat, (a0.extract ((wrap64 (t230 + 1)) : Int).toNat a0.size).extract (t232 : Int).toNat (a0.size - ((wrap64 (t230 + 1)) : Int).toNat))) else (none)) else (none)) else (some (a0.extract 0 (t230 : Int).toNat, a0.extract ((wrap64 (t230 + 1)) : Int).toNat a0.size, (⟨#[]⟩ : ByteArray))))) else (none)) else (none)) else (none)) else (none)) else (if 0 ≤ (wrap64 (t230 + 1)) then (if (wrap64 (t230 + 1)) ≤ (a0.size : Int) then ((spec_indexOf.f kj2 (a0.extract ((wrap64 (t230 + 1)) : Int).toNat a0.size) 45).bind fun t233 => (if t233 ≥ 0 then (if 0 ≤ t233 then (if t233 ≤ ((a0.size - ((wrap64 (t230 + 1)) : Int).toNat : Nat) : Int) then (some ((⟨#[48]⟩ : ByteArray), (a0.extract ((wrap64 (t230 + 1)) : Int).toNat a0.size).extract 0 (t233 : Int).toNat, (a0.extract ((wrap64 (t230 + 1)) : Int).toNat a0.size).extract (t233 : Int).toNat (a0.size - ((wrap64 (t230 + 1)) : Int).toNat))) else (none)) else (none)) else (some ((⟨#[48]⟩ : ByteArray), a0.extract ((wrap64 (t230 + 1)) : Int).toNat a0.size, (⟨#[]⟩ : ByteArray))))) else (none)) else (none))) = some (r1, r2, r3) := by rw [if_pos rfl] at H; exact H
        clear H
        have H := H1
        clear H1
        by_cases c14 : t230 > 0
        · rw [if_pos c14] at H
          have c14b0 : decide (0 < t230) = true := decide_eq_true c14
          clear c14
          by_cases c15 : 0 ≤ t230
          · rw [if_pos c15] at H
            have c15b0 := eq_true c15
            have c15b1 : decide (0 ≤ t230) = true := decide_eq_true c15
            clear c15
            by_cases c16 : t230 ≤ (a0.size : Int)
            · rw [if_pos c16] at H
              have c16b0 := eq_true c16
              have c16b1 : decide (t230 ≤ (a0.size : Int)) = true := decide_eq_true c16
              clear c16
              obtain ⟨ji17, hji17⟩ : ∃ j_ : Int, (wrap64 (t230 + 1)) = j_ := ⟨_, rfl⟩
              replace H : (if 0 ≤ (ji17) then (if (ji17) ≤ (a0.size : Int) then ((spec_indexOf.f kj2 (a0.extract ((ji17) : Int).toNat a0.size) 45).bind fun t232 => (if t232 ≥ 0 then (if 0 ≤ t232 then (if t232 ≤ ((a0.size - ((ji17) : Int).toNat : Nat) : Int) then (some (a0.extract 0 (t230 : Int).toNat, (a0.extract ((ji17) : Int).toNat a0.size).extract 0 (t232 : Int).toNat, (a0.extract ((ji17) : Int).toNat a0.size).extract (t232 : Int).toNat (a0.size - ((ji17) : Int).toNat))) else (none)) else (none)) else (some (a0.extract 0 (t230 : Int).toNat, a0.extract ((ji17) : Int).toNat a0.size, (⟨#[]⟩ : ByteArray))))) else (none)) else (none)) = some (r1, r2, r3) := by first | (rw [hji17] at H; exact H) | (simp only [hji17] at H ⊢; exact H)
              have hji17w : (IntKind.i64.wrap (t230 + 1)) = ji17 := (i64_w _).trans hji17
              by_cases c18 : 0 ≤ (ji17)
              · rw [if_pos c18] at H
                have c18b0 := eq_true c18
                have c18b1 : decide (0 ≤ (ji17)) = true := decide_eq_true c18
                clear c18
                by_cases c19 : (ji17) ≤ (a0.size : Int)
                · rw [if_pos c19] at H
                  have c19b0 := eq_true c19
                  have c19b1 : decide ((ji17) ≤ (a0.size : Int)) = true := decide_eq_true c19
                  clear c19
                  replace H := Option.bind_eq_some_iff.mp H
                  obtain ⟨t232, A200, H⟩ := H
                  replace H : (if t232 ≥ 0 then (if 0 ≤ t232 then (if t232 ≤ ((a0.size - ((ji17) : Int).toNat : Nat) : Int) then (some (a0.extract 0 (t230 : Int).toNat, (a0.extract ((ji17) : Int).toNat a0.size).extract 0 (t232 : Int).toNat, (a0.extract ((ji17) : Int).toNat a0.size).extract (t232 : Int).toNat (a0.size - ((ji17) : Int).toNat))) else (none)) else (none)) else (some (a0.extract 0 (t230 : Int).toNat, a0.extract ((ji17) : Int).toNat a0.size, (⟨#[]⟩ : ByteArray)))) = some (r1, r2, r3) := H
                  have A20 := Aside0.mk A200
                  clear A200
                  by_cases c21 : t232 ≥ 0
                  · rw [if_pos c21] at H
                    have c21b0 : decide (0 ≤ t232) = true := decide_eq_true c21
                    clear c21
                    by_cases c22 : 0 ≤ t232
                    · rw [if_pos c22] at H
                      have c22b0 := eq_true c22
                      have c22b1 : decide (0 ≤ t232) = true := decide_eq_true c22
                      clear c22
                      by_cases c23 : t232 ≤ ((a0.size - ((ji17) : Int).toNat : Nat) : Int)
                      · rw [if_pos c23] at H
                        have c23b0 := eq_true c23
                        have c23b1 : decide (t232 ≤ ((a0.size - ((ji17) : Int).toNat : Nat) : Int)) = true := decide_eq_true c23
                        clear c23
                        have c24b0 := eq_true (of_decide_eq_true (by first | (with_reducible assumption) | assumption) : 0 ≤ t232)
                        have c25b0 := eq_true (of_decide_eq_true (by first | (with_reducible assumption) | assumption) : t232 ≤ ((a0.size - ((ji17) : Int).toNat : Nat) : Int))
                        simp only [Option.some.injEq, Prod.mk.injEq] at H
                        obtain ⟨rfl, rfl, rfl⟩ := H
                        have hnb26 := NB229_228.out
                        have hnc26 := NB228_229.out
                        have hcz27_0 : wc.cell? ⟨gb229, 0, none⟩ = some (.string (⟨#[48]⟩ : ByteArray)) := (blk_cell BK229.out 0).trans rfl
                        have hcz27_1 : wc.cell? ⟨gb229, 1, none⟩ = some (.string (⟨#[]⟩ : ByteArray)) := (blk_cell BK229.out 1).trans rfl
                        have hcz27_2 : wc.cell? ⟨gb229, 2, none⟩ = some (.string (⟨#[]⟩ : ByteArray)) := (blk_cell BK229.out 2).trans rfl
                        have hfz27_0 := blk_frozen BK229.out 0
                        have hfz27_1 := blk_frozen BK229.out 1
                        have hfz27_2 := blk_frozen BK229.out 2
                        try go_wp2_with (first | ((with_reducible refine gate_callee (f := 39) rfl ?_); refine goesL_ (some 34) rfl rfl Tryd.func39 (by kernel_rfl) rfl #[.string (a0.extract ((ji17) : Int).toNat a0.size), .int .u8 45] rfl (by (try simp only [List.map_toArray, List.map_cons, List.map_nil]); first | done | (simp only [hji17]; rfl) | rfl | (simp only [List.length_drop, List.length_take]; rfl)) ?_; (with_reducible refine (spec_indexOf.calls kj2 (a0.extract ((ji17) : Int).toNat a0.size) 45 t232 _ A20.out).mono ?_); rintro e w' ⟨rfl, ⟨nd, rfl⟩⟩; refine ⟨_, rfl, ?_⟩))
                        have n0_ : Aside0 (((wc.setCell ⟨gb229, 0, none⟩ (.string (a0.extract 0 (t230 : Int).toNat))).setCell ⟨gb229, 1, none⟩ (.string (a0.extract ((ji17) : Int).toNat a0.size))).heap[gb228]? = some (.cells #[.string (⟨#[]⟩ : ByteArray), .string (⟨#[]⟩ : ByteArray), .string (⟨#[]⟩ : ByteArray)] 51 (0, 0))) := ⟨by (with_reducible repeat (first | refine blk_drewN ?_ _ | refine blk_drew ?_ | refine blk_alloc ?_ _)); refine blk_far ?_ NB228_229.out _; (with_reducible repeat (first | refine blk_drewN ?_ _ | refine blk_drew ?_ | refine blk_alloc ?_ _)); refine blk_far ?_ NB228_229.out _; (with_reducible repeat (first | refine blk_drewN ?_ _ | refine blk_drew ?_ | refine blk_alloc ?_ _)); exact BK228.out⟩
                        have n1_ : Aside0 (((wc.setCell ⟨gb229, 0, none⟩ (.string (a0.extract 0 (t230 : Int).toNat))).setCell ⟨gb229, 1, none⟩ (.string (a0.extract ((ji17) : Int).toNat a0.size))).heap[gb229]? = some (.cells #[.string (a0.extract 0 (t230 : Int).toNat), .string (a0.extract ((ji17) : Int).toNat a0.size), .string (⟨#[]⟩ : ByteArray)] 51 (0, 0))) := ⟨by (with_reducible repeat (first | refine blk_drewN ?_ _ | refine blk_drew ?_ | refine blk_alloc ?_ _)); refine blk_put (cs := #[.string (a0.extract 0 (t230 : Int).toNat), .string (⟨#[]⟩ : ByteArray), .string (⟨#[]⟩ : ByteArray)]) ?_ 1 _ rfl; (with_reducible repeat (first | refine blk_drewN ?_ _ | refine blk_drew ?_ | refine blk_alloc ?_ _)); refine blk_put (cs := #[.string (⟨#[48]⟩ : ByteArray), .string (⟨#[]⟩ : ByteArray), .string (⟨#[]⟩ : ByteArray)]) ?_ 0 _ rfl; (with_reducible repeat (first | refine blk_drewN ?_ _ | refine blk_drew ?_ | refine blk_alloc ?_ _)); exact BK229.out⟩
                        have n2_ : Aside0 (Below w.heap.size w ((wc.setCell ⟨gb229, 0, none⟩ (.string (a0.extract 0 (t230 : Int).toNat))).setCell ⟨gb229, 1, none⟩ (.string (a0.extract ((ji17) : Int).toNat a0.size)))) := ⟨by repeat (first | (with_reducible first | exact HB.out | apply below_alloc | apply pw_below_drewN | apply below_drew1 | refine below_set ?_ GE228.out | refine below_set ?_ GE229.out) | exact HB.out)⟩
                        (try clear BK228)
                        (try clear BK229)
                        (try clear HB)
                        generalize ((wc.setCell ⟨gb229, 0, none⟩ (.string (a0.extract 0 (t230 : Int).toNat))).setCell ⟨gb229, 1, none⟩ (.string (a0.extract ((ji17) : Int).toNat a0.size))) = w28 at n0_ n1_ n2_ ⊢
                        have BK228 := n0_
                        have BK229 := n1_
                        have HB := n2_
                        clear n0_ n1_ n2_
                        (try (rw [drewN_self w28]; generalize hq_ : World.drewN w28 _ = w28; have n0_ : Aside0 (w28.heap[gb228]? = some (.cells #[.string (⟨#[]⟩ : ByteArray), .string (⟨#[]⟩ : ByteArray), .string (⟨#[]⟩ : ByteArray)] 51 (0, 0))) := ⟨by rw [← hq_]; exact (by (with_reducible repeat (first | refine blk_drewN ?_ _ | refine blk_drew ?_ | refine blk_alloc ?_ _)); exact BK228.out)⟩; have n1_ : Aside0 (w28.heap[gb229]? = some (.cells #[.string (a0.extract 0 (t230 : Int).toNat), .string (a0.extract ((ji17) : Int).toNat a0.size), .string (⟨#[]⟩ : ByteArray)] 51 (0, 0))) := ⟨by rw [← hq_]; exact (by (with_reducible repeat (first | refine blk_drewN ?_ _ | refine blk_drew ?_ | refine blk_alloc ?_ _)); exact BK229.out)⟩; have n2_ : Aside0 (Below w.heap.size w w28) := ⟨by rw [← hq_]; exact (by repeat (first | (with_reducible first | exact HB.out | apply below_alloc | apply pw_below_drewN | apply below_drew1 | refine below_set ?_ GE228.out | refine below_set ?_ GE229.out) | exact HB.out))⟩; clear BK228 BK229 HB hq_; have BK228 := n0_; have BK229 := n1_; have HB := n2_; clear n0_ n1_ n2_))
                        have n0_ := Aside0.mk (blk_drew BK228.out)
                        have n1_ := Aside0.mk (blk_drew BK229.out)
                        have n2_ := Aside0.mk (below_drew1 HB.out)
                        clear BK228
                        clear BK229
                        clear HB
                        have BK228 := n0_
                        have BK229 := n1_
                        have HB := n2_
                        clear n0_ n1_ n2_
                        refine start_ (n := 10) (S := fun w' => True) (ds := []) #[false, false, false, false, false, false, false, false, false, false] (by kernel_rfl) rfl rfl trivial (fun hHeld => ?_); refine with_tabW spec_RedHatParse.tab10 spec_RedHatParse.bits10 (fun HT_ HW_ => ?_)
                        generalize w28.drew = w29 at BK228 BK229 HB hHeld ⊢
                        refine pure_ (i := 0) (N := some 37) (v := ?_) (a' := ?_) #[true, false, false, false, false, false, false, false, false, false] rfl rfl (any_of HT_.out (by kernel_rfl)) (fun _ _ _ h => h) (Or.inl ⟨by rfl, ?_⟩) ?_ ?_
                        rotate_left
                        · intro w'
                          go_simp
                          with_reducible rfl
                        rotate_left
                        · simp only [Act.put, List.setIfInBounds_toArray, List.set_cons_zero, List.set_cons_succ, i64_w, i32_w]
                          rfl
                        refine pure_ (i := 1) (N := some 38) (v := ?_) (a' := ?_) #[true, true, false, false, false, false, false, false, false, false] rfl rfl (any_of HT_.out (by kernel_rfl)) (fun _ _ _ h => h) (Or.inl ⟨by rfl, ?_⟩) ?_ ?_
                        rotate_left
                        · intro w'
                          go_simp
                          with_reducible rfl
                        rotate_left
                        · simp only [Act.put, List.setIfInBounds_toArray, List.set_cons_zero, List.set_cons_succ, i64_w, i32_w]
                          rfl
                        refine pure_ (i := 2) (N := some 39) (v := ?_) (a' := ?_) #[true, true, true, false, false, false, false, false, false, false] rfl rfl (any_of HT_.out (by kernel_rfl)) (fun _ _ _ h => h) (Or.inl ⟨by rfl, ?_⟩) ?_ ?_
                        rotate_left
                        · intro w'
                          go_simp
                          with_reducible rfl
                        rotate_left
                        · simp only [Act.put, List.setIfInBounds_toArray, List.set_cons_zero, List.set_cons_succ, i64_w, i32_w]
                          rfl
                        refine pure_ (i := 3) (N := some 40) (v := ?_) (a' := ?_) #[true, true, true, true, false, false, false, false, false, false] rfl rfl (any_of HT_.out (by kernel_rfl)) (fun _ _ _ h => h) (Or.inl ⟨by rfl, ?_⟩) ?_ ?_
                        rotate_left
                        · intro w'
                          go_simp
                          with_reducible rfl
                        rotate_left
                        · simp only [Act.put, List.setIfInBounds_toArray, List.set_cons_zero, List.set_cons_succ, i64_w, i32_w]
                          rfl
                        refine pure_ (i := 4) (N := some 41) (v := ?_) (a' := ?_) #[true, true, true, true, true, false, false, false, false, false] rfl rfl (any_of HT_.out (by kernel_rfl)) (fun _ _ _ h => h) (Or.inl ⟨by rfl, ?_⟩) ?_ ?_
                        rotate_left
                        · intro w'
                          go_simp
                          with_reducible rfl
                        rotate_left
                        · simp only [Act.put, List.setIfInBounds_toArray, List.set_cons_zero, List.set_cons_succ, i64_w, i32_w]
                          rfl
                        refine pure_ (i := 5) (N := some 42) (v := ?_) (a' := ?_) #[true, true, true, true, true, true, false, false, false, false] rfl rfl (any_of HT_.out (by kernel_rfl)) (fun _ _ _ h => h) (Or.inl ⟨by rfl, ?_⟩) ?_ ?_
                        rotate_left
                        · intro w'
                          go_simp
                          with_reducible rfl
                        rotate_left
                        · simp only [Act.put, List.setIfInBounds_toArray, List.set_cons_zero, List.set_cons_succ, i64_w, i32_w]
                          rfl
                        refine pure_ (i := 6) (N := some 43) (v := ?_) (a' := ?_) #[true, true, true, true, true, true, true, false, false, false] rfl rfl (any_of HT_.out (by kernel_rfl)) (fun _ _ _ h => h) (Or.inl ⟨by rfl, ?_⟩) ?_ ?_
                        rotate_left
                        · intro w'
                          go_simp
                          with_reducible rfl
                        rotate_left
                        · simp only [Act.put, List.setIfInBounds_toArray, List.set_cons_zero, List.set_cons_succ, i64_w, i32_w]
                          rfl
                        refine one_ (i := 7) (N := none) #[true, true, true, true, true, true, true, true, false, false] rfl rfl (one_of HT_.out (by kernel_rfl)) (by decide) (fun K hK => ?_)
                        have hs30 : w29.cell? ⟨gb229, 1, none⟩ = some (.string (a0.extract ((ji17) : Int).toNat a0.size)) := (blk_cell BK229.out 1).trans rfl
                        have hfs30 := blk_frozen BK229.out 1
                        have hns30_0 := NB228_229.out
                        have hms30_0 := NB229_228.out
                        refine skip_ (w1 := ?_) (by rfl) rfl ?_ ?_
                        rotate_left
                        · go_simp
                          rfl
                        refine hK.out _ _ trivial (fun hHeld => ?_)
                        clear hK K
                        refine pure_ (i := 8) (N := some 44) (v := ?_) (a' := ?_) #[true, true, true, true, true, true, true, true, true, false] rfl rfl (any_of HT_.out (by kernel_rfl)) (fun _ _ _ h => h) (Or.inl ⟨by rfl, ?_⟩) ?_ ?_
                        rotate_left
                        · intro w'
                          go_simp
                          with_reducible rfl
                        rotate_left
                        · simp only [Act.put, List.setIfInBounds_toArray, List.set_cons_zero, List.set_cons_succ, i64_w, i32_w]
                          rfl
                        refine one_ (i := 9) (N := none) #[true, true, true, true, true, true, true, true, true, true] rfl rfl (one_of HT_.out (by kernel_rfl)) (by decide) (fun K hK => ?_)
                        have hs31 : w29.cell? ⟨gb229, 2, none⟩ = some (.string (⟨#[]⟩ : ByteArray)) := (blk_cell BK229.out 2).trans rfl
                        have hfs31 := blk_frozen BK229.out 2
                        have hns31_0 := NB228_229.out
                        have hms31_0 := NB229_228.out
                        refine skip_ (w1 := ?_) (by rfl) rfl ?_ ?_
                        rotate_left
                        · go_simp
                          rfl
                        refine hK.out _ _ trivial (fun hHeld => ?_)
                        clear hK K
                        refine done_ (done_of HT_.out (by kernel_rfl)) ?_
                        have hcz32_0 : w29.cell? ⟨gb229, 0, none⟩ = some (.string (a0.extract 0 (t230 : Int).toNat)) := (blk_cell BK229.out 0).trans rfl
                        have hcz32_1 : w29.cell? ⟨gb229, 1, none⟩ = some (.string (a0.extract ((ji17) : Int).toNat a0.size)) := (blk_cell BK229.out 1).trans rfl
                        have hcz32_2 : w29.cell? ⟨gb229, 2, none⟩ = some (.string (⟨#[]⟩ : ByteArray)) := (blk_cell BK229.out 2).trans rfl
                        have hfz32_0 := blk_frozen BK229.out 0
                        have hfz32_1 := blk_frozen BK229.out 1
                        have hfz32_2 := blk_frozen BK229.out 2
                        have hcz33_0 : w29.cell? ⟨gb228, 0, none⟩ = some (.string (⟨#[]⟩ : ByteArray)) := (blk_cell BK228.out 0).trans rfl
                        have hcz33_1 : w29.cell? ⟨gb228, 1, none⟩ = some (.string (⟨#[]⟩ : ByteArray)) := (blk_cell BK228.out 1).trans rfl
                        have hcz33_2 : w29.cell? ⟨gb228, 2, none⟩ = some (.string (⟨#[]⟩ : ByteArray)) := (blk_cell BK228.out 2).trans rfl
                        have hfz33_0 := blk_frozen BK228.out 0
                        have hfz33_1 := blk_frozen BK228.out 1
                        have hfz33_2 := blk_frozen BK228.out 2
                        try go_wp2
                        refine bodyPost_ret (results_cell_row rfl _ _ gb228 51 #[.string (a0.extract 0 (t230 : Int).toNat), .string ((a0.extract ((ji17) : Int).toNat a0.size).extract 0 (t232 : Int).toNat), .string ((a0.extract ((ji17) : Int).toNat a0.size).extract (t232 : Int).toNat (a0.size - ((ji17) : Int).toNat))] (0, 0) _ rfl (by (with_reducible repeat (first | refine blk_drewN ?_ _ | refine blk_drew ?_ | refine blk_alloc ?_ _)); refine blk_put (cs := #[.string (a0.extract 0 (t230 : Int).toNat), .string ((a0.extract ((ji17) : Int).toNat a0.size).extract 0 (t232 : Int).toNat), .string (⟨#[]⟩ : ByteArray)]) ?_ 2 _ rfl; (with_reducible repeat (first | refine blk_drewN ?_ _ | refine blk_drew ?_ | refine blk_alloc ?_ _)); refine blk_put (cs := #[.string (a0.extract 0 (t230 : Int).toNat), .string (⟨#[]⟩ : ByteArray), .string (⟨#[]⟩ : ByteArray)]) ?_ 1 _ rfl; (with_reducible repeat (first | refine blk_drewN ?_ _ | refine blk_drew ?_ | refine blk_alloc ?_ _)); refine blk_put (cs := #[.string (⟨#[]⟩ : ByteArray), .string (⟨#[]⟩ : ByteArray), .string (⟨#[]⟩ : ByteArray)]) ?_ 0 _ rfl; (with_reducible repeat (first | refine blk_drewN ?_ _ | refine blk_drew ?_ | refine blk_alloc ?_ _)); refine blk_far ?_ NB228_229.out _; (with_reducible repeat (first | refine blk_drewN ?_ _ | refine blk_drew ?_ | refine blk_alloc ?_ _)); refine blk_far ?_ NB228_229.out _; (with_reducible repeat (first | refine blk_drewN ?_ _ | refine blk_drew ?_ | refine blk_alloc ?_ _)); exact BK228.out) Tryd.underlying51 rfl (by kernel_rfl)) rfl ?_
                        exact ⟨by first | rfl | (simp [errW_none, errW_some] <;> rfl) | (simp only [← hji17]; first | rfl | (simp [errW_none, errW_some] <;> rfl)) | (simp [*, errW_none, errW_some] <;> rfl), by repeat (first | (with_reducible first | exact HB.out | apply below_alloc | apply pw_below_drewN | apply below_drew1 | refine below_set ?_ GE228.out | refine below_set ?_ GE229.out) | exact HB.out)⟩
                      · rw [if_neg c23] at H
                        exact absurd H (by simp)
                    · rw [if_neg c22] at H
                      exact absurd H (by simp)
                  · rw [if_neg c21] at H
                    have c21b0 : decide (0 ≤ t232) = false := decide_eq_false c21
                    clear c21
                    simp only [Option.some.injEq, Prod.mk.injEq] at H
                    obtain ⟨rfl, rfl, rfl⟩ := H
                    have hnb34 := NB229_228.out
                    have hnc34 := NB228_229.out
                    have hcz35_0 : wc.cell? ⟨gb229, 0, none⟩ = some (.string (⟨#[48]⟩ : ByteArray)) := (blk_cell BK229.out 0).trans rfl
                    have hcz35_1 : wc.cell? ⟨gb229, 1, none⟩ = some (.string (⟨#[]⟩ : ByteArray)) := (blk_cell BK229.out 1).trans rfl
                    have hcz35_2 : wc.cell? ⟨gb229, 2, none⟩ = some (.string (⟨#[]⟩ : ByteArray)) := (blk_cell BK229.out 2).trans rfl
                    have hfz35_0 := blk_frozen BK229.out 0
                    have hfz35_1 := blk_frozen BK229.out 1
                    have hfz35_2 := blk_frozen BK229.out 2
                    go_wp2_with (first | ((with_reducible refine gate_callee (f := 39) rfl ?_); refine goesL_ (some 34) rfl rfl Tryd.func39 (by kernel_rfl) rfl #[.string (a0.extract ((ji17) : Int).toNat a0.size), .int .u8 45] rfl (by (try simp only [List.map_toArray, List.map_cons, List.map_nil]); first | done | (simp only [hji17]; rfl) | rfl | (simp only [List.length_drop, List.length_take]; rfl)) ?_; (with_reducible refine (spec_indexOf.calls kj2 (a0.extract ((ji17) : Int).toNat a0.size) 45 t232 _ A20.out).mono ?_); rintro e w' ⟨rfl, ⟨nd, rfl⟩⟩; refine ⟨_, rfl, ?_⟩; have hcz36_0 : wc.cell? ⟨gb228, 0, none⟩ = some (.string (⟨#[]⟩ : ByteArray)) := (blk_cell BK228.out 0).trans rfl; have hcz36_1 : wc.cell? ⟨gb228, 1, none⟩ = some (.string (⟨#[]⟩ : ByteArray)) := (blk_cell BK228.out 1).trans rfl; have hcz36_2 : wc.cell? ⟨gb228, 2, none⟩ = some (.string (⟨#[]⟩ : ByteArray)) := (blk_cell BK228.out 2).trans rfl; have hfz36_0 := blk_frozen BK228.out 0; have hfz36_1 := blk_frozen BK228.out 1; have hfz36_2 := blk_frozen BK228.out 2))
                    refine bodyPost_ret (results_cell_row rfl _ _ gb228 51 #[.string (a0.extract 0 (t230 : Int).toNat), .string (a0.extract ((ji17) : Int).toNat a0.size), .string (⟨#[]⟩ : ByteArray)] (0, 0) _ rfl (by (with_reducible repeat (first | refine blk_drewN ?_ _ | refine blk_drew ?_ | refine blk_alloc ?_ _)); refine blk_put (cs := #[.string (a0.extract 0 (t230 : Int).toNat), .string (a0.extract ((ji17) : Int).toNat a0.size), .string (⟨#[]⟩ : ByteArray)]) ?_ 2 _ rfl; (with_reducible repeat (first | refine blk_drewN ?_ _ | refine blk_drew ?_ | refine blk_alloc ?_ _)); refine blk_put (cs := #[.string (a0.extract 0 (t230 : Int).toNat), .string (⟨#[]⟩ : ByteArray), .string (⟨#[]⟩ : ByteArray)]) ?_ 1 _ rfl; (with_reducible repeat (first | refine blk_drewN ?_ _ | refine blk_drew ?_ | refine blk_alloc ?_ _)); refine blk_put (cs := #[.string (⟨#[]⟩ : ByteArray), .string (⟨#[]⟩ : ByteArray), .string (⟨#[]⟩ : ByteArray)]) ?_ 0 _ rfl; (with_reducible repeat (first | refine blk_drewN ?_ _ | refine blk_drew ?_ | refine blk_alloc ?_ _)); refine blk_far ?_ NB228_229.out _; (with_reducible repeat (first | refine blk_drewN ?_ _ | refine blk_drew ?_ | refine blk_alloc ?_ _)); refine blk_far ?_ NB228_229.out _; (with_reducible repeat (first | refine blk_drewN ?_ _ | refine blk_drew ?_ | refine blk_alloc ?_ _)); exact BK228.out) Tryd.underlying51 rfl (by kernel_rfl)) rfl ?_
                    exact ⟨by first | rfl | (simp [errW_none, errW_some] <;> rfl) | (simp only [← hji17]; first | rfl | (simp [errW_none, errW_some] <;> rfl)) | (simp [*, errW_none, errW_some] <;> rfl), by repeat (first | (with_reducible first | exact HB.out | apply below_alloc | apply pw_below_drewN | apply below_drew1 | refine below_set ?_ GE228.out | refine below_set ?_ GE229.out) | exact HB.out)⟩
                · rw [if_neg c19] at H
                  exact absurd H (by simp)
              · rw [if_neg c18] at H
                exact absurd H (by simp)
            · rw [if_neg c16] at H
              exact absurd H (by simp)
          · rw [if_neg c15] at H
            exact absurd H (by simp)
        · rw [if_neg c14] at H
          have c14b0 : decide (0 < t230) = false := decide_eq_false c14
          clear c14
          obtain ⟨ji37, hji37⟩ : ∃ j_ : Int, (wrap64 (t230 + 1)) = j_ := ⟨_, rfl⟩
          replace H : (if 0 ≤ (ji37) then (if (ji37) ≤ (a0.size : Int) then ((spec_indexOf.f kj2 (a0.extract ((ji37) : Int).toNat a0.size) 45).bind fun t233 => (if t233 ≥ 0 then (if 0 ≤ t233 then (if t233 ≤ ((a0.size - ((ji37) : Int).toNat : Nat) : Int) then (some ((⟨#[48]⟩ : ByteArray), (a0.extract ((ji37) : Int).toNat a0.size).extract 0 (t233 : Int).toNat, (a0.extract ((ji37) : Int).toNat a0.size).extract (t233 : Int).toNat (a0.size - ((ji37) : Int).toNat))) else (none)) else (none)) else (some ((⟨#[48]⟩ : ByteArray), a0.extract ((ji37) : Int).toNat a0.size, (⟨#[]⟩ : ByteArray))))) else (none)) else (none)) = some (r1, r2, r3) := by first | (rw [hji37] at H; exact H) | (simp only [hji37] at H ⊢; exact H)
          have hji37w : (IntKind.i64.wrap (t230 + 1)) = ji37 := (i64_w _).trans hji37
          by_cases c38 : 0 ≤ (ji37)
          · rw [if_pos c38] at H
            have c38b0 := eq_true c38
            have c38b1 : decide (0 ≤ (ji37)) = true := decide_eq_true c38
            clear c38
            by_cases c39 : (ji37) ≤ (a0.size : Int)
            · rw [if_pos c39] at H
              have c39b0 := eq_true c39
              have c39b1 : decide ((ji37) ≤ (a0.size : Int)) = true := decide_eq_true c39
              clear c39
              replace H := Option.bind_eq_some_iff.mp H
              obtain ⟨t233, A400, H⟩ := H
              replace H : (if t233 ≥ 0 then (if 0 ≤ t233 then (if t233 ≤ ((a0.size - ((ji37) : Int).toNat : Nat) : Int) then (some ((⟨#[48]⟩ : ByteArray), (a0.extract ((ji37) : Int).toNat a0.size).extract 0 (t233 : Int).toNat, (a0.extract ((ji37) : Int).toNat a0.size).extract (t233 : Int).toNat (a0.size - ((ji37) : Int).toNat))) else (none)) else (none)) else (some ((⟨#[48]⟩ : ByteArray), a0.extract ((ji37) : Int).toNat a0.size, (⟨#[]⟩ : ByteArray)))) = some (r1, r2, r3) := H
              have A40 := Aside0.mk A400
              clear A400
              by_cases c41 : t233 ≥ 0
              · rw [if_pos c41] at H
                have c41b0 : decide (0 ≤ t233) = true := decide_eq_true c41
                clear c41
                by_cases c42 : 0 ≤ t233
                · rw [if_pos c42] at H
                  have c42b0 := eq_true c42
                  have c42b1 : decide (0 ≤ t233) = true := decide_eq_true c42
                  clear c42
                  by_cases c43 : t233 ≤ ((a0.size - ((ji37) : Int).toNat : Nat) : Int)
                  · rw [if_pos c43] at H
                    have c43b0 := eq_true c43
                    have c43b1 : decide (t233 ≤ ((a0.size - ((ji37) : Int).toNat : Nat) : Int)) = true := decide_eq_true c43
                    clear c43
                    have c44b0 := eq_true (of_decide_eq_true (by first | (with_reducible assumption) | assumption) : 0 ≤ t233)
                    have c45b0 := eq_true (of_decide_eq_true (by first | (with_reducible assumption) | assumption) : t233 ≤ ((a0.size - ((ji37) : Int).toNat : Nat) : Int))
                    simp only [Option.some.injEq, Prod.mk.injEq] at H
                    obtain ⟨rfl, rfl, rfl⟩ := H
                    have hnb46 := NB229_228.out
                    have hnc46 := NB228_229.out
                    have hcz47_0 : wc.cell? ⟨gb229, 0, none⟩ = some (.string (⟨#[48]⟩ : ByteArray)) := (blk_cell BK229.out 0).trans rfl
                    have hcz47_1 : wc.cell? ⟨gb229, 1, none⟩ = some (.string (⟨#[]⟩ : ByteArray)) := (blk_cell BK229.out 1).trans rfl
                    have hcz47_2 : wc.cell? ⟨gb229, 2, none⟩ = some (.string (⟨#[]⟩ : ByteArray)) := (blk_cell BK229.out 2).trans rfl
                    have hfz47_0 := blk_frozen BK229.out 0
                    have hfz47_1 := blk_frozen BK229.out 1
                    have hfz47_2 := blk_frozen BK229.out 2
                    try go_wp2_with (first | ((with_reducible refine gate_callee (f := 39) rfl ?_); refine goesL_ (some 34) rfl rfl Tryd.func39 (by kernel_rfl) rfl #[.string (a0.extract ((ji37) : Int).toNat a0.size), .int .u8 45] rfl (by (try simp only [List.map_toArray, List.map_cons, List.map_nil]); first | done | (simp only [hji37]; rfl) | rfl | (simp only [List.length_drop, List.length_take]; rfl)) ?_; (with_reducible refine (spec_indexOf.calls kj2 (a0.extract ((ji37) : Int).toNat a0.size) 45 t233 _ A40.out).mono ?_); rintro e w' ⟨rfl, ⟨nd, rfl⟩⟩; refine ⟨_, rfl, ?_⟩))
                    have n0_ : Aside0 ((wc.setCell ⟨gb229, 1, none⟩ (.string (a0.extract ((ji37) : Int).toNat a0.size))).heap[gb228]? = some (.cells #[.string (⟨#[]⟩ : ByteArray), .string (⟨#[]⟩ : ByteArray), .string (⟨#[]⟩ : ByteArray)] 51 (0, 0))) := ⟨by (with_reducible repeat (first | refine blk_drewN ?_ _ | refine blk_drew ?_ | refine blk_alloc ?_ _)); refine blk_far ?_ NB228_229.out _; (with_reducible repeat (first | refine blk_drewN ?_ _ | refine blk_drew ?_ | refine blk_alloc ?_ _)); exact BK228.out⟩
                    have n1_ : Aside0 ((wc.setCell ⟨gb229, 1, none⟩ (.string (a0.extract ((ji37) : Int).toNat a0.size))).heap[gb229]? = some (.cells #[.string (⟨#[48]⟩ : ByteArray), .string (a0.extract ((ji37) : Int).toNat a0.size), .string (⟨#[]⟩ : ByteArray)] 51 (0, 0))) := ⟨by (with_reducible repeat (first | refine blk_drewN ?_ _ | refine blk_drew ?_ | refine blk_alloc ?_ _)); refine blk_put (cs := #[.string (⟨#[48]⟩ : ByteArray), .string (⟨#[]⟩ : ByteArray), .string (⟨#[]⟩ : ByteArray)]) ?_ 1 _ rfl; (with_reducible repeat (first | refine blk_drewN ?_ _ | refine blk_drew ?_ | refine blk_alloc ?_ _)); exact BK229.out⟩
                    have n2_ : Aside0 (Below w.heap.size w (wc.setCell ⟨gb229, 1, none⟩ (.string (a0.extract ((ji37) : Int).toNat a0.size)))) := ⟨by repeat (first | (with_reducible first | exact HB.out | apply below_alloc | apply pw_below_drewN | apply below_drew1 | refine below_set ?_ GE228.out | refine below_set ?_ GE229.out) | exact HB.out)⟩
                    (try clear BK228)
                    (try clear BK229)
                    (try clear HB)
                    generalize (wc.setCell ⟨gb229, 1, none⟩ (.string (a0.extract ((ji37) : Int).toNat a0.size))) = w48 at n0_ n1_ n2_ ⊢
                    have BK228 := n0_
                    have BK229 := n1_
                    have HB := n2_
                    clear n0_ n1_ n2_
                    (try (rw [drewN_self w48]; generalize hq_ : World.drewN w48 _ = w48; have n0_ : Aside0 (w48.heap[gb228]? = some (.cells #[.string (⟨#[]⟩ : ByteArray), .string (⟨#[]⟩ : ByteArray), .string (⟨#[]⟩ : ByteArray)] 51 (0, 0))) := ⟨by rw [← hq_]; exact (by (with_reducible repeat (first | refine blk_drewN ?_ _ | refine blk_drew ?_ | refine blk_alloc ?_ _)); exact BK228.out)⟩; have n1_ : Aside0 (w48.heap[gb229]? = some (.cells #[.string (⟨#[48]⟩ : ByteArray), .string (a0.extract ((ji37) : Int).toNat a0.size), .string (⟨#[]⟩ : ByteArray)] 51 (0, 0))) := ⟨by rw [← hq_]; exact (by (with_reducible repeat (first | refine blk_drewN ?_ _ | refine blk_drew ?_ | refine blk_alloc ?_ _)); exact BK229.out)⟩; have n2_ : Aside0 (Below w.heap.size w w48) := ⟨by rw [← hq_]; exact (by repeat (first | (with_reducible first | exact HB.out | apply below_alloc | apply pw_below_drewN | apply below_drew1 | refine below_set ?_ GE228.out | refine below_set ?_ GE229.out) | exact HB.out))⟩; clear BK228 BK229 HB hq_; have BK228 := n0_; have BK229 := n1_; have HB := n2_; clear n0_ n1_ n2_))
                    have n0_ := Aside0.mk (blk_drew BK228.out)
                    have n1_ := Aside0.mk (blk_drew BK229.out)
                    have n2_ := Aside0.mk (below_drew1 HB.out)
                    clear BK228
                    clear BK229
                    clear HB
                    have BK228 := n0_
                    have BK229 := n1_
                    have HB := n2_
                    clear n0_ n1_ n2_
                    refine start_ (n := 10) (S := fun w' => True) (ds := []) #[false, false, false, false, false, false, false, false, false, false] (by kernel_rfl) rfl rfl trivial (fun hHeld => ?_); refine with_tabW spec_RedHatParse.tab10 spec_RedHatParse.bits10 (fun HT_ HW_ => ?_)
                    generalize w48.drew = w49 at BK228 BK229 HB hHeld ⊢
                    refine pure_ (i := 0) (N := some 37) (v := ?_) (a' := ?_) #[true, false, false, false, false, false, false, false, false, false] rfl rfl (any_of HT_.out (by kernel_rfl)) (fun _ _ _ h => h) (Or.inl ⟨by rfl, ?_⟩) ?_ ?_
                    rotate_left
                    · intro w'
                      go_simp
                      with_reducible rfl
                    rotate_left
                    · simp only [Act.put, List.setIfInBounds_toArray, List.set_cons_zero, List.set_cons_succ, i64_w, i32_w]
                      rfl
                    refine pure_ (i := 1) (N := some 38) (v := ?_) (a' := ?_) #[true, true, false, false, false, false, false, false, false, false] rfl rfl (any_of HT_.out (by kernel_rfl)) (fun _ _ _ h => h) (Or.inl ⟨by rfl, ?_⟩) ?_ ?_
                    rotate_left
                    · intro w'
                      go_simp
                      with_reducible rfl
                    rotate_left
                    · simp only [Act.put, List.setIfInBounds_toArray, List.set_cons_zero, List.set_cons_succ, i64_w, i32_w]
                      rfl
                    refine pure_ (i := 2) (N := some 39) (v := ?_) (a' := ?_) #[true, true, true, false, false, false, false, false, false, false] rfl rfl (any_of HT_.out (by kernel_rfl)) (fun _ _ _ h => h) (Or.inl ⟨by rfl, ?_⟩) ?_ ?_
                    rotate_left
                    · intro w'
                      go_simp
                      with_reducible rfl
                    rotate_left
                    · simp only [Act.put, List.setIfInBounds_toArray, List.set_cons_zero, List.set_cons_succ, i64_w, i32_w]
                      rfl
                    refine pure_ (i := 3) (N := some 40) (v := ?_) (a' := ?_) #[true, true, true, true, false, false, false, false, false, false] rfl rfl (any_of HT_.out (by kernel_rfl)) (fun _ _ _ h => h) (Or.inl ⟨by rfl, ?_⟩) ?_ ?_
                    rotate_left
                    · intro w'
                      go_simp
                      with_reducible rfl
                    rotate_left
                    · simp only [Act.put, List.setIfInBounds_toArray, List.set_cons_zero, List.set_cons_succ, i64_w, i32_w]
                      rfl
                    refine pure_ (i := 4) (N := some 41) (v := ?_) (a' := ?_) #[true, true, true, true, true, false, false, false, false, false] rfl rfl (any_of HT_.out (by kernel_rfl)) (fun _ _ _ h => h) (Or.inl ⟨by rfl, ?_⟩) ?_ ?_
                    rotate_left
                    · intro w'
                      go_simp
                      with_reducible rfl
                    rotate_left
                    · simp only [Act.put, List.setIfInBounds_toArray, List.set_cons_zero, List.set_cons_succ, i64_w, i32_w]
                      rfl
                    refine pure_ (i := 5) (N := some 42) (v := ?_) (a' := ?_) #[true, true, true, true, true, true, false, false, false, false] rfl rfl (any_of HT_.out (by kernel_rfl)) (fun _ _ _ h => h) (Or.inl ⟨by rfl, ?_⟩) ?_ ?_
                    rotate_left
                    · intro w'
                      go_simp
                      with_reducible rfl
                    rotate_left
                    · simp only [Act.put, List.setIfInBounds_toArray, List.set_cons_zero, List.set_cons_succ, i64_w, i32_w]
                      rfl
                    refine pure_ (i := 6) (N := some 43) (v := ?_) (a' := ?_) #[true, true, true, true, true, true, true, false, false, false] rfl rfl (any_of HT_.out (by kernel_rfl)) (fun _ _ _ h => h) (Or.inl ⟨by rfl, ?_⟩) ?_ ?_
                    rotate_left
                    · intro w'
                      go_simp
                      with_reducible rfl
                    rotate_left
                    · simp only [Act.put, List.setIfInBounds_toArray, List.set_cons_zero, List.set_cons_succ, i64_w, i32_w]
                      rfl
                    refine one_ (i := 7) (N := none) #[true, true, true, true, true, true, true, true, false, false] rfl rfl (one_of HT_.out (by kernel_rfl)) (by decide) (fun K hK => ?_)
                    have hs50 : w49.cell? ⟨gb229, 1, none⟩ = some (.string (a0.extract ((ji37) : Int).toNat a0.size)) := (blk_cell BK229.out 1).trans rfl
                    have hfs50 := blk_frozen BK229.out 1
                    have hns50_0 := NB228_229.out
                    have hms50_0 := NB229_228.out
                    refine skip_ (w1 := ?_) (by rfl) rfl ?_ ?_
                    rotate_left
                    · go_simp
                      rfl
                    refine hK.out _ _ trivial (fun hHeld => ?_)
                    clear hK K
                    refine pure_ (i := 8) (N := some 44) (v := ?_) (a' := ?_) #[true, true, true, true, true, true, true, true, true, false] rfl rfl (any_of HT_.out (by kernel_rfl)) (fun _ _ _ h => h) (Or.inl ⟨by rfl, ?_⟩) ?_ ?_
                    rotate_left
                    · intro w'
                      go_simp
                      with_reducible rfl
                    rotate_left
                    · simp only [Act.put, List.setIfInBounds_toArray, List.set_cons_zero, List.set_cons_succ, i64_w, i32_w]
                      rfl
                    refine one_ (i := 9) (N := none) #[true, true, true, true, true, true, true, true, true, true] rfl rfl (one_of HT_.out (by kernel_rfl)) (by decide) (fun K hK => ?_)
                    have hs51 : w49.cell? ⟨gb229, 2, none⟩ = some (.string (⟨#[]⟩ : ByteArray)) := (blk_cell BK229.out 2).trans rfl
                    have hfs51 := blk_frozen BK229.out 2
                    have hns51_0 := NB228_229.out
                    have hms51_0 := NB229_228.out
                    refine skip_ (w1 := ?_) (by rfl) rfl ?_ ?_
                    rotate_left
                    · go_simp
                      rfl
                    refine hK.out _ _ trivial (fun hHeld => ?_)
                    clear hK K
                    refine done_ (done_of HT_.out (by kernel_rfl)) ?_
                    have hcz52_0 : w49.cell? ⟨gb229, 0, none⟩ = some (.string (⟨#[48]⟩ : ByteArray)) := (blk_cell BK229.out 0).trans rfl
                    have hcz52_1 : w49.cell? ⟨gb229, 1, none⟩ = some (.string (a0.extract ((ji37) : Int).toNat a0.size)) := (blk_cell BK229.out 1).trans rfl
                    have hcz52_2 : w49.cell? ⟨gb229, 2, none⟩ = some (.string (⟨#[]⟩ : ByteArray)) := (blk_cell BK229.out 2).trans rfl
                    have hfz52_0 := blk_frozen BK229.out 0
                    have hfz52_1 := blk_frozen BK229.out 1
                    have hfz52_2 := blk_frozen BK229.out 2
                    have hcz53_0 : w49.cell? ⟨gb228, 0, none⟩ = some (.string (⟨#[]⟩ : ByteArray)) := (blk_cell BK228.out 0).trans rfl
                    have hcz53_1 : w49.cell? ⟨gb228, 1, none⟩ = some (.string (⟨#[]⟩ : ByteArray)) := (blk_cell BK228.out 1).trans rfl
                    have hcz53_2 : w49.cell? ⟨gb228, 2, none⟩ = some (.string (⟨#[]⟩ : ByteArray)) := (blk_cell BK228.out 2).trans rfl
                    have hfz53_0 := blk_frozen BK228.out 0
                    have hfz53_1 := blk_frozen BK228.out 1
                    have hfz53_2 := blk_frozen BK228.out 2
                    try go_wp2
                    refine bodyPost_ret (results_cell_row rfl _ _ gb228 51 #[.string (⟨#[48]⟩ : ByteArray), .string ((a0.extract ((ji37) : Int).toNat a0.size).extract 0 (t233 : Int).toNat), .string ((a0.extract ((ji37) : Int).toNat a0.size).extract (t233 : Int).toNat (a0.size - ((ji37) : Int).toNat))] (0, 0) _ rfl (by (with_reducible repeat (first | refine blk_drewN ?_ _ | refine blk_drew ?_ | refine blk_alloc ?_ _)); refine blk_put (cs := #[.string (⟨#[48]⟩ : ByteArray), .string ((a0.extract ((ji37) : Int).toNat a0.size).extract 0 (t233 : Int).toNat), .string (⟨#[]⟩ : ByteArray)]) ?_ 2 _ rfl; (with_reducible repeat (first | refine blk_drewN ?_ _ | refine blk_drew ?_ | refine blk_alloc ?_ _)); refine blk_put (cs := #[.string (⟨#[48]⟩ : ByteArray), .string (⟨#[]⟩ : ByteArray), .string (⟨#[]⟩ : ByteArray)]) ?_ 1 _ rfl; (with_reducible repeat (first | refine blk_drewN ?_ _ | refine blk_drew ?_ | refine blk_alloc ?_ _)); refine blk_put (cs := #[.string (⟨#[]⟩ : ByteArray), .string (⟨#[]⟩ : ByteArray), .string (⟨#[]⟩ : ByteArray)]) ?_ 0 _ rfl; (with_reducible repeat (first | refine blk_drewN ?_ _ | refine blk_drew ?_ | refine blk_alloc ?_ _)); refine blk_far ?_ NB228_229.out _; (with_reducible repeat (first | refine blk_drewN ?_ _ | refine blk_drew ?_ | refine blk_alloc ?_ _)); refine blk_far ?_ NB228_229.out _; (with_reducible repeat (first | refine blk_drewN ?_ _ | refine blk_drew ?_ | refine blk_alloc ?_ _)); exact BK228.out) Tryd.underlying51 rfl (by kernel_rfl)) rfl ?_
                    exact ⟨by first | rfl | (simp [errW_none, errW_some] <;> rfl) | (simp only [← hji37]; first | rfl | (simp [errW_none, errW_some] <;> rfl)) | (simp [*, errW_none, errW_some] <;> rfl), by repeat (first | (with_reducible first | exact HB.out | apply below_alloc | apply pw_below_drewN | apply below_drew1 | refine below_set ?_ GE228.out | refine below_set ?_ GE229.out) | exact HB.out)⟩
                  · rw [if_neg c43] at H
                    exact absurd H (by simp)
                · rw [if_neg c42] at H
                  exact absurd H (by simp)
              · rw [if_neg c41] at H
                have c41b0 : decide (0 ≤ t233) = false := decide_eq_false c41
                clear c41
                simp only [Option.some.injEq, Prod.mk.injEq] at H
                obtain ⟨rfl, rfl, rfl⟩ := H
                have hnb54 := NB229_228.out
                have hnc54 := NB228_229.out
                have hcz55_0 : wc.cell? ⟨gb229, 0, none⟩ = some (.string (⟨#[48]⟩ : ByteArray)) := (blk_cell BK229.out 0).trans rfl
                have hcz55_1 : wc.cell? ⟨gb229, 1, none⟩ = some (.string (⟨#[]⟩ : ByteArray)) := (blk_cell BK229.out 1).trans rfl
                have hcz55_2 : wc.cell? ⟨gb229, 2, none⟩ = some (.string (⟨#[]⟩ : ByteArray)) := (blk_cell BK229.out 2).trans rfl
                have hfz55_0 := blk_frozen BK229.out 0
                have hfz55_1 := blk_frozen BK229.out 1
                have hfz55_2 := blk_frozen BK229.out 2
                go_wp2_with (first | ((with_reducible refine gate_callee (f := 39) rfl ?_); refine goesL_ (some 34) rfl rfl Tryd.func39 (by kernel_rfl) rfl #[.string (a0.extract ((ji37) : Int).toNat a0.size), .int .u8 45] rfl (by (try simp only [List.map_toArray, List.map_cons, List.map_nil]); first | done | (simp only [hji37]; rfl) | rfl | (simp only [List.length_drop, List.length_take]; rfl)) ?_; (with_reducible refine (spec_indexOf.calls kj2 (a0.extract ((ji37) : Int).toNat a0.size) 45 t233 _ A40.out).mono ?_); rintro e w' ⟨rfl, ⟨nd, rfl⟩⟩; refine ⟨_, rfl, ?_⟩; have hcz56_0 : wc.cell? ⟨gb228, 0, none⟩ = some (.string (⟨#[]⟩ : ByteArray)) := (blk_cell BK228.out 0).trans rfl; have hcz56_1 : wc.cell? ⟨gb228, 1, none⟩ = some (.string (⟨#[]⟩ : ByteArray)) := (blk_cell BK228.out 1).trans rfl; have hcz56_2 : wc.cell? ⟨gb228, 2, none⟩ = some (.string (⟨#[]⟩ : ByteArray)) := (blk_cell BK228.out 2).trans rfl; have hfz56_0 := blk_frozen BK228.out 0; have hfz56_1 := blk_frozen BK228.out 1; have hfz56_2 := blk_frozen BK228.out 2))
                refine bodyPost_ret (results_cell_row rfl _ _ gb228 51 #[.string (⟨#[48]⟩ : ByteArray), .string (a0.extract ((ji37) : Int).toNat a0.size), .string (⟨#[]⟩ : ByteArray)] (0, 0) _ rfl (by (with_reducible repeat (first | refine blk_drewN ?_ _ | refine blk_drew ?_ | refine blk_alloc ?_ _)); refine blk_put (cs := #[.string (⟨#[48]⟩ : ByteArray), .string (a0.extract ((ji37) : Int).toNat a0.size), .string (⟨#[]⟩ : ByteArray)]) ?_ 2 _ rfl; (with_reducible repeat (first | refine blk_drewN ?_ _ | refine blk_drew ?_ | refine blk_alloc ?_ _)); refine blk_put (cs := #[.string (⟨#[48]⟩ : ByteArray), .string (⟨#[]⟩ : ByteArray), .string (⟨#[]⟩ : ByteArray)]) ?_ 1 _ rfl; (with_reducible repeat (first | refine blk_drewN ?_ _ | refine blk_drew ?_ | refine blk_alloc ?_ _)); refine blk_put (cs := #[.string (⟨#[]⟩ : ByteArray), .string (⟨#[]⟩ : ByteArray), .string (⟨#[]⟩ : ByteArray)]) ?_ 0 _ rfl; (with_reducible repeat (first | refine blk_drewN ?_ _ | refine blk_drew ?_ | refine blk_alloc ?_ _)); refine blk_far ?_ NB228_229.out _; (with_reducible repeat (first | refine blk_drewN ?_ _ | refine blk_drew ?_ | refine blk_alloc ?_ _)); exact BK228.out) Tryd.underlying51 rfl (by kernel_rfl)) rfl ?_
                exact ⟨by first | rfl | (simp [errW_none, errW_some] <;> rfl) | (simp only [← hji37]; first | rfl | (simp [errW_none, errW_some] <;> rfl)) | (simp [*, errW_none, errW_some] <;> rfl), by repeat (first | (with_reducible first | exact HB.out | apply below_alloc | apply pw_below_drewN | apply below_drew1 | refine below_set ?_ GE228.out | refine below_set ?_ GE229.out) | exact HB.out)⟩
            · rw [if_neg c39] at H
              exact absurd H (by simp)
          · rw [if_neg c38] at H
            exact absurd H (by simp)
      · replace c13 := Bool.eq_false_iff.mpr c13
        subst c13
        have H1 : ((spec_indexOf.f kj2 a0 45).bind fun t234 => (if t234 ≥ 0 then (if 0 ≤ t234 then (if t234 ≤ (a0.size : Int) then (some ((⟨#[48]⟩ : ByteArray), a0.extract 0 (t234 : Int).toNat, a0.extract (t234 : Int).toNat a0.size)) else (none)) else (none)) else (some ((⟨#[48]⟩ : ByteArray), a0, (⟨#[]⟩ : ByteArray))))) = some (r1, r2, r3) := by rw [if_neg (show ¬ (false = true) by decide)] at H; exact H
        clear H
        have H := H1
        clear H1
        replace H := Option.bind_eq_some_iff.mp H
        obtain ⟨t234, A570, H⟩ := H
        replace H : (if t234 ≥ 0 then (if 0 ≤ t234 then (if t234 ≤ (a0.size : Int) then (some ((⟨#[48]⟩ : ByteArray), a0.extract 0 (t234 : Int).toNat, a0.extract (t234 : Int).toNat a0.size)) else (none)) else (none)) else (some ((⟨#[48]⟩ : ByteArray), a0, (⟨#[]⟩ : ByteArray)))) = some (r1, r2, r3) := H
        have A57 := Aside0.mk A570
        clear A570
        by_cases c58 : t234 ≥ 0
        · rw [if_pos c58] at H
          have c58b0 : decide (0 ≤ t234) = true := decide_eq_true c58
          clear c58
          by_cases c59 : 0 ≤ t234
          · rw [if_pos c59] at H
            have c59b0 := eq_true c59
            have c59b1 : decide (0 ≤ t234) = true := decide_eq_true c59
            clear c59
            by_cases c60 : t234 ≤ (a0.size : Int)
            · rw [if_pos c60] at H
              have c60b0 := eq_true c60
              have c60b1 : decide (t234 ≤ (a0.size : Int)) = true := decide_eq_true c60
              clear c60
              have c61b0 := eq_true (of_decide_eq_true (by first | (with_reducible assumption) | assumption) : 0 ≤ t234)
              have c62b0 := eq_true (of_decide_eq_true (by first | (with_reducible assumption) | assumption) : t234 ≤ (a0.size : Int))
              simp only [Option.some.injEq, Prod.mk.injEq] at H
              obtain ⟨rfl, rfl, rfl⟩ := H
              have hnb63 := NB229_228.out
              have hnc63 := NB228_229.out
              have hcz64_0 : wc.cell? ⟨gb229, 0, none⟩ = some (.string (⟨#[48]⟩ : ByteArray)) := (blk_cell BK229.out 0).trans rfl
              have hcz64_1 : wc.cell? ⟨gb229, 1, none⟩ = some (.string (⟨#[]⟩ : ByteArray)) := (blk_cell BK229.out 1).trans rfl
              have hcz64_2 : wc.cell? ⟨gb229, 2, none⟩ = some (.string (⟨#[]⟩ : ByteArray)) := (blk_cell BK229.out 2).trans rfl
              have hfz64_0 := blk_frozen BK229.out 0
              have hfz64_1 := blk_frozen BK229.out 1
              have hfz64_2 := blk_frozen BK229.out 2
              try go_wp2_with (first | ((with_reducible refine gate_callee (f := 39) rfl ?_); refine goesL_ (some 34) rfl rfl Tryd.func39 (by kernel_rfl) rfl #[.string a0, .int .u8 45] rfl (by (try simp only [List.map_toArray, List.map_cons, List.map_nil]); first | done | rfl | (simp only [List.length_drop, List.length_take]; rfl)) ?_; (with_reducible refine (spec_indexOf.calls kj2 a0 45 t234 _ A57.out).mono ?_); rintro e w' ⟨rfl, ⟨nd, rfl⟩⟩; refine ⟨_, rfl, ?_⟩))
              have n0_ : Aside0 ((wc.setCell ⟨gb229, 1, none⟩ (.string a0)).heap[gb228]? = some (.cells #[.string (⟨#[]⟩ : ByteArray), .string (⟨#[]⟩ : ByteArray), .string (⟨#[]⟩ : ByteArray)] 51 (0, 0))) := ⟨by (with_reducible repeat (first | refine blk_drewN ?_ _ | refine blk_drew ?_ | refine blk_alloc ?_ _)); refine blk_far ?_ NB228_229.out _; (with_reducible repeat (first | refine blk_drewN ?_ _ | refine blk_drew ?_ | refine blk_alloc ?_ _)); exact BK228.out⟩
              have n1_ : Aside0 ((wc.setCell ⟨gb229, 1, none⟩ (.string a0)).heap[gb229]? = some (.cells #[.string (⟨#[48]⟩ : ByteArray), .string a0, .string (⟨#[]⟩ : ByteArray)] 51 (0, 0))) := ⟨by (with_reducible repeat (first | refine blk_drewN ?_ _ | refine blk_drew ?_ | refine blk_alloc ?_ _)); refine blk_put (cs := #[.string (⟨#[48]⟩ : ByteArray), .string (⟨#[]⟩ : ByteArray), .string (⟨#[]⟩ : ByteArray)]) ?_ 1 _ rfl; (with_reducible repeat (first | refine blk_drewN ?_ _ | refine blk_drew ?_ | refine blk_alloc ?_ _)); exact BK229.out⟩
              have n2_ : Aside0 (Below w.heap.size w (wc.setCell ⟨gb229, 1, none⟩ (.string a0))) := ⟨by repeat (first | (with_reducible first | exact HB.out | apply below_alloc | apply pw_below_drewN | apply below_drew1 | refine below_set ?_ GE228.out | refine below_set ?_ GE229.out) | exact HB.out)⟩
              (try clear BK228)
              (try clear BK229)
              (try clear HB)
              generalize (wc.setCell ⟨gb229, 1, none⟩ (.string a0)) = w65 at n0_ n1_ n2_ ⊢
              have BK228 := n0_
              have BK229 := n1_
              have HB := n2_
              clear n0_ n1_ n2_
              (try (rw [drewN_self w65]; generalize hq_ : World.drewN w65 _ = w65; have n0_ : Aside0 (w65.heap[gb228]? = some (.cells #[.string (⟨#[]⟩ : ByteArray), .string (⟨#[]⟩ : ByteArray), .string (⟨#[]⟩ : ByteArray)] 51 (0, 0))) := ⟨by rw [← hq_]; exact (by (with_reducible repeat (first | refine blk_drewN ?_ _ | refine blk_drew ?_ | refine blk_alloc ?_ _)); exact BK228.out)⟩; have n1_ : Aside0 (w65.heap[gb229]? = some (.cells #[.string (⟨#[48]⟩ : ByteArray), .string a0, .string (⟨#[]⟩ : ByteArray)] 51 (0, 0))) := ⟨by rw [← hq_]; exact (by (with_reducible repeat (first | refine blk_drewN ?_ _ | refine blk_drew ?_ | refine blk_alloc ?_ _)); exact BK229.out)⟩; have n2_ : Aside0 (Below w.heap.size w w65) := ⟨by rw [← hq_]; exact (by repeat (first | (with_reducible first | exact HB.out | apply below_alloc | apply pw_below_drewN | apply below_drew1 | refine below_set ?_ GE228.out | refine below_set ?_ GE229.out) | exact HB.out))⟩; clear BK228 BK229 HB hq_; have BK228 := n0_; have BK229 := n1_; have HB := n2_; clear n0_ n1_ n2_))
              have n0_ := Aside0.mk (blk_drew BK228.out)
              have n1_ := Aside0.mk (blk_drew BK229.out)
              have n2_ := Aside0.mk (below_drew1 HB.out)
              clear BK228
              clear BK229
              clear HB
              have BK228 := n0_
              have BK229 := n1_
              have HB := n2_
              clear n0_ n1_ n2_
              refine start_ (n := 10) (S := fun w' => True) (ds := []) #[false, false, false, false, false, false, false, false, false, false] (by kernel_rfl) rfl rfl trivial (fun hHeld => ?_); refine with_tabW spec_RedHatParse.tab10 spec_RedHatParse.bits10 (fun HT_ HW_ => ?_)
              generalize w65.drew = w66 at BK228 BK229 HB hHeld ⊢
              refine pure_ (i := 0) (N := some 37) (v := ?_) (a' := ?_) #[true, false, false, false, false, false, false, false, false, false] rfl rfl (any_of HT_.out (by kernel_rfl)) (fun _ _ _ h => h) (Or.inl ⟨by rfl, ?_⟩) ?_ ?_
              rotate_left
              · intro w'
                go_simp
                with_reducible rfl
              rotate_left
              · simp only [Act.put, List.setIfInBounds_toArray, List.set_cons_zero, List.set_cons_succ, i64_w, i32_w]
                rfl
              refine pure_ (i := 1) (N := some 38) (v := ?_) (a' := ?_) #[true, true, false, false, false, false, false, false, false, false] rfl rfl (any_of HT_.out (by kernel_rfl)) (fun _ _ _ h => h) (Or.inl ⟨by rfl, ?_⟩) ?_ ?_
              rotate_left
              · intro w'
                go_simp
                with_reducible rfl
              rotate_left
              · simp only [Act.put, List.setIfInBounds_toArray, List.set_cons_zero, List.set_cons_succ, i64_w, i32_w]
                rfl
              refine pure_ (i := 2) (N := some 39) (v := ?_) (a' := ?_) #[true, true, true, false, false, false, false, false, false, false] rfl rfl (any_of HT_.out (by kernel_rfl)) (fun _ _ _ h => h) (Or.inl ⟨by rfl, ?_⟩) ?_ ?_
              rotate_left
              · intro w'
                go_simp
                with_reducible rfl
              rotate_left
              · simp only [Act.put, List.setIfInBounds_toArray, List.set_cons_zero, List.set_cons_succ, i64_w, i32_w]
                rfl
              refine pure_ (i := 3) (N := some 40) (v := ?_) (a' := ?_) #[true, true, true, true, false, false, false, false, false, false] rfl rfl (any_of HT_.out (by kernel_rfl)) (fun _ _ _ h => h) (Or.inl ⟨by rfl, ?_⟩) ?_ ?_
              rotate_left
              · intro w'
                go_simp
                with_reducible rfl
              rotate_left
              · simp only [Act.put, List.setIfInBounds_toArray, List.set_cons_zero, List.set_cons_succ, i64_w, i32_w]
                rfl
              refine pure_ (i := 4) (N := some 41) (v := ?_) (a' := ?_) #[true, true, true, true, true, false, false, false, false, false] rfl rfl (any_of HT_.out (by kernel_rfl)) (fun _ _ _ h => h) (Or.inl ⟨by rfl, ?_⟩) ?_ ?_
              rotate_left
              · intro w'
                go_simp
                with_reducible rfl
              rotate_left
              · simp only [Act.put, List.setIfInBounds_toArray, List.set_cons_zero, List.set_cons_succ, i64_w, i32_w]
                rfl
              refine pure_ (i := 5) (N := some 42) (v := ?_) (a' := ?_) #[true, true, true, true, true, true, false, false, false, false] rfl rfl (any_of HT_.out (by kernel_rfl)) (fun _ _ _ h => h) (Or.inl ⟨by rfl, ?_⟩) ?_ ?_
              rotate_left
              · intro w'
                go_simp
                with_reducible rfl
              rotate_left
              · simp only [Act.put, List.setIfInBounds_toArray, List.set_cons_zero, List.set_cons_succ, i64_w, i32_w]
                rfl
              refine pure_ (i := 6) (N := some 43) (v := ?_) (a' := ?_) #[true, true, true, true, true, true, true, false, false, false] rfl rfl (any_of HT_.out (by kernel_rfl)) (fun _ _ _ h => h) (Or.inl ⟨by rfl, ?_⟩) ?_ ?_
              rotate_left
              · intro w'
                go_simp
                with_reducible rfl
              rotate_left
              · simp only [Act.put, List.setIfInBounds_toArray, List.set_cons_zero, List.set_cons_succ, i64_w, i32_w]
                rfl
              refine one_ (i := 7) (N := none) #[true, true, true, true, true, true, true, true, false, false] rfl rfl (one_of HT_.out (by kernel_rfl)) (by decide) (fun K hK => ?_)
              have hs67 : w66.cell? ⟨gb229, 1, none⟩ = some (.string a0) := (blk_cell BK229.out 1).trans rfl
              have hfs67 := blk_frozen BK229.out 1
              have hns67_0 := NB228_229.out
              have hms67_0 := NB229_228.out
              refine skip_ (w1 := ?_) (by rfl) rfl ?_ ?_
              rotate_left
              · go_simp
                rfl
              refine hK.out _ _ trivial (fun hHeld => ?_)
              clear hK K
              refine pure_ (i := 8) (N := some 44) (v := ?_) (a' := ?_) #[true, true, true, true, true, true, true, true, true, false] rfl rfl (any_of HT_.out (by kernel_rfl)) (fun _ _ _ h => h) (Or.inl ⟨by rfl, ?_⟩) ?_ ?_
              rotate_left
              · intro w'
                go_simp
                with_reducible rfl
              rotate_left
              · simp only [Act.put, List.setIfInBounds_toArray, List.set_cons_zero, List.set_cons_succ, i64_w, i32_w]
                rfl
              refine one_ (i := 9) (N := none) #[true, true, true, true, true, true, true, true, true, true] rfl rfl (one_of HT_.out (by kernel_rfl)) (by decide) (fun K hK => ?_)
              have hs68 : w66.cell? ⟨gb229, 2, none⟩ = some (.string (⟨#[]⟩ : ByteArray)) := (blk_cell BK229.out 2).trans rfl
              have hfs68 := blk_frozen BK229.out 2
              have hns68_0 := NB228_229.out
              have hms68_0 := NB229_228.out
              refine skip_ (w1 := ?_) (by rfl) rfl ?_ ?_
              rotate_left
              · go_simp
                rfl
              refine hK.out _ _ trivial (fun hHeld => ?_)
              clear hK K
              refine done_ (done_of HT_.out (by kernel_rfl)) ?_
              have hcz69_0 : w66.cell? ⟨gb229, 0, none⟩ = some (.string (⟨#[48]⟩ : ByteArray)) := (blk_cell BK229.out 0).trans rfl
              have hcz69_1 : w66.cell? ⟨gb229, 1, none⟩ = some (.string a0) := (blk_cell BK229.out 1).trans rfl
              have hcz69_2 : w66.cell? ⟨gb229, 2, none⟩ = some (.string (⟨#[]⟩ : ByteArray)) := (blk_cell BK229.out 2).trans rfl
              have hfz69_0 := blk_frozen BK229.out 0
              have hfz69_1 := blk_frozen BK229.out 1
              have hfz69_2 := blk_frozen BK229.out 2
              have hcz70_0 : w66.cell? ⟨gb228, 0, none⟩ = some (.string (⟨#[]⟩ : ByteArray)) := (blk_cell BK228.out 0).trans rfl
              have hcz70_1 : w66.cell? ⟨gb228, 1, none⟩ = some (.string (⟨#[]⟩ : ByteArray)) := (blk_cell BK228.out 1).trans rfl
              have hcz70_2 : w66.cell? ⟨gb228, 2, none⟩ = some (.string (⟨#[]⟩ : ByteArray)) := (blk_cell BK228.out 2).trans rfl
              have hfz70_0 := blk_frozen BK228.out 0
              have hfz70_1 := blk_frozen BK228.out 1
              have hfz70_2 := blk_frozen BK228.out 2
              try go_wp2
              refine bodyPost_ret (results_cell_row rfl _ _ gb228 51 #[.string (⟨#[48]⟩ : ByteArray), .string (a0.extract 0 (t234 : Int).toNat), .string (a0.extract (t234 : Int).toNat a0.size)] (0, 0) _ rfl (by (with_reducible repeat (first | refine blk_drewN ?_ _ | refine blk_drew ?_ | refine blk_alloc ?_ _)); refine blk_put (cs := #[.string (⟨#[48]⟩ : ByteArray), .string (a0.extract 0 (t234 : Int).toNat), .string (⟨#[]⟩ : ByteArray)]) ?_ 2 _ rfl; (with_reducible repeat (first | refine blk_drewN ?_ _ | refine blk_drew ?_ | refine blk_alloc ?_ _)); refine blk_put (cs := #[.string (⟨#[48]⟩ : ByteArray), .string (⟨#[]⟩ : ByteArray), .string (⟨#[]⟩ : ByteArray)]) ?_ 1 _ rfl; (with_reducible repeat (first | refine blk_drewN ?_ _ | refine blk_drew ?_ | refine blk_alloc ?_ _)); refine blk_put (cs := #[.string (⟨#[]⟩ : ByteArray), .string (⟨#[]⟩ : ByteArray), .string (⟨#[]⟩ : ByteArray)]) ?_ 0 _ rfl; (with_reducible repeat (first | refine blk_drewN ?_ _ | refine blk_drew ?_ | refine blk_alloc ?_ _)); refine blk_far ?_ NB228_229.out _; (with_reducible repeat (first | refine blk_drewN ?_ _ | refine blk_drew ?_ | refine blk_alloc ?_ _)); refine blk_far ?_ NB228_229.out _; (with_reducible repeat (first | refine blk_drewN ?_ _ | refine blk_drew ?_ | refine blk_alloc ?_ _)); exact BK228.out) Tryd.underlying51 rfl (by kernel_rfl)) rfl ?_
              exact ⟨by first | rfl | (simp [errW_none, errW_some] <;> rfl) | (simp [*, errW_none, errW_some] <;> rfl), by repeat (first | (with_reducible first | exact HB.out | apply below_alloc | apply pw_below_drewN | apply below_drew1 | refine below_set ?_ GE228.out | refine below_set ?_ GE229.out) | exact HB.out)⟩
            · rw [if_neg c60] at H
              exact absurd H (by simp)
          · rw [if_neg c59] at H
            exact absurd H (by simp)
        · rw [if_neg c58] at H
          have c58b0 : decide (0 ≤ t234) = false := decide_eq_false c58
          clear c58
          simp only [Option.some.injEq, Prod.mk.injEq] at H
          obtain ⟨rfl, rfl, rfl⟩ := H
          have hnb71 := NB229_228.out
          have hnc71 := NB228_229.out
          have hcz72_0 : wc.cell? ⟨gb229, 0, none⟩ = some (.string (⟨#[48]⟩ : ByteArray)) := (blk_cell BK229.out 0).trans rfl
          have hcz72_1 : wc.cell? ⟨gb229, 1, none⟩ = some (.string (⟨#[]⟩ : ByteArray)) := (blk_cell BK229.out 1).trans rfl
          have hcz72_2 : wc.cell? ⟨gb229, 2, none⟩ = some (.string (⟨#[]⟩ : ByteArray)) := (blk_cell BK229.out 2).trans rfl
          have hfz72_0 := blk_frozen BK229.out 0
          have hfz72_1 := blk_frozen BK229.out 1
          have hfz72_2 := blk_frozen BK229.out 2
          go_wp2_with (first | ((with_reducible refine gate_callee (f := 39) rfl ?_); refine goesL_ (some 34) rfl rfl Tryd.func39 (by kernel_rfl) rfl #[.string a0, .int .u8 45] rfl (by (try simp only [List.map_toArray, List.map_cons, List.map_nil]); first | done | rfl | (simp only [List.length_drop, List.length_take]; rfl)) ?_; (with_reducible refine (spec_indexOf.calls kj2 a0 45 t234 _ A57.out).mono ?_); rintro e w' ⟨rfl, ⟨nd, rfl⟩⟩; refine ⟨_, rfl, ?_⟩; have hcz73_0 : wc.cell? ⟨gb228, 0, none⟩ = some (.string (⟨#[]⟩ : ByteArray)) := (blk_cell BK228.out 0).trans rfl; have hcz73_1 : wc.cell? ⟨gb228, 1, none⟩ = some (.string (⟨#[]⟩ : ByteArray)) := (blk_cell BK228.out 1).trans rfl; have hcz73_2 : wc.cell? ⟨gb228, 2, none⟩ = some (.string (⟨#[]⟩ : ByteArray)) := (blk_cell BK228.out 2).trans rfl; have hfz73_0 := blk_frozen BK228.out 0; have hfz73_1 := blk_frozen BK228.out 1; have hfz73_2 := blk_frozen BK228.out 2))
          refine bodyPost_ret (results_cell_row rfl _ _ gb228 51 #[.string (⟨#[48]⟩ : ByteArray), .string a0, .string (⟨#[]⟩ : ByteArray)] (0, 0) _ rfl (by (with_reducible repeat (first | refine blk_drewN ?_ _ | refine blk_drew ?_ | refine blk_alloc ?_ _)); refine blk_put (cs := #[.string (⟨#[48]⟩ : ByteArray), .string a0, .string (⟨#[]⟩ : ByteArray)]) ?_ 2 _ rfl; (with_reducible repeat (first | refine blk_drewN ?_ _ | refine blk_drew ?_ | refine blk_alloc ?_ _)); refine blk_put (cs := #[.string (⟨#[48]⟩ : ByteArray), .string (⟨#[]⟩ : ByteArray), .string (⟨#[]⟩ : ByteArray)]) ?_ 1 _ rfl; (with_reducible repeat (first | refine blk_drewN ?_ _ | refine blk_drew ?_ | refine blk_alloc ?_ _)); refine blk_put (cs := #[.string (⟨#[]⟩ : ByteArray), .string (⟨#[]⟩ : ByteArray), .string (⟨#[]⟩ : ByteArray)]) ?_ 0 _ rfl; (with_reducible repeat (first | refine blk_drewN ?_ _ | refine blk_drew ?_ | refine blk_alloc ?_ _)); refine blk_far ?_ NB228_229.out _; (with_reducible repeat (first | refine blk_drewN ?_ _ | refine blk_drew ?_ | refine blk_alloc ?_ _)); exact BK228.out) Tryd.underlying51 rfl (by kernel_rfl)) rfl ?_
          exact ⟨by first | rfl | (simp [errW_none, errW_some] <;> rfl) | (simp [*, errW_none, errW_some] <;> rfl), by repeat (first | (with_reducible first | exact HB.out | apply below_alloc | apply pw_below_drewN | apply below_drew1 | refine below_set ?_ GE228.out | refine below_set ?_ GE229.out) | exact HB.out)⟩

/-! ### spec_isLetter: function 52 -/
def spec_isLetter.f (a0 : Int) : Option (Bool) := if a0 ≥ 97 then (if a0 ≤ 122 then (some true) else (if a0 ≥ 65 then (some (decide (a0 ≤ 90))) else (some false))) else (if a0 ≥ 65 then (some (decide (a0 ≤ 90))) else (some false))
set_option maxHeartbeats 8000000 in
set_option maxRecDepth 100000 in
theorem spec_isLetter.calls (a0 : Int) (r : Bool) (w : World) (h : spec_isLetter.f a0 = some r) :
    Calls Tryd.prog 52 #[.int .u8 a0] w fun e w' => e = .returned (.bool r) ∧ Drawn0 w w' := by
  have H : (if a0 ≥ 97 then (if a0 ≤ 122 then (some true) else (if a0 ≥ 65 then (some (decide (a0 ≤ 90))) else (some false))) else (if a0 ≥ 65 then (some (decide (a0 ≤ 90))) else (some false))) = some r := h
  clear h
  by_cases c2 : a0 ≥ 97
  · rw [if_pos c2] at H
    have c2b0 : decide (97 ≤ a0) = true := decide_eq_true c2
    clear c2
    by_cases c3 : a0 ≤ 122
    · rw [if_pos c3] at H
      have c3b0 : decide (a0 ≤ 122) = true := decide_eq_true c3
      clear c3
      obtain rfl := Option.some.inj H
      go_enter Tryd.func52, Tryd.ntmps52
      go_wp2
      go_ret
      exact ⟨by first | rfl | (simp; done) | (simp [*]; done), by repeat (first | exact Drawn0.refl _ | apply Drawn0.step)⟩
    · rw [if_neg c3] at H
      have c3b0 : decide (a0 ≤ 122) = false := decide_eq_false c3
      clear c3
      by_cases c4 : a0 ≥ 65
      · rw [if_pos c4] at H
        have c4b0 : decide (65 ≤ a0) = true := decide_eq_true c4
        clear c4
        obtain rfl := Option.some.inj H
        go_enter Tryd.func52, Tryd.ntmps52
        go_wp2
        go_ret
        exact ⟨by first | rfl | (simp; done) | (simp [*]; done), by repeat (first | exact Drawn0.refl _ | apply Drawn0.step)⟩
      · rw [if_neg c4] at H
        have c4b0 : decide (65 ≤ a0) = false := decide_eq_false c4
        clear c4
        obtain rfl := Option.some.inj H
        go_enter Tryd.func52, Tryd.ntmps52
        go_wp2
        go_ret
        exact ⟨by first | rfl | (simp; done) | (simp [*]; done), by repeat (first | exact Drawn0.refl _ | apply Drawn0.step)⟩
  · rw [if_neg c2] at H
    have c2b0 : decide (97 ≤ a0) = false := decide_eq_false c2
    clear c2
    by_cases c5 : a0 ≥ 65
    · rw [if_pos c5] at H
      have c5b0 : decide (65 ≤ a0) = true := decide_eq_true c5
      clear c5
      obtain rfl := Option.some.inj H
      go_enter Tryd.func52, Tryd.ntmps52
      go_wp2
      go_ret
      exact ⟨by first | rfl | (simp; done) | (simp [*]; done), by repeat (first | exact Drawn0.refl _ | apply Drawn0.step)⟩
    · rw [if_neg c5] at H
      have c5b0 : decide (65 ≤ a0) = false := decide_eq_false c5
      clear c5
      obtain rfl := Option.some.inj H
      go_enter Tryd.func52, Tryd.ntmps52
      go_wp2
      go_ret
      exact ⟨by first | rfl | (simp; done) | (simp [*]; done), by repeat (first | exact Drawn0.refl _ | apply Drawn0.step)⟩

/-! ### spec_rpmSkip: function 40 -/
def spec_rpmSkip.l0 : Nat → ByteArray → Option (ByteArray)
  | 0, _ => none
  | k + 1, x0 => if (x0.size : Int) > 0 then (if 0 < (x0.size : Int) then ((spec_isDigit.f (bt x0 0)).bind fun t235 => (if t235 = true then (some x0) else ((spec_isLetter.f (bt x0 0)).bind fun t236 => (if t236 = true then (some x0) else (if (bt x0 0) = 126 then (some x0) else (if (bt x0 0) = 94 then (some x0) else (if 1 ≤ (x0.size : Int) then (spec_rpmSkip.l0 k (x0.extract 1 x0.size)) else (none)))))))) else (none)) else (some x0)
def spec_rpmSkip.f (k : Nat) (a0 : ByteArray) : Option (ByteArray) := spec_rpmSkip.l0 k a0
theorem spec_rpmSkip.mono_l : ∀ k, (∀ y0, LeO (spec_rpmSkip.l0 k y0) (spec_rpmSkip.l0 (k + 1) y0))
  | 0 => fun _ r h => by simp [spec_rpmSkip.l0] at h
  | k + 1 => by
    have ih0 := spec_rpmSkip.mono_l k
    · intro y0
      unfold spec_rpmSkip.l0
      repeat' first
      | (with_reducible exact ih0 _)
      | (with_reducible exact LeO.refl _)
      | (with_reducible exact LeO.none _)
      | (with_reducible refine LeO.ite ?_ ?_)
      | (with_reducible refine LeO.bind ?_ (fun _ => ?_))
      | exact ih0 _
      | exact LeO.none _
      | refine LeO.ite ?_ ?_
      | refine LeO.bind ?_ (fun _ => ?_)
theorem spec_rpmSkip.mono : ∀ a0 k, LeO (spec_rpmSkip.f k a0) (spec_rpmSkip.f (k + 1) a0) := by
  intro a0 k
  have ih0 := spec_rpmSkip.mono_l k
  unfold spec_rpmSkip.f
  repeat' first
      | (with_reducible exact ih0 _)
      | (with_reducible exact LeO.refl _)
      | (with_reducible exact LeO.none _)
      | (with_reducible refine LeO.ite ?_ ?_)
      | (with_reducible refine LeO.bind ?_ (fun _ => ?_))
      | exact ih0 _
      | exact LeO.none _
      | refine LeO.ite ?_ ?_
      | refine LeO.bind ?_ (fun _ => ?_)
set_option maxHeartbeats 8000000 in
set_option maxRecDepth 100000 in
theorem spec_rpmSkip.calls (k : Nat) (a0 : ByteArray) (r : ByteArray) (w : World) (h : spec_rpmSkip.f k a0 = some r) :
    Calls Tryd.prog 40 #[.string a0] w fun e w' => e = .returned (.string r) ∧ Drawn0 w w' := by
  have H : (spec_rpmSkip.l0 k a0) = some r := h
  clear h
  have H' := Aside0.mk H
  clear H
  go_enter Tryd.func40, Tryd.ntmps40
  go_wp2
  go_loopg [0] k (fun kq v0 w' => ∃ (x0_1 : ByteArray), v0 = .string x0_1 ∧ Aside0 (spec_rpmSkip.l0 kq x0_1 = some r) ∧ Aside0 (kq ≤ k) ∧ Drawn0 w w')
  case atStart => exact ⟨(a0), (by first | rfl | (simp; done) | (simp [*]; done)), H', ⟨Nat.le_refl _⟩, by repeat (first | exact Drawn0.refl _ | apply Drawn0.step)⟩
  case round =>
    clear H'
    obtain ⟨x0_1, rfl, HA, HK1, ⟨m1, rfl⟩⟩ := hrel
    cases gk with
    | zero => exact absurd HA.out (by simp [spec_rpmSkip.l0])
    | succ k1 =>
      have H := HA.out
      clear HA
      simp only [spec_rpmSkip.l0] at H
      by_cases c2 : (x0_1.size : Int) > 0
      · rw [if_pos c2] at H
        have c2b0 : decide (0 < (x0_1.size : Int)) = true := decide_eq_true c2
        have c2b1 : decide (0 < x0_1.size) = true := decide_eq_true (by omega)
        clear c2
        by_cases c3 : 0 < (x0_1.size : Int)
        · rw [if_pos c3] at H
          have c3b0 : decide (0 < (x0_1.size : Int)) = true := decide_eq_true c3
          have c3b1 : decide (0 < x0_1.size) = true := decide_eq_true (by omega)
          clear c3
          replace H := Option.bind_eq_some_iff.mp H
          obtain ⟨t235, A50, H⟩ := H
          replace H : (if t235 = true then (some x0_1) else ((spec_isLetter.f (bt x0_1 0)).bind fun t236 => (if t236 = true then (some x0_1) else (if (bt x0_1 0) = 126 then (some x0_1) else (if (bt x0_1 0) = 94 then (some x0_1) else (if 1 ≤ (x0_1.size : Int) then (spec_rpmSkip.l0 k1 (x0_1.extract 1 x0_1.size)) else (none))))))) = some r := H
          have A5 := Aside0.mk A50
          clear A50
          by_cases c6 : t235 = true
          · subst c6
            have H1 : (some x0_1) = some r := by rw [if_pos rfl] at H; exact H
            clear H
            have H := H1
            clear H1
            obtain rfl := Option.some.inj H
            have p4 : 0 ≤ (0 : Int) := (by omega)
            have q4 : 0 < x0_1.size := (by have : (0 : Int) < (x0_1.size : Int) := of_decide_eq_true (by first | (with_reducible assumption) | assumption); omega)
            have hx4 : ∀ h : 0 < x0_1.size, ((x0_1[0]'h).toNat : Int) = bt x0_1 0 := bt_at x0_1 0
            clear p4
            have qi4 : (0 < (x0_1.size : Int)) = True := eq_true (of_decide_eq_true (by first | (with_reducible assumption) | assumption))
            replace q4 := eq_true q4
            go_wp2_with (first | (go_at_call 31; (with_reducible refine (spec_isDigit.calls (bt x0_1 0) true _ A5.out).mono ?_); rintro e w' ⟨rfl, ⟨nd, rfl⟩⟩))
            go_ret
            exact ⟨by first | rfl | (simp; done) | (simp [*]; done), by repeat (first | exact Drawn0.refl _ | apply Drawn0.step)⟩
          · replace c6 := Bool.eq_false_iff.mpr c6
            subst c6
            have H1 : ((spec_isLetter.f (bt x0_1 0)).bind fun t236 => (if t236 = true then (some x0_1) else (if (bt x0_1 0) = 126 then (some x0_1) else (if (bt x0_1 0) = 94 then (some x0_1) else (if 1 ≤ (x0_1.size : Int) then (spec_rpmSkip.l0 k1 (x0_1.extract 1 x0_1.size)) else (none)))))) = some r := by rw [if_neg (show ¬ (false = true) by decide)] at H; exact H
            clear H
            have H := H1
            clear H1
            replace H := Option.bind_eq_some_iff.mp H
            obtain ⟨t236, A80, H⟩ := H
            replace H : (if t236 = true then (some x0_1) else (if (bt x0_1 0) = 126 then (some x0_1) else (if (bt x0_1 0) = 94 then (some x0_1) else (if 1 ≤ (x0_1.size : Int) then (spec_rpmSkip.l0 k1 (x0_1.extract 1 x0_1.size)) else (none))))) = some r := H
            have A8 := Aside0.mk A80
            clear A80
            by_cases c9 : t236 = true
            · subst c9
              have H1 : (some x0_1) = some r := by rw [if_pos rfl] at H; exact H
              clear H
              have H := H1
              clear H1
              obtain rfl := Option.some.inj H
              have p4 : 0 ≤ (0 : Int) := (by omega)
              have q4 : 0 < x0_1.size := (by have : (0 : Int) < (x0_1.size : Int) := of_decide_eq_true (by first | (with_reducible assumption) | assumption); omega)
              have hx4 : ∀ h : 0 < x0_1.size, ((x0_1[0]'h).toNat : Int) = bt x0_1 0 := bt_at x0_1 0
              clear p4
              have qi4 : (0 < (x0_1.size : Int)) = True := eq_true (of_decide_eq_true (by first | (with_reducible assumption) | assumption))
              replace q4 := eq_true q4
              go_wp2_with (first | (go_at_call 31; (with_reducible refine (spec_isDigit.calls (bt x0_1 0) false _ A5.out).mono ?_); rintro e w' ⟨rfl, ⟨nd, rfl⟩⟩; have p7 : 0 ≤ (0 : Int) := (by omega); have q7 : 0 < x0_1.size := (by have : (0 : Int) < (x0_1.size : Int) := of_decide_eq_true (by first | (with_reducible assumption) | assumption); omega); have hx7 : ∀ h : 0 < x0_1.size, ((x0_1[0]'h).toNat : Int) = bt x0_1 0 := bt_at x0_1 0; clear p7; have qi7 : (0 < (x0_1.size : Int)) = True := eq_true (of_decide_eq_true (by first | (with_reducible assumption) | assumption)); replace q7 := eq_true q7) | (go_at_call 52; (with_reducible refine (spec_isLetter.calls (bt x0_1 0) true _ A8.out).mono ?_); rintro e w' ⟨rfl, ⟨nd, rfl⟩⟩))
              go_ret
              exact ⟨by first | rfl | (simp; done) | (simp [*]; done), by repeat (first | exact Drawn0.refl _ | apply Drawn0.step)⟩
            · replace c9 := Bool.eq_false_iff.mpr c9
              subst c9
              have H1 : (if (bt x0_1 0) = 126 then (some x0_1) else (if (bt x0_1 0) = 94 then (some x0_1) else (if 1 ≤ (x0_1.size : Int) then (spec_rpmSkip.l0 k1 (x0_1.extract 1 x0_1.size)) else (none)))) = some r := by rw [if_neg (show ¬ (false = true) by decide)] at H; exact H
              clear H
              have H := H1
              clear H1
              by_cases c11 : (bt x0_1 0) = 126
              · rw [if_pos c11] at H
                have c11b0 : ((bt x0_1 0) == 126) = true := beq_iff_eq.mpr c11
                have c11b1 : ((bt x0_1 0) != 126) = false := bne_eq_false_iff_eq.mpr c11
                clear c11
                obtain rfl := Option.some.inj H
                have p4 : 0 ≤ (0 : Int) := (by omega)
                have q4 : 0 < x0_1.size := (by have : (0 : Int) < (x0_1.size : Int) := of_decide_eq_true (by first | (with_reducible assumption) | assumption); omega)
                have hx4 : ∀ h : 0 < x0_1.size, ((x0_1[0]'h).toNat : Int) = bt x0_1 0 := bt_at x0_1 0
                clear p4
                have qi4 : (0 < (x0_1.size : Int)) = True := eq_true (of_decide_eq_true (by first | (with_reducible assumption) | assumption))
                replace q4 := eq_true q4
                go_wp2_with (first | (go_at_call 31; (with_reducible refine (spec_isDigit.calls (bt x0_1 0) false _ A5.out).mono ?_); rintro e w' ⟨rfl, ⟨nd, rfl⟩⟩; have p7 : 0 ≤ (0 : Int) := (by omega); have q7 : 0 < x0_1.size := (by have : (0 : Int) < (x0_1.size : Int) := of_decide_eq_true (by first | (with_reducible assumption) | assumption); omega); have hx7 : ∀ h : 0 < x0_1.size, ((x0_1[0]'h).toNat : Int) = bt x0_1 0 := bt_at x0_1 0; clear p7; have qi7 : (0 < (x0_1.size : Int)) = True := eq_true (of_decide_eq_true (by first | (with_reducible assumption) | assumption)); replace q7 := eq_true q7) | (go_at_call 52; (with_reducible refine (spec_isLetter.calls (bt x0_1 0) false _ A8.out).mono ?_); rintro e w' ⟨rfl, ⟨nd, rfl⟩⟩; have p10 : 0 ≤ (0 : Int) := (by omega); have q10 : 0 < x0_1.size := (by have : (0 : Int) < (x0_1.size : Int) := of_decide_eq_true (by first | (with_reducible assumption) | assumption); omega); have hx10 : ∀ h : 0 < x0_1.size, ((x0_1[0]'h).toNat : Int) = bt x0_1 0 := bt_at x0_1 0; clear p10; have qi10 : (0 < (x0_1.size : Int)) = True := eq_true (of_decide_eq_true (by first | (with_reducible assumption) | assumption)); replace q10 := eq_true q10))
                go_ret
                exact ⟨by first | rfl | (simp; done) | (simp [*]; done), by repeat (first | exact Drawn0.refl _ | apply Drawn0.step)⟩
              · rw [if_neg c11] at H
                have c11b0 : ((bt x0_1 0) == 126) = false := beq_eq_false_iff_ne.mpr c11
                have c11b1 : ((bt x0_1 0) != 126) = true := bne_iff_ne.mpr c11
                by_cases c13 : (bt x0_1 0) = 94
                · rw [if_pos c13] at H
                  have c13b0 : ((bt x0_1 0) == 94) = true := beq_iff_eq.mpr c13
                  have c13b1 : ((bt x0_1 0) != 94) = false := bne_eq_false_iff_eq.mpr c13
                  clear c13
                  obtain rfl := Option.some.inj H
                  have p4 : 0 ≤ (0 : Int) := (by omega)
                  have q4 : 0 < x0_1.size := (by have : (0 : Int) < (x0_1.size : Int) := of_decide_eq_true (by first | (with_reducible assumption) | assumption); omega)
                  have hx4 : ∀ h : 0 < x0_1.size, ((x0_1[0]'h).toNat : Int) = bt x0_1 0 := bt_at x0_1 0
                  clear p4
                  have qi4 : (0 < (x0_1.size : Int)) = True := eq_true (of_decide_eq_true (by first | (with_reducible assumption) | assumption))
                  replace q4 := eq_true q4
                  go_wp2_with (first | (go_at_call 31; (with_reducible refine (spec_isDigit.calls (bt x0_1 0) false _ A5.out).mono ?_); rintro e w' ⟨rfl, ⟨nd, rfl⟩⟩; have p7 : 0 ≤ (0 : Int) := (by omega); have q7 : 0 < x0_1.size := (by have : (0 : Int) < (x0_1.size : Int) := of_decide_eq_true (by first | (with_reducible assumption) | assumption); omega); have hx7 : ∀ h : 0 < x0_1.size, ((x0_1[0]'h).toNat : Int) = bt x0_1 0 := bt_at x0_1 0; clear p7; have qi7 : (0 < (x0_1.size : Int)) = True := eq_true (of_decide_eq_true (by first | (with_reducible assumption) | assumption)); replace q7 := eq_true q7) | (go_at_call 52; (with_reducible refine (spec_isLetter.calls (bt x0_1 0) false _ A8.out).mono ?_); rintro e w' ⟨rfl, ⟨nd, rfl⟩⟩; have p10 : 0 ≤ (0 : Int) := (by omega); have q10 : 0 < x0_1.size := (by have : (0 : Int) < (x0_1.size : Int) := of_decide_eq_true (by first | (with_reducible assumption) | assumption); omega); have hx10 : ∀ h : 0 < x0_1.size, ((x0_1[0]'h).toNat : Int) = bt x0_1 0 := bt_at x0_1 0; clear p10; have qi10 : (0 < (x0_1.size : Int)) = True := eq_true (of_decide_eq_true (by first | (with_reducible assumption) | assumption)); replace q10 := eq_true q10; have p12 : 0 ≤ (0 : Int) := (by omega); have q12 : 0 < x0_1.size := (by have : (0 : Int) < (x0_1.size : Int) := of_decide_eq_true (by first | (with_reducible assumption) | assumption); omega); have hx12 : ∀ h : 0 < x0_1.size, ((x0_1[0]'h).toNat : Int) = bt x0_1 0 := bt_at x0_1 0; clear p12; have qi12 : (0 < (x0_1.size : Int)) = True := eq_true (of_decide_eq_true (by first | (with_reducible assumption) | assumption)); replace q12 := eq_true q12))
                  go_ret
                  exact ⟨by first | rfl | (simp; done) | (simp [*]; done), by repeat (first | exact Drawn0.refl _ | apply Drawn0.step)⟩
                · rw [if_neg c13] at H
                  have c13b0 : ((bt x0_1 0) == 94) = false := beq_eq_false_iff_ne.mpr c13
                  have c13b1 : ((bt x0_1 0) != 94) = true := bne_iff_ne.mpr c13
                  by_cases c14 : 1 ≤ (x0_1.size : Int)
                  · rw [if_pos c14] at H
                    have c14b0 := eq_true c14
                    have c14b1 : decide (1 ≤ (x0_1.size : Int)) = true := decide_eq_true c14
                    clear c14
                    have H' := Aside0.mk H
                    clear H
                    have p4 : 0 ≤ (0 : Int) := (by omega)
                    have q4 : 0 < x0_1.size := (by have : (0 : Int) < (x0_1.size : Int) := of_decide_eq_true (by first | (with_reducible assumption) | assumption); omega)
                    have hx4 : ∀ h : 0 < x0_1.size, ((x0_1[0]'h).toNat : Int) = bt x0_1 0 := bt_at x0_1 0
                    clear p4
                    have qi4 : (0 < (x0_1.size : Int)) = True := eq_true (of_decide_eq_true (by first | (with_reducible assumption) | assumption))
                    replace q4 := eq_true q4
                    go_wp2_with (first | (go_at_call 31; (with_reducible refine (spec_isDigit.calls (bt x0_1 0) false _ A5.out).mono ?_); rintro e w' ⟨rfl, ⟨nd, rfl⟩⟩; have p7 : 0 ≤ (0 : Int) := (by omega); have q7 : 0 < x0_1.size := (by have : (0 : Int) < (x0_1.size : Int) := of_decide_eq_true (by first | (with_reducible assumption) | assumption); omega); have hx7 : ∀ h : 0 < x0_1.size, ((x0_1[0]'h).toNat : Int) = bt x0_1 0 := bt_at x0_1 0; clear p7; have qi7 : (0 < (x0_1.size : Int)) = True := eq_true (of_decide_eq_true (by first | (with_reducible assumption) | assumption)); replace q7 := eq_true q7) | (go_at_call 52; (with_reducible refine (spec_isLetter.calls (bt x0_1 0) false _ A8.out).mono ?_); rintro e w' ⟨rfl, ⟨nd, rfl⟩⟩; have p10 : 0 ≤ (0 : Int) := (by omega); have q10 : 0 < x0_1.size := (by have : (0 : Int) < (x0_1.size : Int) := of_decide_eq_true (by first | (with_reducible assumption) | assumption); omega); have hx10 : ∀ h : 0 < x0_1.size, ((x0_1[0]'h).toNat : Int) = bt x0_1 0 := bt_at x0_1 0; clear p10; have qi10 : (0 < (x0_1.size : Int)) = True := eq_true (of_decide_eq_true (by first | (with_reducible assumption) | assumption)); replace q10 := eq_true q10; have p12 : 0 ≤ (0 : Int) := (by omega); have q12 : 0 < x0_1.size := (by have : (0 : Int) < (x0_1.size : Int) := of_decide_eq_true (by first | (with_reducible assumption) | assumption); omega); have hx12 : ∀ h : 0 < x0_1.size, ((x0_1[0]'h).toNat : Int) = bt x0_1 0 := bt_at x0_1 0; clear p12; have qi12 : (0 < (x0_1.size : Int)) = True := eq_true (of_decide_eq_true (by first | (with_reducible assumption) | assumption)); replace q12 := eq_true q12))
                    go_roundg k1
                    case measure => have := HK1.out; omega
                    case rel => exact ⟨(x0_1.extract 1 x0_1.size), (by first | rfl | (simp; done) | (simp [*]; done)), H', ⟨by have := HK1.out; omega⟩, by repeat (first | exact Drawn0.refl _ | apply Drawn0.step)⟩
                  · rw [if_neg c14] at H
                    exact absurd H (by simp)
        · rw [if_neg c3] at H
          exact absurd H (by simp)
      · rw [if_neg c2] at H
        have c2b0 : decide (0 < (x0_1.size : Int)) = false := decide_eq_false c2
        have c2b1 : decide (0 < x0_1.size) = false := decide_eq_false (by omega)
        clear c2
        obtain rfl := Option.some.inj H
        go_wp2
        go_ret
        exact ⟨by first | rfl | (simp; done) | (simp [*]; done), by repeat (first | exact Drawn0.refl _ | apply Drawn0.step)⟩

/-! ### spec_rpmMark: function 41 -/
def spec_rpmMark.f (a0 : ByteArray) : Option (Int) := if (a0.size : Int) = 0 then (some 0) else (if 0 < (a0.size : Int) then (if (bt a0 0) = 126 then (some (-1)) else (if (bt a0 0) = 94 then (some 1) else (some 2))) else (none))
set_option maxHeartbeats 8000000 in
set_option maxRecDepth 100000 in
theorem spec_rpmMark.calls (a0 : ByteArray) (r : Int) (w : World) (h : spec_rpmMark.f a0 = some r) :
    Calls Tryd.prog 41 #[.string a0] w fun e w' => e = .returned (.int .i64 r) ∧ Drawn0 w w' := by
  have H : (if (a0.size : Int) = 0 then (some 0) else (if 0 < (a0.size : Int) then (if (bt a0 0) = 126 then (some (-1)) else (if (bt a0 0) = 94 then (some 1) else (some 2))) else (none))) = some r := h
  clear h
  by_cases c2 : (a0.size : Int) = 0
  · rw [if_pos c2] at H
    have c2b0 : ((a0.size : Int) == 0) = true := beq_iff_eq.mpr c2
    have c2b1 : ((a0.size : Int) != 0) = false := bne_eq_false_iff_eq.mpr c2
    clear c2
    obtain rfl := Option.some.inj H
    go_enter Tryd.func41, Tryd.ntmps41
    go_wp2
    go_ret
    exact ⟨by first | rfl | (simp; done) | (simp [*]; done), by repeat (first | exact Drawn0.refl _ | apply Drawn0.step)⟩
  · rw [if_neg c2] at H
    have c2b0 : ((a0.size : Int) == 0) = false := beq_eq_false_iff_ne.mpr c2
    have c2b1 : ((a0.size : Int) != 0) = true := bne_iff_ne.mpr c2
    by_cases c3 : 0 < (a0.size : Int)
    · rw [if_pos c3] at H
      have c3b0 : decide (0 < (a0.size : Int)) = true := decide_eq_true c3
      have c3b1 : decide (0 < a0.size) = true := decide_eq_true (by omega)
      clear c3
      by_cases c5 : (bt a0 0) = 126
      · rw [if_pos c5] at H
        have c5b0 : ((bt a0 0) == 126) = true := beq_iff_eq.mpr c5
        have c5b1 : ((bt a0 0) != 126) = false := bne_eq_false_iff_eq.mpr c5
        clear c5
        obtain rfl := Option.some.inj H
        have p4 : 0 ≤ (0 : Int) := (by omega)
        have q4 : 0 < a0.size := (by have : (0 : Int) < (a0.size : Int) := of_decide_eq_true (by first | (with_reducible assumption) | assumption); omega)
        have hx4 : ∀ h : 0 < a0.size, ((a0[0]'h).toNat : Int) = bt a0 0 := bt_at a0 0
        clear p4
        have qi4 : (0 < (a0.size : Int)) = True := eq_true (of_decide_eq_true (by first | (with_reducible assumption) | assumption))
        replace q4 := eq_true q4
        go_enter Tryd.func41, Tryd.ntmps41
        go_wp2
        go_ret
        exact ⟨by first | rfl | (simp; done) | (simp [*]; done), by repeat (first | exact Drawn0.refl _ | apply Drawn0.step)⟩
      · rw [if_neg c5] at H
        have c5b0 : ((bt a0 0) == 126) = false := beq_eq_false_iff_ne.mpr c5
        have c5b1 : ((bt a0 0) != 126) = true := bne_iff_ne.mpr c5
        by_cases c7 : (bt a0 0) = 94
        · rw [if_pos c7] at H
          have c7b0 : ((bt a0 0) == 94) = true := beq_iff_eq.mpr c7
          have c7b1 : ((bt a0 0) != 94) = false := bne_eq_false_iff_eq.mpr c7
          clear c7
          obtain rfl := Option.some.inj H
          have p4 : 0 ≤ (0 : Int) := (by omega)
          have q4 : 0 < a0.size := (by have : (0 : Int) < (a0.size : Int) := of_decide_eq_true (by first | (with_reducible assumption) | assumption); omega)
          have hx4 : ∀ h : 0 < a0.size, ((a0[0]'h).toNat : Int) = bt a0 0 := bt_at a0 0
          clear p4
          have qi4 : (0 < (a0.size : Int)) = True := eq_true (of_decide_eq_true (by first | (with_reducible assumption) | assumption))
          replace q4 := eq_true q4
          have p6 : 0 ≤ (0 : Int) := (by omega)
          have q6 : 0 < a0.size := (by have : (0 : Int) < (a0.size : Int) := of_decide_eq_true (by first | (with_reducible assumption) | assumption); omega)
          have hx6 : ∀ h : 0 < a0.size, ((a0[0]'h).toNat : Int) = bt a0 0 := bt_at a0 0
          clear p6
          have qi6 : (0 < (a0.size : Int)) = True := eq_true (of_decide_eq_true (by first | (with_reducible assumption) | assumption))
          replace q6 := eq_true q6
          go_enter Tryd.func41, Tryd.ntmps41
          go_wp2
          go_ret
          exact ⟨by first | rfl | (simp; done) | (simp [*]; done), by repeat (first | exact Drawn0.refl _ | apply Drawn0.step)⟩
        · rw [if_neg c7] at H
          have c7b0 : ((bt a0 0) == 94) = false := beq_eq_false_iff_ne.mpr c7
          have c7b1 : ((bt a0 0) != 94) = true := bne_iff_ne.mpr c7
          obtain rfl := Option.some.inj H
          have p4 : 0 ≤ (0 : Int) := (by omega)
          have q4 : 0 < a0.size := (by have : (0 : Int) < (a0.size : Int) := of_decide_eq_true (by first | (with_reducible assumption) | assumption); omega)
          have hx4 : ∀ h : 0 < a0.size, ((a0[0]'h).toNat : Int) = bt a0 0 := bt_at a0 0
          clear p4
          have qi4 : (0 < (a0.size : Int)) = True := eq_true (of_decide_eq_true (by first | (with_reducible assumption) | assumption))
          replace q4 := eq_true q4
          have p6 : 0 ≤ (0 : Int) := (by omega)
          have q6 : 0 < a0.size := (by have : (0 : Int) < (a0.size : Int) := of_decide_eq_true (by first | (with_reducible assumption) | assumption); omega)
          have hx6 : ∀ h : 0 < a0.size, ((a0[0]'h).toNat : Int) = bt a0 0 := bt_at a0 0
          clear p6
          have qi6 : (0 < (a0.size : Int)) = True := eq_true (of_decide_eq_true (by first | (with_reducible assumption) | assumption))
          replace q6 := eq_true q6
          go_enter Tryd.func41, Tryd.ntmps41
          go_wp2
          go_ret
          exact ⟨by first | rfl | (simp; done) | (simp [*]; done), by repeat (first | exact Drawn0.refl _ | apply Drawn0.step)⟩
    · rw [if_neg c3] at H
      exact absurd H (by simp)

/-! ### spec_rpmRun: function 53 -/
def spec_rpmRun.l0 : Nat → ByteArray → Bool → Int → Option (Int)
  | 0, _, _, _ => none
  | k + 1, x0, x1, x5 => if x5 < (x0.size : Int) then (if x1 = true then (if 0 ≤ x5 then ((spec_isDigit.f (bt x0 x5)).bind fun t237 => (if t237 = true then (spec_rpmRun.l0 k x0 x1 (wrap64 (x5 + 1))) else (some x5))) else (none)) else (if 0 ≤ x5 then ((spec_isLetter.f (bt x0 x5)).bind fun t238 => (if t238 = true then (spec_rpmRun.l0 k x0 x1 (wrap64 (x5 + 1))) else (some x5))) else (none))) else (some x5)
def spec_rpmRun.f (k : Nat) (a0 : ByteArray) (a1 : Bool) : Option (Int) := spec_rpmRun.l0 k a0 a1 0
theorem spec_rpmRun.mono_l : ∀ k, (∀ y0 y1 y2, LeO (spec_rpmRun.l0 k y0 y1 y2) (spec_rpmRun.l0 (k + 1) y0 y1 y2))
  | 0 => fun _ _ _ r h => by simp [spec_rpmRun.l0] at h
  | k + 1 => by
    have ih0 := spec_rpmRun.mono_l k
    · intro y0 y1 y2
      unfold spec_rpmRun.l0
      repeat' first
      | (with_reducible exact ih0 _ _ _)
      | (with_reducible exact LeO.refl _)
      | (with_reducible exact LeO.none _)
      | (with_reducible refine LeO.ite ?_ ?_)
      | (with_reducible refine LeO.bind ?_ (fun _ => ?_))
      | exact ih0 _ _ _
      | exact LeO.none _
      | refine LeO.ite ?_ ?_
      | refine LeO.bind ?_ (fun _ => ?_)
theorem spec_rpmRun.mono : ∀ a0 a1 k, LeO (spec_rpmRun.f k a0 a1) (spec_rpmRun.f (k + 1) a0 a1) := by
  intro a0 a1 k
  have ih0 := spec_rpmRun.mono_l k
  unfold spec_rpmRun.f
  repeat' first
      | (with_reducible exact ih0 _ _ _)
      | (with_reducible exact LeO.refl _)
      | (with_reducible exact LeO.none _)
      | (with_reducible refine LeO.ite ?_ ?_)
      | (with_reducible refine LeO.bind ?_ (fun _ => ?_))
      | exact ih0 _ _ _
      | exact LeO.none _
      | refine LeO.ite ?_ ?_
      | refine LeO.bind ?_ (fun _ => ?_)
set_option maxHeartbeats 8000000 in
set_option maxRecDepth 100000 in
theorem spec_rpmRun.calls (k : Nat) (a0 : ByteArray) (a1 : Bool) (r : Int) (w : World) (h : spec_rpmRun.f k a0 a1 = some r) :
    Calls Tryd.prog 53 #[.string a0, .bool a1] w fun e w' => e = .returned (.int .i64 r) ∧ Drawn0 w w' := by
  have H : (spec_rpmRun.l0 k a0 a1 0) = some r := h
  clear h
  have H' := Aside0.mk H
  clear H
  go_enter Tryd.func53, Tryd.ntmps53
  go_wp2
  go_loopg [5] k (fun kq v5 w' => ∃ (x5_1 : Int), v5 = .int .i64 x5_1 ∧ Aside0 (spec_rpmRun.l0 kq a0 a1 x5_1 = some r) ∧ Aside0 (kq ≤ k) ∧ Drawn0 w w')
  case atStart => exact ⟨(0), (by first | rfl | (simp; done) | (simp [*]; done)), H', ⟨Nat.le_refl _⟩, by repeat (first | exact Drawn0.refl _ | apply Drawn0.step)⟩
  case round =>
    clear H'
    try clear p2
    obtain ⟨x5_1, rfl, HA, HK1, ⟨m1, rfl⟩⟩ := hrel
    cases gk with
    | zero => exact absurd HA.out (by simp [spec_rpmRun.l0])
    | succ k1 =>
      have H := HA.out
      clear HA
      simp only [spec_rpmRun.l0] at H
      by_cases c3 : x5_1 < (a0.size : Int)
      · rw [if_pos c3] at H
        have c3b0 : decide (x5_1 < (a0.size : Int)) = true := decide_eq_true c3
        clear c3
        by_cases c4 : a1 = true
        · subst c4
          have H1 : (if 0 ≤ x5_1 then ((spec_isDigit.f (bt a0 x5_1)).bind fun t237 => (if t237 = true then (spec_rpmRun.l0 k1 a0 true (wrap64 (x5_1 + 1))) else (some x5_1))) else (none)) = some r := by rw [if_pos rfl] at H; exact H
          clear H
          have H := H1
          clear H1
          by_cases c5 : 0 ≤ x5_1
          · rw [if_pos c5] at H
            have c5b0 : decide (0 ≤ x5_1) = true := decide_eq_true c5
            clear c5
            replace H := Option.bind_eq_some_iff.mp H
            obtain ⟨t237, A70, H⟩ := H
            replace H : (if t237 = true then (spec_rpmRun.l0 k1 a0 true (wrap64 (x5_1 + 1))) else (some x5_1)) = some r := H
            have A7 := Aside0.mk A70
            clear A70
            by_cases c8 : t237 = true
            · subst c8
              have H1 : (spec_rpmRun.l0 k1 a0 true (wrap64 (x5_1 + 1))) = some r := by rw [if_pos rfl] at H; exact H
              clear H
              have H := H1
              clear H1
              have H' := Aside0.mk H
              clear H
              have p6 : 0 ≤ (x5_1 : Int) := of_decide_eq_true (by first | (with_reducible assumption) | assumption)
              have q6 : x5_1 < (a0.size : Int) := of_decide_eq_true (by first | (with_reducible assumption) | assumption)
              have hx6 := bt_at a0 x5_1
              replace p6 := eq_true p6
              replace q6 := eq_true q6
              go_wp2_with (first | (go_at_call 31; (with_reducible refine (spec_isDigit.calls (bt a0 x5_1) true _ A7.out).mono ?_); rintro e w' ⟨rfl, ⟨nd, rfl⟩⟩))
              go_roundg k1
              case measure => have := HK1.out; omega
              case rel => exact ⟨(wrap64 (x5_1 + 1)), (by first | rfl | (simp; done) | (simp [*]; done)), H', ⟨by have := HK1.out; omega⟩, by repeat (first | exact Drawn0.refl _ | apply Drawn0.step)⟩
            · replace c8 := Bool.eq_false_iff.mpr c8
              subst c8
              have H1 : (some x5_1) = some r := by rw [if_neg (show ¬ (false = true) by decide)] at H; exact H
              clear H
              have H := H1
              clear H1
              obtain rfl := Option.some.inj H
              have p6 : 0 ≤ (x5_1 : Int) := of_decide_eq_true (by first | (with_reducible assumption) | assumption)
              have q6 : x5_1 < (a0.size : Int) := of_decide_eq_true (by first | (with_reducible assumption) | assumption)
              have hx6 := bt_at a0 x5_1
              replace p6 := eq_true p6
              replace q6 := eq_true q6
              go_wp2_with (first | (go_at_call 31; (with_reducible refine (spec_isDigit.calls (bt a0 x5_1) false _ A7.out).mono ?_); rintro e w' ⟨rfl, ⟨nd, rfl⟩⟩))
              go_ret
              exact ⟨by first | rfl | (simp; done) | (simp [*]; done), by repeat (first | exact Drawn0.refl _ | apply Drawn0.step)⟩
          · rw [if_neg c5] at H
            exact absurd H (by simp)
        · replace c4 := Bool.eq_false_iff.mpr c4
          subst c4
          have H1 : (if 0 ≤ x5_1 then ((spec_isLetter.f (bt a0 x5_1)).bind fun t238 => (if t238 = true then (spec_rpmRun.l0 k1 a0 false (wrap64 (x5_1 + 1))) else (some x5_1))) else (none)) = some r := by rw [if_neg (show ¬ (false = true) by decide)] at H; exact H
          clear H
          have H := H1
          clear H1
          by_cases c9 : 0 ≤ x5_1
          · rw [if_pos c9] at H
            have c9b0 : decide (0 ≤ x5_1) = true := decide_eq_true c9
            clear c9
            replace H := Option.bind_eq_some_iff.mp H
            obtain ⟨t238, A110, H⟩ := H
            replace H : (if t238 = true then (spec_rpmRun.l0 k1 a0 false (wrap64 (x5_1 + 1))) else (some x5_1)) = some r := H
            have A11 := Aside0.mk A110
            clear A110
            by_cases c12 : t238 = true
            · subst c12
              have H1 : (spec_rpmRun.l0 k1 a0 false (wrap64 (x5_1 + 1))) = some r := by rw [if_pos rfl] at H; exact H
              clear H
              have H := H1
              clear H1
              have H' := Aside0.mk H
              clear H
              have p10 : 0 ≤ (x5_1 : Int) := of_decide_eq_true (by first | (with_reducible assumption) | assumption)
              have q10 : x5_1 < (a0.size : Int) := of_decide_eq_true (by first | (with_reducible assumption) | assumption)
              have hx10 := bt_at a0 x5_1
              replace p10 := eq_true p10
              replace q10 := eq_true q10
              go_wp2_with (first | (go_at_call 52; (with_reducible refine (spec_isLetter.calls (bt a0 x5_1) true _ A11.out).mono ?_); rintro e w' ⟨rfl, ⟨nd, rfl⟩⟩))
              go_roundg k1
              case measure => have := HK1.out; omega
              case rel => exact ⟨(wrap64 (x5_1 + 1)), (by first | rfl | (simp; done) | (simp [*]; done)), H', ⟨by have := HK1.out; omega⟩, by repeat (first | exact Drawn0.refl _ | apply Drawn0.step)⟩
            · replace c12 := Bool.eq_false_iff.mpr c12
              subst c12
              have H1 : (some x5_1) = some r := by rw [if_neg (show ¬ (false = true) by decide)] at H; exact H
              clear H
              have H := H1
              clear H1
              obtain rfl := Option.some.inj H
              have p10 : 0 ≤ (x5_1 : Int) := of_decide_eq_true (by first | (with_reducible assumption) | assumption)
              have q10 : x5_1 < (a0.size : Int) := of_decide_eq_true (by first | (with_reducible assumption) | assumption)
              have hx10 := bt_at a0 x5_1
              replace p10 := eq_true p10
              replace q10 := eq_true q10
              go_wp2_with (first | (go_at_call 52; (with_reducible refine (spec_isLetter.calls (bt a0 x5_1) false _ A11.out).mono ?_); rintro e w' ⟨rfl, ⟨nd, rfl⟩⟩))
              go_ret
              exact ⟨by first | rfl | (simp; done) | (simp [*]; done), by repeat (first | exact Drawn0.refl _ | apply Drawn0.step)⟩
          · rw [if_neg c9] at H
            exact absurd H (by simp)
      · rw [if_neg c3] at H
        have c3b0 : decide (x5_1 < (a0.size : Int)) = false := decide_eq_false c3
        clear c3
        obtain rfl := Option.some.inj H
        go_wp2
        go_ret
        exact ⟨by first | rfl | (simp; done) | (simp [*]; done), by repeat (first | exact Drawn0.refl _ | apply Drawn0.step)⟩

/-! ### spec_orderNumbers: function 54 -/
mutual
def spec_orderNumbers.j1 : Nat → ByteArray → ByteArray → Option (Int)
  | 0, _, _ => none
  | k + 1, x0, x1 => spec_orderNumbers.l1 k x0 x1
def spec_orderNumbers.j3 : Nat → ByteArray → ByteArray → Option (Int)
  | 0, _, _ => none
  | k + 1, x0, x1 => if (x0.size : Int) = (x1.size : Int) then ((spec_order.f x0 x1).bind fun t239 => (some t239)) else ((spec_orderInts.f (x0.size : Int) (x1.size : Int)).bind fun t240 => (some t240))
def spec_orderNumbers.l1 : Nat → ByteArray → ByteArray → Option (Int)
  | 0, _, _ => none
  | k + 1, x0, x1 => if (x1.size : Int) > 0 then (if 0 < (x1.size : Int) then (if (bt x1 0) = 48 then (if 1 ≤ (x1.size : Int) then (spec_orderNumbers.l1 k x0 (x1.extract 1 x1.size)) else (none)) else (spec_orderNumbers.j3 k x0 x1)) else (none)) else (spec_orderNumbers.j3 k x0 x1)
def spec_orderNumbers.l0 : Nat → ByteArray → ByteArray → Option (Int)
  | 0, _, _ => none
  | k + 1, x0, x1 => if (x0.size : Int) > 0 then (if 0 < (x0.size : Int) then (if (bt x0 0) = 48 then (if 1 ≤ (x0.size : Int) then (spec_orderNumbers.l0 k (x0.extract 1 x0.size) x1) else (none)) else (spec_orderNumbers.j1 k x0 x1)) else (none)) else (spec_orderNumbers.j1 k x0 x1)
end
def spec_orderNumbers.f (k : Nat) (a0 : ByteArray) (a1 : ByteArray) : Option (Int) := spec_orderNumbers.l0 k a0 a1
theorem spec_orderNumbers.mono_l : ∀ k, (∀ y0 y1, LeO (spec_orderNumbers.j1 k y0 y1) (spec_orderNumbers.j1 (k + 1) y0 y1)) ∧ (∀ y0 y1, LeO (spec_orderNumbers.j3 k y0 y1) (spec_orderNumbers.j3 (k + 1) y0 y1)) ∧ (∀ y0 y1, LeO (spec_orderNumbers.l1 k y0 y1) (spec_orderNumbers.l1 (k + 1) y0 y1)) ∧ (∀ y0 y1, LeO (spec_orderNumbers.l0 k y0 y1) (spec_orderNumbers.l0 (k + 1) y0 y1))
  | 0 => ⟨fun _ _ r h => by simp [spec_orderNumbers.j1] at h, fun _ _ r h => by simp [spec_orderNumbers.j3] at h, fun _ _ r h => by simp [spec_orderNumbers.l1] at h, fun _ _ r h => by simp [spec_orderNumbers.l0] at h⟩
  | k + 1 => by
    obtain ⟨ih0, ih1, ih2, ih3⟩ := spec_orderNumbers.mono_l k
    refine ⟨?_, ?_, ?_, ?_⟩
    · intro y0 y1
      unfold spec_orderNumbers.j1
      repeat' first
      | (with_reducible exact ih0 _ _)
      | (with_reducible exact ih1 _ _)
      | (with_reducible exact ih2 _ _)
      | (with_reducible exact ih3 _ _)
      | (with_reducible exact LeO.refl _)
      | (with_reducible exact LeO.none _)
      | (with_reducible refine LeO.ite ?_ ?_)
      | (with_reducible refine LeO.bind ?_ (fun _ => ?_))
      | exact ih0 _ _
      | exact ih1 _ _
      | exact ih2 _ _
      | exact ih3 _ _
      | exact LeO.none _
      | refine LeO.ite ?_ ?_
      | refine LeO.bind ?_ (fun _ => ?_)
    · intro y0 y1
      unfold spec_orderNumbers.j3
      repeat' first
      | (with_reducible exact ih0 _ _)
      | (with_reducible exact ih1 _ _)
      | (with_reducible exact ih2 _ _)
      | (with_reducible exact ih3 _ _)
      | (with_reducible exact LeO.refl _)
      | (with_reducible exact LeO.none _)
      | (with_reducible refine LeO.ite ?_ ?_)
      | (with_reducible refine LeO.bind ?_ (fun _ => ?_))
      | exact ih0 _ _
      | exact ih1 _ _
      | exact ih2 _ _
      | exact ih3 _ _
      | exact LeO.none _
      | refine LeO.ite ?_ ?_
      | refine LeO.bind ?_ (fun _ => ?_)
    · intro y0 y1
      unfold spec_orderNumbers.l1
      repeat' first
      | (with_reducible exact ih0 _ _)
      | (with_reducible exact ih1 _ _)
      | (with_reducible exact ih2 _ _)
      | (with_reducible exact ih3 _ _)
      | (with_reducible exact LeO.refl _)
      | (with_reducible exact LeO.none _)
      | (with_reducible refine LeO.ite ?_ ?_)
      | (with_reducible refine LeO.bind ?_ (fun _ => ?_))
      | exact ih0 _ _
      | exact ih1 _ _
      | exact ih2 _ _
      | exact ih3 _ _
      | exact LeO.none _
      | refine LeO.ite ?_ ?_
      | refine LeO.bind ?_ (fun _ => ?_)
    · intro y0 y1
      unfold spec_orderNumbers.l0
      repeat' first
      | (with_reducible exact ih0 _ _)
      | (with_reducible exact ih1 _ _)
      | (with_reducible exact ih2 _ _)
      | (with_reducible exact ih3 _ _)
      | (with_reducible exact LeO.refl _)
      | (with_reducible exact LeO.none _)
      | (with_reducible refine LeO.ite ?_ ?_)
      | (with_reducible refine LeO.bind ?_ (fun _ => ?_))
      | exact ih0 _ _
      | exact ih1 _ _
      | exact ih2 _ _
      | exact ih3 _ _
      | exact LeO.none _
      | refine LeO.ite ?_ ?_
      | refine LeO.bind ?_ (fun _ => ?_)
theorem spec_orderNumbers.mono : ∀ a0 a1 k, LeO (spec_orderNumbers.f k a0 a1) (spec_orderNumbers.f (k + 1) a0 a1) := by
  intro a0 a1 k
  obtain ⟨ih0, ih1, ih2, ih3⟩ := spec_orderNumbers.mono_l k
  unfold spec_orderNumbers.f
  repeat' first
      | (with_reducible exact ih0 _ _)
      | (with_reducible exact ih1 _ _)
      | (with_reducible exact ih2 _ _)
      | (with_reducible exact ih3 _ _)
      | (with_reducible exact LeO.refl _)
      | (with_reducible exact LeO.none _)
      | (with_reducible refine LeO.ite ?_ ?_)
      | (with_reducible refine LeO.bind ?_ (fun _ => ?_))
      | exact ih0 _ _
      | exact ih1 _ _
      | exact ih2 _ _
      | exact ih3 _ _
      | exact LeO.none _
      | refine LeO.ite ?_ ?_
      | refine LeO.bind ?_ (fun _ => ?_)
set_option maxHeartbeats 8000000 in
set_option maxRecDepth 100000 in
theorem spec_orderNumbers.calls (k : Nat) (a0 : ByteArray) (a1 : ByteArray) (r : Int) (w : World) (h : spec_orderNumbers.f k a0 a1 = some r) :
    Calls Tryd.prog 54 #[.string a0, .string a1] w fun e w' => e = .returned (.int .i64 r) ∧ Drawn0 w w' := by
  have H : (spec_orderNumbers.l0 k a0 a1) = some r := h
  clear h
  have HC3 := Aside0.mk H
  clear H
  go_enter Tryd.func54, Tryd.ntmps54
  go_upto_block 0 with (fail)
  go_cut [0] (fun v0 wc => ∃ (kq : Nat) (x0_2 : ByteArray), v0 = .string x0_2 ∧ Aside0 (spec_orderNumbers.j1 kq x0_2 a1 = some r) ∧ Aside0 (kq ≤ k) ∧ Drawn0 w wc)
  case first =>
    have H := HC3.out
    clear HC3
    have H' := Aside0.mk H
    clear H
    go_wp2
    go_loopg [0] k (fun kq v0 w' => ∃ (x0_1 : ByteArray), v0 = .string x0_1 ∧ Aside0 (spec_orderNumbers.l0 kq x0_1 a1 = some r) ∧ Aside0 (kq ≤ k) ∧ Drawn0 w w')
    case atStart => exact ⟨(a0), (by first | rfl | (simp; done) | (simp [*]; done)), H', ⟨Nat.le_refl _⟩, by repeat (first | exact Drawn0.refl _ | apply Drawn0.step)⟩
    case round =>
      clear H'
      try clear p2
      obtain ⟨x0_1, rfl, HA, HK1, ⟨m1, rfl⟩⟩ := hrel
      cases gk with
      | zero => exact absurd HA.out (by simp [spec_orderNumbers.l0])
      | succ k1 =>
        have H := HA.out
        clear HA
        simp only [spec_orderNumbers.l0] at H
        by_cases c4 : (x0_1.size : Int) > 0
        · rw [if_pos c4] at H
          have c4b0 : decide (0 < (x0_1.size : Int)) = true := decide_eq_true c4
          have c4b1 : decide (0 < x0_1.size) = true := decide_eq_true (by omega)
          clear c4
          (first | rw [c4b0] | (simp only [i64_w, i32_w]; rw [c4b0]) | skip)
          by_cases c5 : 0 < (x0_1.size : Int)
          · rw [if_pos c5] at H
            have c5b0 : decide (0 < (x0_1.size : Int)) = true := decide_eq_true c5
            have c5b1 : decide (0 < x0_1.size) = true := decide_eq_true (by omega)
            clear c5
            by_cases c7 : (bt x0_1 0) = 48
            · rw [if_pos c7] at H
              have c7b0 : ((bt x0_1 0) == 48) = true := beq_iff_eq.mpr c7
              have c7b1 : ((bt x0_1 0) != 48) = false := bne_eq_false_iff_eq.mpr c7
              clear c7
              by_cases c8 : 1 ≤ (x0_1.size : Int)
              · rw [if_pos c8] at H
                have c8b0 := eq_true c8
                have c8b1 : decide (1 ≤ (x0_1.size : Int)) = true := decide_eq_true c8
                clear c8
                have H' := Aside0.mk H
                clear H
                have p6 : 0 ≤ (0 : Int) := (by omega)
                have q6 : 0 < x0_1.size := (by have : (0 : Int) < (x0_1.size : Int) := of_decide_eq_true (by first | (with_reducible assumption) | assumption); omega)
                have hx6 : ∀ h : 0 < x0_1.size, ((x0_1[0]'h).toNat : Int) = bt x0_1 0 := bt_at x0_1 0
                clear p6
                have qi6 : (0 < (x0_1.size : Int)) = True := eq_true (of_decide_eq_true (by first | (with_reducible assumption) | assumption))
                replace q6 := eq_true q6
                go_wp2
                go_roundg k1
                case measure => have := HK1.out; omega
                case rel => exact ⟨(x0_1.extract 1 x0_1.size), (by first | rfl | (simp; done) | (simp [*]; done)), H', ⟨by have := HK1.out; omega⟩, by repeat (first | exact Drawn0.refl _ | apply Drawn0.step)⟩
              · rw [if_neg c8] at H
                exact absurd H (by simp)
            · rw [if_neg c7] at H
              have c7b0 : ((bt x0_1 0) == 48) = false := beq_eq_false_iff_ne.mpr c7
              have c7b1 : ((bt x0_1 0) != 48) = true := bne_iff_ne.mpr c7
              have H' := Aside0.mk H
              clear H
              have p6 : 0 ≤ (0 : Int) := (by omega)
              have q6 : 0 < x0_1.size := (by have : (0 : Int) < (x0_1.size : Int) := of_decide_eq_true (by first | (with_reducible assumption) | assumption); omega)
              have hx6 : ∀ h : 0 < x0_1.size, ((x0_1[0]'h).toNat : Int) = bt x0_1 0 := bt_at x0_1 0
              clear p6
              have qi6 : (0 < (x0_1.size : Int)) = True := eq_true (of_decide_eq_true (by first | (with_reducible assumption) | assumption))
              replace q6 := eq_true q6
              go_wp2
              go_meet
              case rel => exact ⟨_, (x0_1), (by first | rfl | (simp; done) | (simp [*]; done)), H', ⟨by have := HK1.out; first | omega | exact Nat.le_refl _⟩, by repeat (first | exact Drawn0.refl _ | apply Drawn0.step)⟩
          · rw [if_neg c5] at H
            exact absurd H (by simp)
        · rw [if_neg c4] at H
          have c4b0 : decide (0 < (x0_1.size : Int)) = false := decide_eq_false c4
          have c4b1 : decide (0 < x0_1.size) = false := decide_eq_false (by omega)
          clear c4
          (first | rw [c4b0] | (simp only [i64_w, i32_w]; rw [c4b0]) | skip)
          have H' := Aside0.mk H
          clear H
          go_wp2
          go_meet
          case rel => exact ⟨_, (x0_1), (by first | rfl | (simp; done) | (simp [*]; done)), H', ⟨by have := HK1.out; first | omega | exact Nat.le_refl _⟩, by repeat (first | exact Drawn0.refl _ | apply Drawn0.step)⟩
  case rest =>
    clear HC3
    try clear p2
    try clear c4
    try clear c4b0
    try clear c4b1
    try clear c5
    try clear c5b0
    try clear c5b1
    try clear p6
    try clear q6
    try clear hx6
    try clear qi6
    try clear c7
    try clear c7b0
    try clear c7b1
    try clear c8
    try clear c8b0
    try clear c8b1
    try clear p2
    try clear p6
    try clear q6
    obtain ⟨kq, x0_2, rfl, HA, HJ2, ⟨mc2, rfl⟩⟩ := hcut
    cases kq with
    | zero => exact absurd HA.out (by simp [spec_orderNumbers.j1])
    | succ kj2 =>
      have H := HA.out
      clear HA
      simp only [spec_orderNumbers.j1] at H
      have HC9 := Aside0.mk H
      clear H
      go_upto_block 2 with (fail)
      go_cut [1] (fun v1 wc => ∃ (kq : Nat) (x1_8 : ByteArray), v1 = .string x1_8 ∧ Aside0 (spec_orderNumbers.j3 kq x0_2 x1_8 = some r) ∧ Aside0 (kq ≤ kj2) ∧ Drawn0 w wc)
      case first =>
        have H := HC9.out
        clear HC9
        have H' := Aside0.mk H
        clear H
        go_wp2
        go_loopg [1] kj2 (fun kq v1 w' => ∃ (x1_2 : ByteArray), v1 = .string x1_2 ∧ Aside0 (spec_orderNumbers.l1 kq x0_2 x1_2 = some r) ∧ Aside0 (kq ≤ kj2) ∧ Drawn0 w w')
        case atStart => exact ⟨(a1), (by first | rfl | (simp; done) | (simp [*]; done)), H', ⟨Nat.le_refl _⟩, by repeat (first | exact Drawn0.refl _ | apply Drawn0.step)⟩
        case round =>
          clear H'
          try clear c2
          try clear p2
          try clear c4
          try clear c4b0
          try clear c4b1
          try clear c5
          try clear c5b0
          try clear c5b1
          try clear p6
          try clear q6
          try clear hx6
          try clear qi6
          try clear c7
          try clear c7b0
          try clear c7b1
          try clear c8
          try clear c8b0
          try clear c8b1
          try clear p2
          try clear p6
          try clear q6
          obtain ⟨x1_2, rfl, HA, HK2, ⟨m2, rfl⟩⟩ := hrel
          cases gk with
          | zero => exact absurd HA.out (by simp [spec_orderNumbers.l1])
          | succ k2 =>
            have H := HA.out
            clear HA
            simp only [spec_orderNumbers.l1] at H
            by_cases c10 : (x1_2.size : Int) > 0
            · rw [if_pos c10] at H
              have c10b0 : decide (0 < (x1_2.size : Int)) = true := decide_eq_true c10
              have c10b1 : decide (0 < x1_2.size) = true := decide_eq_true (by omega)
              clear c10
              (first | rw [c10b0] | (simp only [i64_w, i32_w]; rw [c10b0]) | skip)
              by_cases c11 : 0 < (x1_2.size : Int)
              · rw [if_pos c11] at H
                have c11b0 : decide (0 < (x1_2.size : Int)) = true := decide_eq_true c11
                have c11b1 : decide (0 < x1_2.size) = true := decide_eq_true (by omega)
                clear c11
                by_cases c13 : (bt x1_2 0) = 48
                · rw [if_pos c13] at H
                  have c13b0 : ((bt x1_2 0) == 48) = true := beq_iff_eq.mpr c13
                  have c13b1 : ((bt x1_2 0) != 48) = false := bne_eq_false_iff_eq.mpr c13
                  clear c13
                  by_cases c14 : 1 ≤ (x1_2.size : Int)
                  · rw [if_pos c14] at H
                    have c14b0 := eq_true c14
                    have c14b1 : decide (1 ≤ (x1_2.size : Int)) = true := decide_eq_true c14
                    clear c14
                    have H' := Aside0.mk H
                    clear H
                    have p12 : 0 ≤ (0 : Int) := (by omega)
                    have q12 : 0 < x1_2.size := (by have : (0 : Int) < (x1_2.size : Int) := of_decide_eq_true (by first | (with_reducible assumption) | assumption); omega)
                    have hx12 : ∀ h : 0 < x1_2.size, ((x1_2[0]'h).toNat : Int) = bt x1_2 0 := bt_at x1_2 0
                    clear p12
                    have qi12 : (0 < (x1_2.size : Int)) = True := eq_true (of_decide_eq_true (by first | (with_reducible assumption) | assumption))
                    replace q12 := eq_true q12
                    go_wp2
                    go_roundg k2
                    case measure => have := HJ2.out; have := HK2.out; omega
                    case rel => exact ⟨(x1_2.extract 1 x1_2.size), (by first | rfl | (simp; done) | (simp [*]; done)), H', ⟨by have := HJ2.out; have := HK2.out; omega⟩, by repeat (first | exact Drawn0.refl _ | apply Drawn0.step)⟩
                  · rw [if_neg c14] at H
                    exact absurd H (by simp)
                · rw [if_neg c13] at H
                  have c13b0 : ((bt x1_2 0) == 48) = false := beq_eq_false_iff_ne.mpr c13
                  have c13b1 : ((bt x1_2 0) != 48) = true := bne_iff_ne.mpr c13
                  have H' := Aside0.mk H
                  clear H
                  have p12 : 0 ≤ (0 : Int) := (by omega)
                  have q12 : 0 < x1_2.size := (by have : (0 : Int) < (x1_2.size : Int) := of_decide_eq_true (by first | (with_reducible assumption) | assumption); omega)
                  have hx12 : ∀ h : 0 < x1_2.size, ((x1_2[0]'h).toNat : Int) = bt x1_2 0 := bt_at x1_2 0
                  clear p12
                  have qi12 : (0 < (x1_2.size : Int)) = True := eq_true (of_decide_eq_true (by first | (with_reducible assumption) | assumption))
                  replace q12 := eq_true q12
                  go_wp2
                  go_meet
                  case rel => exact ⟨_, (x1_2), (by first | rfl | (simp; done) | (simp [*]; done)), H', ⟨by have := HJ2.out; have := HK2.out; first | omega | exact Nat.le_refl _⟩, by repeat (first | exact Drawn0.refl _ | apply Drawn0.step)⟩
              · rw [if_neg c11] at H
                exact absurd H (by simp)
            · rw [if_neg c10] at H
              have c10b0 : decide (0 < (x1_2.size : Int)) = false := decide_eq_false c10
              have c10b1 : decide (0 < x1_2.size) = false := decide_eq_false (by omega)
              clear c10
              (first | rw [c10b0] | (simp only [i64_w, i32_w]; rw [c10b0]) | skip)
              have H' := Aside0.mk H
              clear H
              go_wp2
              go_meet
              case rel => exact ⟨_, (x1_2), (by first | rfl | (simp; done) | (simp [*]; done)), H', ⟨by have := HJ2.out; have := HK2.out; first | omega | exact Nat.le_refl _⟩, by repeat (first | exact Drawn0.refl _ | apply Drawn0.step)⟩
      case rest =>
        clear HC9
        try clear c1
        try clear p1
        try clear q1
        try clear hx1
        try clear qi1
        try clear c2
        try clear p2
        try clear c4
        try clear c4b0
        try clear c4b1
        try clear c5
        try clear c5b0
        try clear c5b1
        try clear p6
        try clear q6
        try clear hx6
        try clear qi6
        try clear c7
        try clear c7b0
        try clear c7b1
        try clear c8
        try clear c8b0
        try clear c8b1
        try clear c10
        try clear c10b0
        try clear c10b1
        try clear c11
        try clear c11b0
        try clear c11b1
        try clear p12
        try clear q12
        try clear hx12
        try clear qi12
        try clear c13
        try clear c13b0
        try clear c13b1
        try clear c14
        try clear c14b0
        try clear c14b1
        try clear p12
        try clear p2
        try clear p6
        try clear q12
        try clear q6
        obtain ⟨kq, x1_8, rfl, HA, HJ8, ⟨mc8, rfl⟩⟩ := hcut
        cases kq with
        | zero => exact absurd HA.out (by simp [spec_orderNumbers.j3])
        | succ kj8 =>
          have H := HA.out
          clear HA
          simp only [spec_orderNumbers.j3] at H
          by_cases c15 : (x0_2.size : Int) = (x1_8.size : Int)
          · rw [if_pos c15] at H
            have c15b0 : ((x0_2.size : Int) == (x1_8.size : Int)) = true := beq_iff_eq.mpr c15
            have c15b1 : ((x0_2.size : Int) != (x1_8.size : Int)) = false := bne_eq_false_iff_eq.mpr c15
            have c15b2 : (x0_2.size == x1_8.size) = true := by first | simpa using c15 | (simp at c15 ⊢; omega)
            clear c15
            replace H := Option.bind_eq_some_iff.mp H
            obtain ⟨t239, A160, H⟩ := H
            replace H : (some t239) = some r := H
            have A16 := Aside0.mk A160
            clear A160
            obtain rfl := Option.some.inj H
            go_wp2_with (first | ((with_reducible refine gate_callee (f := 34) rfl ?_); refine goesL_ (some 37) rfl rfl Tryd.func34 (by kernel_rfl) rfl #[.string x0_2, .string x1_8] rfl (by (try simp only [List.map_toArray, List.map_cons, List.map_nil]); first | done | rfl | (simp only [List.length_drop, List.length_take]; rfl)) ?_; (with_reducible refine (spec_order.calls x0_2 x1_8 t239 _ A16.out).mono ?_); rintro e w' ⟨rfl, ⟨nd, rfl⟩⟩; refine ⟨_, rfl, ?_⟩))
            go_ret
            exact ⟨by first | rfl | (simp; done) | (simp [*]; done), by repeat (first | exact Drawn0.refl _ | apply Drawn0.step)⟩
          · rw [if_neg c15] at H
            have c15b0 : ((x0_2.size : Int) == (x1_8.size : Int)) = false := beq_eq_false_iff_ne.mpr c15
            have c15b1 : ((x0_2.size : Int) != (x1_8.size : Int)) = true := bne_iff_ne.mpr c15
            have c15b2 : (x0_2.size == x1_8.size) = false := by first | simpa using c15 | (simp at c15 ⊢; omega)
            replace H := Option.bind_eq_some_iff.mp H
            obtain ⟨t240, A170, H⟩ := H
            replace H : (some t240) = some r := H
            have A17 := Aside0.mk A170
            clear A170
            obtain rfl := Option.some.inj H
            go_wp2_with (first | ((with_reducible refine gate_callee (f := 33) rfl ?_); refine goesL_ (some 34) rfl rfl Tryd.func33 (by kernel_rfl) rfl #[.int .i64 (x0_2.size : Int), .int .i64 (x1_8.size : Int)] rfl (by (try simp only [List.map_toArray, List.map_cons, List.map_nil]); first | done | rfl | (simp only [List.length_drop, List.length_take]; rfl)) ?_; (with_reducible refine (spec_orderInts.calls (x0_2.size : Int) (x1_8.size : Int) t240 _ A17.out).mono ?_); rintro e w' ⟨rfl, ⟨nd, rfl⟩⟩; refine ⟨_, rfl, ?_⟩))
            go_ret
            exact ⟨by first | rfl | (simp; done) | (simp [*]; done), by repeat (first | exact Drawn0.refl _ | apply Drawn0.step)⟩

end Go.Proofs.YtciojhhncfnagaaDoor.Z
