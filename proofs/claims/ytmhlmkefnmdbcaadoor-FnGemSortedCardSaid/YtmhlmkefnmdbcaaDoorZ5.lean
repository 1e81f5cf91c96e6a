-- Written by a program of this session (myprint.py).
import Derived.Test.YtmhlmkefnmdbcaaDoorZ0
import Derived.Test.YtmhlmkefnmdbcaaDoorZ4
import Derived.Test.YtmhlmkefnmdbcaaDoorGe
namespace Go.Proofs.YtmhlmkefnmdbcaaDoor.Z
open Go.Proofs.YtmhlmkefnmdbcaaDoor.Gw
open Go.RowKit Go.Proofs.YtmhlmkefnmdbcaaDoorW.PrintWords Go.Proofs.YtmhlmkefnmdbcaaDoorW.PrintLast Go.Proofs.YtmhlmkefnmdbcaaDoorW.PrintMore
attribute [local go_sem high] Go.Proofs.YtmhlmkefnmdbcaaDoor.Ge.gtr_str
attribute [local go_sem] max2_int min2_int max_two min_two max_three min_three max_four min_four   -- for this text's walks alone
set_option linter.unusedVariables false
set_option linter.unusedSimpArgs false

/-! ### semantic_removeZeros: function 81 -/
def semantic_removeZeros.l0 : Nat → List ByteArray → Int → Option (List ByteArray)
 | 0, _, _ => none
 | k + 1, x0, x3 => if x3 ≥ 0 then (if 0 ≤ x3 then (if x3 < (x0.length : Int) then (if (rdOf ByteArray.empty x0 x3).toList = ([48] : List UInt8) then (semantic_removeZeros.l0 k x0 (wrap64 (x3 - 1))) else (if 0 ≤ (mx (wrap64 (x3 + 1)) 0) then (if (mx (wrap64 (x3 + 1)) 0) ≤ (x0.length : Int) then (some (x0.take ((mx (wrap64 (x3 + 1)) 0) : Int).toNat)) else (none)) else (none))) else (none)) else (none)) else (if 0 ≤ (mx x3 0) then (if (mx x3 0) ≤ (x0.length : Int) then (some (x0.take ((mx x3 0) : Int).toNat)) else (none)) else (none))
def semantic_removeZeros.f (k : Nat) (l0 : List ByteArray) : Option (List ByteArray) := semantic_removeZeros.l0 k l0 (wrap64 ((l0.length : Int) - 1))
theorem semantic_removeZeros.mono_l : ∀ k, (∀ y0 y1, LeO (semantic_removeZeros.l0 k y0 y1) (semantic_removeZeros.l0 (k + 1) y0 y1))
 | 0 => fun _ _ r h => by simp [semantic_removeZeros.l0] at h
 | k + 1 => by
  have ih0 := semantic_removeZeros.mono_l k
  ·intro y0 y1
   unfold semantic_removeZeros.l0
   repeat' first
   | (with_reducible exact ih0 _ _)
   | (with_reducible exact LeO.refl _)
   | (with_reducible exact LeO.none _)
   | (with_reducible refine LeO.ite ?_ ?_)
   | (with_reducible refine LeO.bind ?_ (fun _ => ?_))
   | exact ih0 _ _
   | exact LeO.none _
   | refine LeO.ite ?_ ?_
   | refine LeO.bind ?_ (fun _ => ?_)
theorem semantic_removeZeros.mono : ∀ a0 k, LeO (semantic_removeZeros.f k a0) (semantic_removeZeros.f (k + 1) a0) := by
 intro a0 k
 have ih0 := semantic_removeZeros.mono_l k
 unfold semantic_removeZeros.f
 repeat' first
   | (with_reducible exact ih0 _ _)
   | (with_reducible exact LeO.refl _)
   | (with_reducible exact LeO.none _)
   | (with_reducible refine LeO.ite ?_ ?_)
   | (with_reducible refine LeO.bind ?_ (fun _ => ?_))
   | exact ih0 _ _
   | exact LeO.none _
   | refine LeO.ite ?_ ?_
   | refine LeO.bind ?_ (fun _ => ?_)
set_option maxHeartbeats 8000000 in
set_option maxRecDepth 100000 in
theorem semantic_removeZeros.calls (k : Nat) (P0_ : Nat → Prop) (u9000_ : Value) (l0 : List ByteArray) (r : List ByteArray) (w0 w : World) (hB : Below w0.heap.size w0 w) (ho0 : Kd.R Kd.string 9 w w0.heap.size P0_ u9000_ l0) (h : semantic_removeZeros.f k l0 = some r) :
  Calls Tryd.prog 81 #[u9000_] w fun e w' => ∃ v0_ : Value, e = .returned (v0_) ∧ Kd.R Kd.string 9 w' w0.heap.size (fun k_ => (P0_ k_ ∨ w.heap.size ≤ k_)) v0_ r ∧ Below w0.heap.size w0 w' ∧ Kept w w' (fun k_ => P0_ k_) := by
 have HO0 := Aside0.mk (show Kd.R Kd.string 9 w w0.heap.size (fun k_ => (P0_ k_ ∨ w.heap.size ≤ k_)) u9000_ l0 from Kd.R_mono ho0 (fun k_ hk => (.inl hk)))
 have HK := Aside0.mk (Kept.refl w (fun k_ => P0_ k_))
 have HW0 := Aside0.mk hB.size
 have HB := Aside0.mk hB
 clear hB
 have H : (semantic_removeZeros.l0 k l0 (wrap64 ((l0.length : Int) - 1))) = some r := h
 clear h
 have H' := Aside0.mk H
 clear H
 obtain ⟨Ao2, co2, eo2⟩ := Kd.R_slice HO0.out
 subst eo2
 go_enter Tryd.func81, Tryd.ntmps81
 go_wp2
 go_loopg [3] k (fun kq v3 w' => ∃ (x3_1 : Int), v3 = .int .i64 x3_1 ∧ Aside0 (semantic_removeZeros.l0 kq l0 x3_1 = some r) ∧ Aside0 (kq ≤ k) ∧ Aside0 (Kd.R Kd.string 9 w' w0.heap.size (fun k_ => (P0_ k_ ∨ w.heap.size ≤ k_)) (.slice Ao2 l0.length co2) l0) ∧ Aside0 (Kept w w' (fun k_ => P0_ k_)) ∧ Aside0 (Below w0.heap.size w0 w'))
 case atStart => exact ⟨(wrap64 ((l0.length : Int) - 1)), (by first | rfl | (simp; done) | (simp [*]; done)), H', ⟨Nat.le_refl _⟩, ⟨by (with_reducible repeat (first | apply Kd.R_alloc | apply Kd.R_drewN | apply Kd.R_drew)); exact HO0.out⟩, ⟨by repeat (first | (with_reducible first | exact HK.out | apply Kept.alloc | apply Kept.drewN | apply Kept.drew) | exact HK.out)⟩, ⟨by repeat (first | (with_reducible first | exact HB.out | apply below_alloc | apply pw_below_drewN | apply below_drew1) | exact HB.out)⟩⟩
 case round =>
  clear H'
  try clear p2
  obtain ⟨x3_1, rfl, HA, HK1, HO_0, HK, HB⟩ := hrel
  cases gk with
  | zero => exact absurd HA.out (by simp [semantic_removeZeros.l0])
  | succ k1 =>
   have H := HA.out
   clear HA
   simp only [semantic_removeZeros.l0] at H
   by_cases c3 : x3_1 ≥ 0
   ·rw [if_pos c3] at H
    have c3b0 : decide (0 ≤ x3_1) = true := decide_eq_true c3
    clear c3
    by_cases c4 : 0 ≤ x3_1
    ·rw [if_pos c4] at H
     have c4b0 : decide (0 ≤ x3_1) = true := decide_eq_true c4
     clear c4
     by_cases c5 : x3_1 < (l0.length : Int)
     ·rw [if_pos c5] at H
      have c5b0 : decide (x3_1 < (l0.length : Int)) = true := decide_eq_true c5
      clear c5
      by_cases c6 : (rdOf ByteArray.empty l0 x3_1).toList = ([48] : List UInt8)
      ·rw [if_pos c6] at H
       have c6b0 : ((rdOf ByteArray.empty l0 x3_1).toList == ([48] : List UInt8)) = true := beq_iff_eq.mpr c6
       have c6b1 : ((rdOf ByteArray.empty l0 x3_1).toList != ([48] : List UInt8)) = false := bne_eq_false_iff_eq.mpr c6
       clear c6
       have H' := Aside0.mk H
       clear H
       have p162 : 0 ≤ (x3_1 : Int) := of_decide_eq_true (by first | (with_reducible assumption) | assumption)
       have q162 : x3_1 < (l0.length : Int) := of_decide_eq_true (by first | (with_reducible assumption) | assumption)
       obtain ⟨ad162, e162, hx162_0⟩ := Kd.at_string (Kd.R_reads' HO_0.out).2.2 x3_1 p162 q162
       cases e162
       replace p162 := eq_true p162
       replace q162 := eq_true q162
       go_wp2
       go_roundg k1
       case measure => have := HK1.out; omega
       case rel => exact ⟨(wrap64 (x3_1 - 1)), (by first | rfl | (simp; done) | (simp [*]; done)), H', ⟨by have := HK1.out; omega⟩, ⟨by (with_reducible repeat (first | apply Kd.R_alloc | apply Kd.R_drewN | apply Kd.R_drew)); exact HO_0.out⟩, ⟨by repeat (first | (with_reducible first | exact HK.out | apply Kept.alloc | apply Kept.drewN | apply Kept.drew) | exact HK.out)⟩, ⟨by repeat (first | (with_reducible first | exact HB.out | apply below_alloc | apply pw_below_drewN | apply below_drew1) | exact HB.out)⟩⟩
      ·rw [if_neg c6] at H
       have c6b0 : ((rdOf ByteArray.empty l0 x3_1).toList == ([48] : List UInt8)) = false := beq_eq_false_iff_ne.mpr c6
       have c6b1 : ((rdOf ByteArray.empty l0 x3_1).toList != ([48] : List UInt8)) = true := bne_iff_ne.mpr c6
       obtain ⟨ji7, hji7⟩ : ∃ j_ : Int, (mx (wrap64 (x3_1 + 1)) 0) = j_ := ⟨_, rfl⟩
       replace H : (if 0 ≤ (ji7) then (if (ji7) ≤ (l0.length : Int) then (some (l0.take ((ji7) : Int).toNat)) else (none)) else (none)) = some r := by first | (rw [hji7] at H; exact H) | (simp only [hji7] at H ⊢; exact H)
       have hji7_ : (if (wrap64 (x3_1 + 1)) < 0 then 0 else (wrap64 (x3_1 + 1))) = ji7 := hji7
       by_cases c8 : 0 ≤ (ji7)
       ·rw [if_pos c8] at H
        have c8b0 := eq_true c8
        have c8b1 : decide (0 ≤ (ji7)) = true := decide_eq_true c8
        clear c8
        by_cases c9 : (ji7) ≤ (l0.length : Int)
        ·rw [if_pos c9] at H
         have c9b0 := eq_true c9
         have c9b1 : decide ((ji7) ≤ (l0.length : Int)) = true := decide_eq_true c9
         clear c9
         obtain ⟨y163, hy163⟩ : ∃ y_ : List ByteArray, y_ = (l0.take ((ji7) : Int).toNat) := ⟨_, rfl⟩
         replace H : (some y163) = some r := by first | (rw [hy163]; with_reducible exact H) | (have H2_ := (Option.bind_some _ _).symm.trans H; rw [hy163]; with_reducible exact H2_) | (have H2_ := (Option.bind_some _ _).symm.trans H; with_reducible exact H2_) | with_reducible exact H | (rw [hy163]; exact H) | exact H
         have Ny163 := Aside0.mk hy163
         clear hy163
         obtain rfl := Option.some.inj H
         have p162 : 0 ≤ (x3_1 : Int) := of_decide_eq_true (by first | (with_reducible assumption) | assumption)
         have q162 : x3_1 < (l0.length : Int) := of_decide_eq_true (by first | (with_reducible assumption) | assumption)
         obtain ⟨ad162, e162, hx162_0⟩ := Kd.at_string (Kd.R_reads' HO_0.out).2.2 x3_1 p162 q162
         cases e162
         replace p162 := eq_true p162
         replace q162 := eq_true q162
         have q10 : ((ji7) : Int) ≤ ((l0.length : Int) : Int) := of_decide_eq_true (by first | (with_reducible assumption) | assumption)
         obtain ⟨i010, hi010, _, hsz10, _⟩ := info_parts info9
         have hcut10 := cut_to (P := Tryd.prog) 28 9 .i64 Tryd.underlying28 hi010 (some ad162) l0.length co2 (ji7) (of_decide_eq_true (by first | (with_reducible assumption) | assumption)) q10 (Kd.R_reads' HO_0.out).2.1
         have hr10 := Kd.R_take (m := ((ji7) : Int).toNat) HO_0.out (by omega)
         have hy10 : y163.length = ((ji7) : Int).toNat := (by rw [Ny163.out, List.length_take]; omega)
         rw [← Ny163.out] at hr10
         rw [← hy10] at hr10 hcut10
         clear hy10 hi010 hsz10 HO_0
         have HO165 := Aside0.mk hr10
         clear hr10
         replace q10 := eq_true q10
         go_wp2
         go_ret
         exact ⟨_, by first | rfl | (simp [errW_none, errW_some] <;> rfl) | (simp only [← hji7]; first | rfl | (simp [errW_none, errW_some] <;> rfl)) | (simp [*, errW_none, errW_some] <;> rfl), by (with_reducible repeat (first | apply Kd.R_alloc | apply Kd.R_drewN | apply Kd.R_drew)); exact HO165.out, by repeat (first | (with_reducible first | exact HB.out | apply below_alloc | apply pw_below_drewN | apply below_drew1) | exact HB.out), by repeat (first | (with_reducible first | exact HK.out | apply Kept.alloc | apply Kept.drewN | apply Kept.drew) | exact HK.out)⟩
        ·rw [if_neg c9] at H
         exact absurd H (by simp)
       ·rw [if_neg c8] at H
        exact absurd H (by simp)
     ·rw [if_neg c5] at H
      exact absurd H (by simp)
    ·rw [if_neg c4] at H
     exact absurd H (by simp)
   ·rw [if_neg c3] at H
    have c3b0 : decide (0 ≤ x3_1) = false := decide_eq_false c3
    clear c3
    obtain ⟨ji11, hji11⟩ : ∃ j_ : Int, (mx x3_1 0) = j_ := ⟨_, rfl⟩
    replace H : (if 0 ≤ (ji11) then (if (ji11) ≤ (l0.length : Int) then (some (l0.take ((ji11) : Int).toNat)) else (none)) else (none)) = some r := by first | (rw [hji11] at H; exact H) | (simp only [hji11] at H ⊢; exact H)
    have hji11_ : (if x3_1 < 0 then 0 else x3_1) = ji11 := hji11
    by_cases c12 : 0 ≤ (ji11)
    ·rw [if_pos c12] at H
     have c12b0 := eq_true c12
     have c12b1 : decide (0 ≤ (ji11)) = true := decide_eq_true c12
     clear c12
     by_cases c13 : (ji11) ≤ (l0.length : Int)
     ·rw [if_pos c13] at H
      have c13b0 := eq_true c13
      have c13b1 : decide ((ji11) ≤ (l0.length : Int)) = true := decide_eq_true c13
      clear c13
      obtain ⟨y166, hy166⟩ : ∃ y_ : List ByteArray, y_ = (l0.take ((ji11) : Int).toNat) := ⟨_, rfl⟩
      replace H : (some y166) = some r := by first | (rw [hy166]; with_reducible exact H) | (have H2_ := (Option.bind_some _ _).symm.trans H; rw [hy166]; with_reducible exact H2_) | (have H2_ := (Option.bind_some _ _).symm.trans H; with_reducible exact H2_) | with_reducible exact H | (rw [hy166]; exact H) | exact H
      have Ny166 := Aside0.mk hy166
      clear hy166
      obtain rfl := Option.some.inj H
      have q14 : ((ji11) : Int) ≤ ((l0.length : Int) : Int) := of_decide_eq_true (by first | (with_reducible assumption) | assumption)
      obtain ⟨i014, hi014, _, hsz14, _⟩ := info_parts info9
      have hcut14 := cut_to (P := Tryd.prog) 28 9 .i64 Tryd.underlying28 hi014 Ao2 l0.length co2 (ji11) (of_decide_eq_true (by first | (with_reducible assumption) | assumption)) q14 (Kd.R_reads' HO_0.out).2.1
      have hr14 := Kd.R_take (m := ((ji11) : Int).toNat) HO_0.out (by omega)
      have hy14 : y166.length = ((ji11) : Int).toNat := (by rw [Ny166.out, List.length_take]; omega)
      rw [← Ny166.out] at hr14
      rw [← hy14] at hr14 hcut14
      clear hy14 hi014 hsz14 HO_0
      have HO168 := Aside0.mk hr14
      clear hr14
      replace q14 := eq_true q14
      go_wp2
      go_ret
      exact ⟨_, by first | rfl | (simp [errW_none, errW_some] <;> rfl) | (simp only [← hji11]; first | rfl | (simp [errW_none, errW_some] <;> rfl)) | (simp [*, errW_none, errW_some] <;> rfl), by (with_reducible repeat (first | apply Kd.R_alloc | apply Kd.R_drewN | apply Kd.R_drew)); exact HO168.out, by repeat (first | (with_reducible first | exact HB.out | apply below_alloc | apply pw_below_drewN | apply below_drew1) | exact HB.out), by repeat (first | (with_reducible first | exact HK.out | apply Kept.alloc | apply Kept.drewN | apply Kept.drew) | exact HK.out)⟩
     ·rw [if_neg c13] at H
      exact absurd H (by simp)
    ·rw [if_neg c12] at H
     exact absurd H (by simp)

/-! ### semantic_canonicalSegments: function 66 -/
def semantic_canonicalSegments.f (k : Nat) (l0 : List ByteArray) : Option (List ByteArray) := (semantic_groupSegments.f l0).bind fun bt169 => ((semantic_removeZeros.f k bt169.1).bind fun t175 => ((semantic_removeZeros.f k bt169.2).bind fun t178 => (if t175.length + t178.length < 8796093022208 then (some (t175 ++ t178)) else (none))))
theorem semantic_canonicalSegments.mono : ∀ a0 k, LeO (semantic_canonicalSegments.f k a0) (semantic_canonicalSegments.f (k + 1) a0) := by
 intro a0 k
 unfold semantic_canonicalSegments.f
 repeat' first
   | (with_reducible exact semantic_removeZeros.mono _ _)
   | (with_reducible exact LeO.refl _)
   | (with_reducible exact LeO.none _)
   | (with_reducible refine LeO.ite ?_ ?_)
   | (with_reducible refine LeO.bind ?_ (fun _ => ?_))
   | exact semantic_removeZeros.mono _ _
   | exact LeO.none _
   | refine LeO.ite ?_ ?_
   | refine LeO.bind ?_ (fun _ => ?_)
set_option maxHeartbeats 8000000 in
set_option maxRecDepth 100000 in
theorem semantic_canonicalSegments.calls (k : Nat) (A0 : Option Addr) (c0 : Nat) (l0 : List ByteArray) (r : List ByteArray) (w : World) (hr0 : Kd.C Kd.string w A0 l0.length l0) (hc0 : l0.length ≤ c0) (hG : GW w) (h : semantic_canonicalSegments.f k l0 = some r) :
  Calls Tryd.prog 66 #[.slice A0 l0.length c0] w fun e w' => ∃ v0_ : Value, e = .returned (v0_) ∧ Kd.R Kd.string 9 w' w.heap.size (fun _ => True) v0_ r ∧ Below w.heap.size w w' := by
 have HG := Aside0.mk hG
 clear hG
 have HR0 := Aside0.mk hr0
 have HC0 := Aside0.mk hc0
 clear hr0 hc0
 have HB := Aside0.mk (Below.refl w.heap.size w)
 have H : ((semantic_groupSegments.f l0).bind fun bt169 => ((semantic_removeZeros.f k bt169.1).bind fun t175 => ((semantic_removeZeros.f k bt169.2).bind fun t178 => (if t175.length + t178.length < 8796093022208 then (some (t175 ++ t178)) else (none))))) = some r := h
 clear h
 replace H := Option.bind_eq_some_iff.mp H
 obtain ⟨⟨t169, t170⟩, A20, H⟩ := H
 replace H : ((semantic_removeZeros.f k t169).bind fun t175 => ((semantic_removeZeros.f k t170).bind fun t178 => (if t175.length + t178.length < 8796093022208 then (some (t175 ++ t178)) else (none)))) = some r := H
 have A2 := Aside0.mk A20
 clear A20
 replace H := Option.bind_eq_some_iff.mp H
 obtain ⟨t175, A30, H⟩ := H
 replace H : ((semantic_removeZeros.f k t170).bind fun t178 => (if t175.length + t178.length < 8796093022208 then (some (t175 ++ t178)) else (none))) = some r := H
 have A3 := Aside0.mk A30
 clear A30
 replace H := Option.bind_eq_some_iff.mp H
 obtain ⟨t178, A40, H⟩ := H
 replace H : (if t175.length + t178.length < 8796093022208 then (some (t175 ++ t178)) else (none)) = some r := H
 have A4 := Aside0.mk A40
 clear A40
 by_cases c5 : t175.length + t178.length < 8796093022208
 ·rw [if_pos c5] at H
  have LMc5 := Aside0.mk c5
  clear c5
  obtain ⟨y181, hy181⟩ : ∃ y_ : List ByteArray, y_ = (t175 ++ t178) := ⟨_, rfl⟩
  replace H : (some y181) = some r := by first | (rw [hy181]; with_reducible exact H) | (have H2_ := (Option.bind_some _ _).symm.trans H; rw [hy181]; with_reducible exact H2_) | (have H2_ := (Option.bind_some _ _).symm.trans H; with_reducible exact H2_) | with_reducible exact H | (rw [hy181]; exact H) | exact H
  have Ny181 := Aside0.mk hy181
  clear hy181
  obtain rfl := Option.some.inj H
  go_enter Tryd.func66, Tryd.ntmps66
  go_wp2_with (first | ((with_reducible refine gate_callee (f := 80) rfl ?_); refine goesL_ (some 7) rfl rfl Tryd.func80 (by kernel_rfl) rfl #[.slice A0 l0.length c0] rfl (by (try simp only [List.map_toArray, List.map_cons, List.map_nil]); first | done | rfl | (simp only [List.length_drop, List.length_take]; rfl)) ?_; (with_reducible refine (semantic_groupSegments.calls _ _ l0 t169 t170 _ ?side1 ?side2 ?side3 A2.out).mono ?_); (case side1 => repeat (first | exact HR0.out | (with_reducible refine Kd.C_alloc ?_ _) | (with_reducible refine Kd.C_drewN ?_ _) | (with_reducible refine Kd.C_drew ?_))); (case side2 => exact HC0.out); (case side3 => first | exact HG.out | exact GW.below HG.out (by repeat (first | (with_reducible first | exact HB.out | exact Below.refl _ _ | apply below_alloc | apply pw_below_drewN | apply below_drew1 | apply below_drew | refine below_set ?_ (Aside0.out (by assumption))) | exact HB.out))); rintro e w6 ⟨v171, v173, rfl, ho0, ho1, hb⟩; refine ⟨_, rfl, ?_⟩; have n0_ := Aside0.mk (Kd.R_lower ho0 (below_size (by repeat (first | (with_reducible first | exact HB.out | apply below_alloc | apply pw_below_drewN | apply below_drew1) | exact HB.out)))); have n1_ := Aside0.mk (Kd.R_lower ho1 (below_size (by repeat (first | (with_reducible first | exact HB.out | apply below_alloc | apply pw_below_drewN | apply below_drew1) | exact HB.out)))); have n2_ := Aside0.mk (below_step (by repeat (first | (with_reducible first | exact HB.out | apply below_alloc | apply pw_below_drewN | apply below_drew1) | exact HB.out)) hb); clear HB; have HO172 := n0_; have HO174 := n1_; have HB := n2_; clear n0_ n1_ n2_; (try clear hb); (try clear hb2); (try clear hk); (try clear hi); (try clear ho0); (try clear ho1); obtain ⟨Ao7, co7, eo7⟩ := Kd.R_slice HO172.out; subst eo7) | ((with_reducible refine gate_callee (f := 81) rfl ?_); refine goesL_ (some 11) rfl rfl Tryd.func81 (by kernel_rfl) rfl #[.slice Ao7 t169.length co7] rfl (by (try simp only [List.map_toArray, List.map_cons, List.map_nil]); first | done | rfl | (simp only [List.length_drop, List.length_take]; rfl)) ?_; (with_reducible refine (semantic_removeZeros.calls k (fun k_ => some k_ = (.slice Ao7 t169.length co7 : Value).ownBlock) (.slice Ao7 t169.length co7) t169 t175 w _ ?side1 ?side2 A3.out).mono ?_); (case side1 => repeat (first | (with_reducible first | exact HB.out | apply below_alloc | apply pw_below_drewN | apply below_drew1) | exact HB.out)); (case side2 => exact Kd.R_tight rfl HO172.out); rintro e w8 ⟨v176, rfl, ho0, hb, hkp⟩; refine ⟨_, rfl, ?_⟩; have n0_ := Aside0.mk (Kd.R_mono (ok' := fun k_ => some k_ ≠ (v176 : Value).ownBlock) (Kd.R_keptB (HO174.out) hkp (fun k_ hk_ hs_ => (hk_) hs_)) (fun k_ hk_ => fun e_ => Or.elim (ho0.1 k_ e_.symm) (fun hs_ => hk_.2.1 hs_) (fun hn_ => Nat.not_le.2 hk_.2.2 hn_))); have n1_ := Aside0.mk (Kd.R_mono (ok' := fun k_ => some k_ ≠ (v173 : Value).ownBlock) ho0 (fun k_ hk_ => Or.elim hk_ (fun hs_ => fun e_ => (((HO174.out).1 k_ e_.symm)) hs_) (fun hn_ => (Kd.fresh' (Kd.R_lt (by (with_reducible repeat (first | apply Kd.R_alloc | apply Kd.R_drewN | apply Kd.R_drew)); exact HO174.out)) k_ hn_)))); have n2_ := Aside0.mk (hb); clear HO174; clear HB; clear HO172; have HO174 := n0_; have HO177 := n1_; have HB := n2_; clear n0_ n1_ n2_; (try clear hb); (try clear hkp); (try clear ho0); obtain ⟨Ao9, co9, eo9⟩ := Kd.R_slice HO174.out; subst eo9) | ((with_reducible refine gate_callee (f := 81) rfl ?_); refine goesL_ (some 13) rfl rfl Tryd.func81 (by kernel_rfl) rfl #[.slice Ao9 t170.length co9] rfl (by (try simp only [List.map_toArray, List.map_cons, List.map_nil]); first | done | rfl | (simp only [List.length_drop, List.length_take]; rfl)) ?_; (with_reducible refine (semantic_removeZeros.calls k (fun k_ => some k_ = (.slice Ao9 t170.length co9 : Value).ownBlock) (.slice Ao9 t170.length co9) t170 t178 w _ ?side1 ?side2 A4.out).mono ?_); (case side1 => repeat (first | (with_reducible first | exact HB.out | apply below_alloc | apply pw_below_drewN | apply below_drew1) | exact HB.out)); (case side2 => exact Kd.R_tight rfl HO174.out); rintro e w10 ⟨v179, rfl, ho0, hb, hkp⟩; refine ⟨_, rfl, ?_⟩; have n0_ := Aside0.mk (Kd.R_mono (ok' := fun k_ => some k_ ≠ (v179 : Value).ownBlock) (Kd.R_keptB (HO177.out) hkp (fun k_ hk_ hs_ => (hk_) hs_)) (fun k_ hk_ => fun e_ => Or.elim (ho0.1 k_ e_.symm) (fun hs_ => hk_.2.1 hs_) (fun hn_ => Nat.not_le.2 hk_.2.2 hn_))); have n1_ := Aside0.mk (Kd.R_mono (ok' := fun k_ => some k_ ≠ (v176 : Value).ownBlock) ho0 (fun k_ hk_ => Or.elim hk_ (fun hs_ => fun e_ => (((HO177.out).1 k_ e_.symm)) hs_) (fun hn_ => (Kd.fresh' (Kd.R_lt (by (with_reducible repeat (first | apply Kd.R_alloc | apply Kd.R_drewN | apply Kd.R_drew)); exact HO177.out)) k_ hn_)))); have n2_ := Aside0.mk (hb); clear HO177; clear HB; clear HO174; have HO177 := n0_; have HO180 := n1_; have HB := n2_; clear n0_ n1_ n2_; (try clear hb); (try clear hkp); (try clear ho0); obtain ⟨Ao12, co12, eo12⟩ := Kd.R_slice HO180.out; subst eo12) | ((with_reducible refine gate_builtin (b := .append) (xs := #[.tmp 11, .tmp 13]) rfl ?_); at_builtin; refine Kd.R_append_rows Kd.string (w0 := w) w.heap.size rfl (.tmp 11) (.tmp 13) 28 9 (.string ⟨#[]⟩) 16 rfl Tryd.underlying28 info9 rfl (by decide) (by omega) v176 t175 t178 _ _ _ (fun k_ => some k_ ≠ (.slice Ao12 t178.length co12 : Value).ownBlock) (fun _ => False) rfl rfl ?aO ?aR (fun _ _ h => h) (fun _ h => h.elim) ?aF ?aB ?aS ?aL ?_; (case aR => repeat (first | exact (Kd.R_reads' HO180.out).2.2 | (with_reducible refine Kd.C_alloc ?_ _) | (with_reducible refine Kd.C_drewN ?_ _) | (with_reducible refine Kd.C_drew ?_))); (case aB => exact (by repeat (first | (with_reducible first | exact HB.out | apply below_alloc | apply pw_below_drewN | apply below_drew1) | exact HB.out))); (case aF => exact (fun k_ hk => Kd.fresh' (Kd.R_lt (by (with_reducible repeat (first | apply Kd.R_alloc | apply Kd.R_drewN | apply Kd.R_drew)); exact HO180.out)) k_ hk)); (case aO => exact (by (with_reducible repeat (first | apply Kd.R_alloc | apply Kd.R_drewN | apply Kd.R_drew)); exact HO177.out)); (case aS => exact (below_size (by repeat (first | (with_reducible first | exact HB.out | apply below_alloc | apply pw_below_drewN | apply below_drew1) | exact HB.out)))); (case aL => have := LMc5.out; omega); intro v182 w11 ho hb hg hat; rw [← Ny181.out] at ho; have n0_ := Aside0.mk (Kd.R_after (ok := (fun _ => True)) (by (with_reducible repeat (first | apply Kd.R_alloc | apply Kd.R_drewN | apply Kd.R_drew)); exact Kd.R_mono HO180.out (fun _ hk => ⟨trivial, hk⟩)) hg hat); have n1_ := Aside0.mk (hb); have n2_ := Aside0.mk (ho); clear HO180; clear HB; clear HO177; have HO180 := n0_; have HB := n1_; have HO183 := n2_; clear n0_ n1_ n2_; clear ho hb hg hat))
  go_ret
  exact ⟨_, by first | rfl | (simp [errW_none, errW_some] <;> rfl) | (simp [*, errW_none, errW_some] <;> rfl), by (with_reducible repeat (first | apply Kd.R_alloc | apply Kd.R_drewN | apply Kd.R_drew)); exact Kd.R_mono HO183.out (fun _ hk => trivial), by repeat (first | (with_reducible first | exact HB.out | apply below_alloc | apply pw_below_drewN | apply below_drew1) | exact HB.out)⟩
 ·rw [if_neg c5] at H
  exact absurd H (by simp)

end Go.Proofs.YtmhlmkefnmdbcaaDoor.Z
