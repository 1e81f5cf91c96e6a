/- Lists of identifiers: the walk's answer is the reference's. -/
import Derived.Test.YtnbokeodgendkaaDoorZ8
import Derived.Test.YtnbokeodgendkaaDoorZ9
import Derived.Test.YtnbokeodgendkaaDoorComId
import Derived.Test.YtnbokeodgendkaaDoorComO
import Derived.Test.YtnbokeodgendkaaDoorBv
namespace Go.Proofs.YtnbokeodgendkaaDoor.Com
open Go Go.RowKit Go.Proofs.YtnbokeodgendkaaDoor.Z Go.Proofs.YtnbokeodgendkaaDoor.Evs Go.Proofs.YtnbokeodgendkaaDoor.By Go.Proofs.YtnbokeodgendkaaDoor.Ss Go.Proofs.YtnbokeodgendkaaDoorW.PrintWords Go.Proofs.YtnbokeodgendkaaDoorW.PrintLast
set_option linter.unusedVariables false
set_option linter.unusedSimpArgs false
theorem dig_sg {l : List UInt8} (h : allD l = true) : sgN (ofL l) = 0 ∧ sgB (ofL l) = false := by
  cases l with
  | nil => cases h
  | cons c r =>
    have h0 : 0 < (ofL (c :: r)).size := by rw [ofL_size]; simp
    have hg : (ofL (c :: r))[0]'h0 = c := rfl
    have hd : dg c = true := by
      unfold allD at h
      rw [Bool.and_eq_true] at h
      exact List.all_eq_true.1 h.1 c (by simp)
    have h1 : ¬ c = 45 := fun e => by subst e; revert hd; decide
    have h2 : ¬ c = 43 := fun e => by subst e; revert hd; decide
    unfold sgN sgB
    rw [dif_pos h0, dif_pos h0, hg, if_neg (by simp [h1, h2])]
    exact ⟨rfl, beq_eq_false_iff_ne.2 h1⟩
theorem cvt_digits {l : List UInt8} (h : allD l = true) : cvt (ofL l) = some (Bv.decV l) := by
  obtain ⟨h1, h2⟩ := dig_sg h
  have hb := h
  unfold allD at hb
  rw [Bool.and_eq_true] at hb
  have hl : 0 < l.length := of_decide_eq_true hb.2
  unfold cvt
  rw [h1, h2, bl_ofL, List.drop_zero, if_pos ⟨fun e => by rw [e] at hl; simp at hl, hb.1⟩]
  rfl
theorem cvt_other {l : List UInt8} (h : allD l = false) (hs : signed l = false) : cvt (ofL l) = none := by
  refine if_neg ?_
  rw [bl_ofL]
  rintro ⟨h1, h2⟩
  cases l with
  | nil => exact h1 (by simp)
  | cons c r =>
    have h0 : 0 < (ofL (c :: r)).size := by rw [ofL_size]; simp
    have hg : (ofL (c :: r))[0]'h0 = c := rfl
    have hn : sgN (ofL (c :: r)) = if c = 45 ∨ c = 43 then 1 else 0 := by
      unfold sgN
      rw [dif_pos h0, hg]
    rw [hn] at h1 h2
    by_cases hc : c = 45 ∨ c = 43
    · rw [if_pos hc] at h1 h2
      have e : signed (c :: r) = allD r := by
        have : (c == 45 || c == 43) = true := by
          rcases hc with rfl | rfl <;> rfl
        simp only [signed, this, Bool.true_and]
      rw [e] at hs
      unfold allD at hs
      have h3 : r.all dg = true := h2
      have h4 : 0 < r.length := List.length_pos_iff.2 h1
      rw [h3, decide_eq_true h4] at hs
      cases hs
    · rw [if_neg hc] at h1 h2
      unfold allD at h
      have h3 : (c :: r).all dg = true := h2
      rw [h3, decide_eq_true (by simp)] at h
      cases h
theorem cmpI_Z (a b : Int) : cmpI a b = Bn.cmpZ a b := rfl
theorem cmpD_Z {a b : List UInt8} (ha : allD a = true) (hb : allD b = true) : cmpD a b = Bn.cmpZ (Bv.decV a) (Bv.decV b) := by
  unfold allD at ha hb
  rw [Bool.and_eq_true] at ha hb
  exact Bv.dec_cmp a b ha.1 hb.1
/-- How two identifiers compare, as the page has it. -/
def pg (x y : List UInt8) : Int := if allD x && allD y then cmpD x y else if allD x then -1 else if allD y then 1 else Lib.compareBytes x y
theorem pg_idC {x y : List UInt8} (hx : signed x = false) (hy : signed y = false) : idC (ofL x) (ofL y) = pg x y := by
  unfold idC pg
  cases ha : allD x <;> cases hb : allD y
  · rw [cvt_other ha hx, cvt_other hb hy]
    rfl
  · rw [cvt_other ha hx, cvt_digits hb]
    rfl
  · rw [cvt_digits ha, cvt_other hb hy]
    rfl
  · rw [cvt_digits ha, cvt_digits hb]
    exact (cmpD_Z ha hb).symm
theorem cmpZ_range (a b : Int) : Bn.cmpZ a b = -1 ∨ Bn.cmpZ a b = 0 ∨ Bn.cmpZ a b = 1 := by
  unfold Bn.cmpZ
  split
  · simp
  · split <;> simp
theorem idC_range (x y : ByteArray) : idC x y = -1 ∨ idC x y = 0 ∨ idC x y = 1 := by
  unfold idC
  split
  · exact cmpZ_range _ _
  · exact cmpB_range _ _
  · simp
  · simp
theorem cmpZ_anti (a b : Int) : Bn.cmpZ b a = -Bn.cmpZ a b := by
  unfold Bn.cmpZ
  rcases Int.lt_trichotomy a b with h | h | h
  · rw [if_neg (by omega), if_pos h, if_pos h]
    rfl
  · rw [if_neg (by omega), if_neg (by omega), if_neg (by omega), if_neg (by omega)]
    rfl
  · rw [if_pos h, if_neg (by omega), if_pos h]
theorem idC_anti (x y : ByteArray) : idC y x = -idC x y := by
  unfold idC
  cases cvt x <;> cases cvt y
  · exact cmpB_anti _ _
  · rfl
  · rfl
  · exact cmpZ_anti _ _
theorem idsC_range : ∀ l r : List ByteArray, idsC l r = -1 ∨ idsC l r = 0 ∨ idsC l r = 1
  | [], [] => .inr (.inl rfl)
  | _ :: _, [] => .inr (.inr rfl)
  | [], _ :: _ => .inl rfl
  | x :: l, y :: r => by
    rw [idsC]
    split
    · exact idsC_range l r
    · split <;> simp
theorem idsC_anti : ∀ l r : List ByteArray, idsC r l = -idsC l r
  | [], [] => rfl
  | _ :: _, [] => rfl
  | [], _ :: _ => rfl
  | x :: l, y :: r => by
    rw [idsC, idsC, idC_anti x y]
    rcases idC_range x y with h | h | h <;> rw [h]
    · rfl
    · exact idsC_anti l r
    · rfl
theorem pageOne_ev (x y : List UInt8) (hx : x.length ≤ 140737488351232) (hy : y.length ≤ 140737488351232) : Ev (fun k => spec_pageOne.f k (ofL x) (ofL y)) (pg x y) := by
  unfold spec_pageOne.f pg
  refine Ev.bind (digits_ev x hx) (Ev.bind (digits_ev y hy) ?_)
  cases ha : allD x <;> cases hb : allD y
  · refine ev_f (Ev.step (fun _ => by rw [spec_pageOne.j0]) ?_)
    refine ev_f (ev_f (ev_f ?_))
    rw [order_f]
    exact ev_now rfl
  · refine ev_f (Ev.step (fun _ => by rw [spec_pageOne.j0]) ?_)
    exact ev_f (ev_f (ev_t (ev_now rfl)))
  · refine ev_t (Ev.step (fun _ => by rw [spec_pageOne.j0]) ?_)
    exact ev_f (ev_t (ev_now rfl))
  · refine ev_t (Ev.step (fun _ => by rw [spec_pageOne.j0]) ?_)
    exact ev_t (Ev.bind (orderNumbers_ev x y hx hy) (ev_now rfl))
theorem cmpI_lens {α : Type} (l r : List α) (i : Nat) (h : i ≤ l.length) (h' : i ≤ r.length) (hi : i = l.length ∨ i = r.length) (f : Int) (hf : f = if r.length < l.length then 1 else if l.length < r.length then -1 else 0) : cmpI (l.length : Int) (r.length : Int) = f := by
  rw [hf]
  unfold cmpI
  rcases Nat.lt_trichotomy l.length r.length with h1 | h1 | h1
  · rw [if_pos (by omega), if_neg (by omega), if_pos h1]
  · rw [if_neg (by omega), if_neg (by omega), if_neg (by omega), if_neg (by omega)]
  · rw [if_neg (by omega), if_pos (by omega), if_pos h1]
theorem idents_l (l r : List (List UInt8)) (hl : l.length ≤ 100000) (hr : r.length ≤ 100000) (hz : ∀ x ∈ l, x.length ≤ 1000000 ∧ signed x = false) (hz' : ∀ x ∈ r, x.length ≤ 1000000 ∧ signed x = false) (d : Nat) : ∀ i : Nat, i + d = min l.length r.length → Ev (fun k => spec_Identifiers.l0 k (l.map ofL) (r.map ofL) (i : Int)) (idsC ((l.map ofL).drop i) ((r.map ofL).drop i)) := by
  induction d with
  | zero =>
    intro i h
    have he := idsC_end (l.map ofL) (r.map ofL) i (by rw [List.length_map, List.length_map]; omega) (by rw [List.length_map]; omega) (by rw [List.length_map]; omega)
    have hc := cmpI_lens (l.map ofL) (r.map ofL) i (by rw [List.length_map]; omega) (by rw [List.length_map]; omega) (by rw [List.length_map, List.length_map]; omega) _ he
    have fin : Ev (fun k => spec_Identifiers.j1 k (l.map ofL) (r.map ofL) (i : Int) false) (idsC ((l.map ofL).drop i) ((r.map ofL).drop i)) := by
      refine Ev.step (fun _ => by rw [spec_Identifiers.j1, orderI_f, Option.bind_some]) (ev_f (ev_now ?_))
      rw [← hc]
    refine Ev.step (fun _ => by rw [spec_Identifiers.l0]) ?_
    by_cases h1 : i < l.length
    · refine ev_pos (by rw [List.length_map]; omega) ?_
      have : decide ((i : Int) < ((r.map ofL).length : Int)) = false := decide_eq_false (by rw [List.length_map]; omega)
      rw [this]
      exact fin
    · exact ev_neg (by rw [List.length_map]; omega) fin
  | succ d ih =>
    intro i h
    have h1 : i < l.length := by omega
    have h2 : i < r.length := by omega
    have e1 := rd_map l i h1
    have e2 := rd_map r i h2
    have g1 : (l.map ofL)[i]'(by rw [List.length_map]; exact h1) = ofL l[i] := List.getElem_map ..
    have g2 : (r.map ofL)[i]'(by rw [List.length_map]; exact h2) = ofL r[i] := List.getElem_map ..
    have hst := idsC_step (l.map ofL) (r.map ofL) i (by rw [List.length_map]; exact h1) (by rw [List.length_map]; exact h2)
    have z1 := hz _ (List.getElem_mem h1)
    have z2 := hz' _ (List.getElem_mem h2)
    have hdt : decide ((i : Int) < ((r.map ofL).length : Int)) = true := decide_eq_true (by rw [List.length_map]; omega)
    rw [g1, g2, pg_idC z1.2 z2.2] at hst
    refine Ev.step (fun _ => by rw [spec_Identifiers.l0]) (ev_pos (by rw [List.length_map]; omega) ?_)
    rw [hdt]
    refine Ev.step (fun _ => by rw [spec_Identifiers.j1, e1, e2]) (ev_t (ev_pos (by omega) (ev_pos (by rw [List.length_map]; omega) (ev_pos (by rw [List.length_map]; omega) (Ev.bind (pageOne_ev _ _ (by omega) (by omega)) ?_)))))
    have hrg := idC_range (ofL l[i]) (ofL r[i])
    rw [pg_idC z1.2 z2.2] at hrg
    by_cases h0 : pg l[i] r[i] = 0
    · refine ev_pos h0 ?_
      rw [hst, if_pos h0, wrap_nat (by omega)]
      exact ih (i + 1) (by omega)
    · refine ev_neg h0 (ev_now ?_)
      rw [hst, if_neg h0]
      rcases hrg with h | h | h
      · rw [h]; rfl
      · exact absurd h h0
      · rw [h]; rfl
theorem idents_ev (l r : List (List UInt8)) (hl : l.length ≤ 100000) (hr : r.length ≤ 100000) (hz : ∀ x ∈ l, x.length ≤ 1000000 ∧ signed x = false) (hz' : ∀ x ∈ r, x.length ≤ 1000000 ∧ signed x = false) : Ev (fun k => spec_Identifiers.f k (l.map ofL) (r.map ofL)) (idsC (l.map ofL) (r.map ofL)) := idents_l l r hl hr hz hz' _ 0 (Nat.zero_add _)
end Go.Proofs.YtnbokeodgendkaaDoor.Com
