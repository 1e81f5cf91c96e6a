/- Red Hat: what the reference's parser and comparison answer; the sentence 'redhatAwake'. -/
import Derived.Test.YtciojhhncfnagaaDoorZ11
import Derived.Test.YtciojhhncfnagaaDoorZ15
import Derived.Test.YtciojhhncfnagaaDoorZ16
import Derived.Test.YtciojhhncfnagaaDoorComR
namespace Go.Proofs.YtciojhhncfnagaaDoor.Com
open Go Go.RowKit Go.Proofs.YtciojhhncfnagaaDoor.Z Go.Proofs.YtciojhhncfnagaaDoor.Evs Go.Proofs.YtciojhhncfnagaaDoor.By Go.Proofs.YtciojhhncfnagaaDoor.Lx Go.Proofs.YtciojhhncfnagaaDoor.Rh Go.Proofs.YtciojhhncfnagaaDoor.Rk Go.Proofs.YtciojhhncfnagaaDoorW.PrintWords Go.Proofs.YtciojhhncfnagaaDoorW.PrintLast
set_option linter.unusedVariables false
set_option linter.unusedSimpArgs false

theorem vr_tail (e : ByteArray) (vr : List UInt8) (N : Nat) (hN : N = vr.length) (hv : vr.length ≤ 1000000) :
    Ev (fun k => (spec_indexOf.f k (ofL vr) 45).bind fun t => (if t ≥ 0 then (if 0 ≤ t then (if t ≤ (N : Int) then (some (e, (ofL vr).extract 0 (t : Int).toNat, (ofL vr).extract (t : Int).toNat N)) else (none)) else (none)) else (some (e, ofL vr, (⟨#[]⟩ : ByteArray))))) (e, ofL (vr.takeWhile (· != 45)), ofL (vr.dropWhile (· != 45))) := by
  have hi : Ev (fun k => spec_indexOf.f k (ofL vr) 45) (idxI 45 vr) := index_ev 45 vr (by omega)
  refine Ev.bind hi ?_
  have et := tw_dw 45 vr
  have hl := congrArg List.length et
  rw [List.length_append] at hl
  cases hd : vr.dropWhile (· != 45) with
  | nil =>
    have h1 : idxI 45 vr = -1 := by rw [idxI, if_pos hd]
    rw [h1]
    refine ev_neg (by decide) (ev_now ?_)
    rw [hd, List.append_nil] at et
    rw [et]
    rfl
  | cons x r =>
    have h1 : idxI 45 vr = ((vr.takeWhile (· != 45)).length : Int) := by rw [idxI, if_neg (by rw [hd]; simp)]
    rw [h1]
    refine ev_pos (by omega) (ev_pos (by omega) (ev_pos (by omega) (ev_now ?_)))
    have hx := ext_tw vr (· != 45)
    rw [hx.1, hN]
    have h2 := hx.2
    rw [ofL_size] at h2
    rw [h2, hd]
theorem specJ0_no (l : List UInt8) (x : Int) (hl : l.length ≤ 1000000) : Ev (fun k => spec_RedHatParse.j0 k (ofL l) x false (⟨#[48]⟩ : ByteArray) (⟨#[]⟩ : ByteArray) (⟨#[]⟩ : ByteArray)) (ofL3 (rhVR [] l)) := by
  refine Ev.step (fun _ => by rw [spec_RedHatParse.j0]) ?_
  refine ev_f ?_
  have h := vr_tail (⟨#[48]⟩ : ByteArray) l (ofL l).size (ofL_size l) hl
  exact h
theorem specParse_ev (l : List UInt8) (hl : l.length ≤ 1000000) : Ev (fun k => spec_RedHatParse.f k (ofL l)) (ofL3 (rhParse l)) := by
  unfold spec_RedHatParse.f
  have hi : Ev (fun k => spec_indexOf.f k (ofL l) 58) (idxI 58 l) := index_ev 58 l (by omega)
  refine Ev.bind hi ?_
  have et := tw_dw 58 l
  have hlen := congrArg List.length et
  rw [List.length_append] at hlen
  cases hd : l.dropWhile (· != 58) with
  | nil =>
    have h1 : idxI 58 l = -1 := by rw [idxI, if_pos hd]
    have hc : cutB 58 l = (l, [], false) := by rw [cutB, hd]
    rw [h1, rhParse, hc]
    exact ev_neg (by decide) (specJ0_no l _ hl)
  | cons x r =>
    have hc : cutB 58 l = (l.takeWhile (· != 58), r, true) := by rw [cutB, hd]
    obtain ⟨t, ht⟩ : ∃ t, t = l.takeWhile (· != 58) := ⟨_, rfl⟩
    rw [hd, ← ht, List.length_cons] at hlen
    rw [hd, ← ht] at et
    have h1 : idxI 58 l = (t.length : Int) := by rw [idxI, if_neg (by rw [hd]; simp), ← ht]
    rw [← ht] at hc
    rw [h1, rhParse, hc]
    have hw : wrap64 ((t.length : Int) + 1) = ((t.length + 1 : Nat) : Int) := wrap_nat (by omega)
    have hxr : (ofL l).extract (((t.length + 1 : Nat) : Int)).toNat (ofL l).size = ofL r := by
      rw [Int.toNat_natCast, ofL_size, ofL_extract, List.take_length]
      congr 1
      rw [← et, ← List.drop_drop, List.drop_left]
      rfl
    have hN : (ofL l).size - (((t.length + 1 : Nat) : Int)).toNat = r.length := by
      rw [Int.toNat_natCast, ofL_size]
      omega
    have s := ofL_size l
    refine ev_pos (by omega) ?_
    by_cases h0 : t.length = 0
    · have htn : t = [] := List.length_eq_zero_iff.1 h0
      subst htn
      refine ev_pos (by simp) ?_
      show Ev _ (ofL3 (rhVR [] r))
      refine Ev.step (fun _ => by rw [spec_RedHatParse.j0, hw, hxr, hN]) ?_
      refine ev_t (ev_neg (by simp) (ev_pos (by omega) (ev_pos (by rw [s]; omega) ?_)))
      exact vr_tail (⟨#[48]⟩ : ByteArray) r r.length rfl (by omega)
    · refine ev_neg (by omega) (ev_pos (by omega) (ev_pos (by rw [s]; omega) ?_))
      have hxt : (ofL l).extract 0 ((t.length : Int)).toNat = ofL t := by
        rw [Int.toNat_natCast, ofL_extract, List.drop_zero]
        congr 1
        rw [← et, List.take_left]
      rw [hxt]
      refine Ev.bind (digits_ev t (by omega)) ?_
      have ha : allD t = t.all dg := by rw [allD, decide_eq_true (by omega), Bool.and_true]
      rw [ha]
      cases hall : t.all dg with
      | false => exact specJ0_no l _ hl
      | true =>
        show Ev _ (ofL3 (rhVR t r))
        have htn : t ≠ [] := fun e => h0 (by rw [e]; rfl)
        refine Ev.step (fun _ => by rw [spec_RedHatParse.j0, hw, hxr, hN, hxt]) ?_
        refine ev_t (ev_pos (by omega) (ev_pos (by omega) (ev_pos (by rw [s]; omega) (ev_pos (by omega) (ev_pos (by rw [s]; omega) ?_)))))
        have := vr_tail (ofL t) r r.length rfl (by omega)
        rw [rhVR, if_neg htn]
        exact this
theorem specCompare_ev (a b : List UInt8) (ha : a.length ≤ 100000) (hb : b.length ≤ 100000) : Ev (fun k => spec_RedHatCompare.f k (ofL a) (ofL b)) (rhV a b, true) := by
  have la := rhParse_len a 1000000 (by omega) (by omega)
  have lb := rhParse_len b 1000000 (by omega) (by omega)
  unfold spec_RedHatCompare.f
  refine Ev.bind (specParse_ev a (by omega)) (Ev.bind (specParse_ev b (by omega)) (Ev.bind (specParts_ev _ _ la.1 lb.1) ?_))
  rw [rhV, comb]
  by_cases h1 : rhC (rhParse a).1 (rhParse b).1 = 0
  · rw [if_pos h1]
    refine ev_pos h1 (Ev.bind (specParts_ev _ _ la.2.1 lb.2.1) ?_)
    rw [comb]
    by_cases h2 : rhC (rhParse a).2.1 (rhParse b).2.1 = 0
    · rw [if_pos h2]
      exact ev_pos h2 (Ev.bind (specParts_ev _ _ la.2.2 lb.2.2) (ev_now rfl))
    · rw [if_neg h2]
      exact ev_neg h2 (ev_now rfl)
  · rw [if_neg h1]
    exact ev_neg h1 (ev_now rfl)
theorem rhC_range (a b : List UInt8) : -1 ≤ rhC a b ∧ rhC a b ≤ 1 := lex_range _ _
theorem rhC_anti (a b : List UInt8) : rhC b a = -rhC a b := lex_anti _ _
theorem rhV_range (a b : List UInt8) : -1 ≤ rhV a b ∧ rhV a b ≤ 1 := by
  have h1 := rhC_range (rhParse a).1 (rhParse b).1
  have h2 := rhC_range (rhParse a).2.1 (rhParse b).2.1
  have h3 := rhC_range (rhParse a).2.2 (rhParse b).2.2
  unfold rhV comb
  split
  · split
    · exact h3
    · exact h2
  · exact h1
theorem rhV_anti (a b : List UInt8) : rhV b a = -rhV a b := by
  unfold rhV comb
  rw [rhC_anti (rhParse a).1, rhC_anti (rhParse a).2.1, rhC_anti (rhParse a).2.2]
  by_cases h1 : rhC (rhParse a).1 (rhParse b).1 = 0
  · rw [if_pos (by omega), if_pos h1]
    by_cases h2 : rhC (rhParse a).2.1 (rhParse b).2.1 = 0
    · rw [if_pos (by omega), if_pos h2]
    · rw [if_neg (by omega), if_neg h2]
  · rw [if_neg (by omega), if_neg h1]
theorem rhV_self (a : List UInt8) : rhV a a = 0 := by
  unfold rhV comb rhC
  rw [lex_self, lex_self, lex_self]
  rfl
theorem rhV_chained (a b c : List UInt8) : Chained (rhV a b) (rhV b c) (rhV a c) :=
  comb_chained (lex_chained _ _ _) (comb_chained (lex_chained _ _ _) (lex_chained _ _ _))
theorem awake_ev : Ev (fun k => laws_redhatAwake.f k) true := by
  unfold laws_redhatAwake.f
  refine Ev.bind (rhCompare_ev [49] [50] (by simp) (by simp)) ?_
  refine ev_t (ev_pos (by decide) ?_)
  have : impl_RedHatParts.f (⟨#[49]⟩ : ByteArray) (⟨#[50]⟩ : ByteArray) = some (rhC [49] [50]) := rh_parts [49] [50] (by simp) (by simp)
  rw [this]
  exact ev_now (by decide)
end Go.Proofs.YtciojhhncfnagaaDoor.Com
