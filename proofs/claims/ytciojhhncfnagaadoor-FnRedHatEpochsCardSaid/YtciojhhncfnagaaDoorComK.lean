/- A text cut at its first byte of a sort: zzIndex, zzCut with one byte. -/
import Derived.Test.YtciojhhncfnagaaDoorZ2
import Derived.Test.YtciojhhncfnagaaDoorBy
namespace Go.Proofs.YtciojhhncfnagaaDoor.Com
open Go.RowKit Go.Proofs.YtciojhhncfnagaaDoor.Z Go.Proofs.YtciojhhncfnagaaDoor.Evs Go.Proofs.YtciojhhncfnagaaDoor.By Go.Proofs.YtciojhhncfnagaaDoorW.PrintWords Go.Proofs.YtciojhhncfnagaaDoorW.PrintLast
set_option linter.unusedVariables false
set_option linter.unusedSimpArgs false

def idxK (c : UInt8) (l : List UInt8) : Int := if (l.dropWhile (· != c)) = [] then -1 else ((l.takeWhile (· != c)).length : Int)
theorem idxK_split (c : UInt8) (l : List UInt8) : ∀ i : Nat, (∀ x ∈ l.take i, (x != c) = true) → l.takeWhile (· != c) = l.take i ++ (l.drop i).takeWhile (· != c) ∧ l.dropWhile (· != c) = (l.drop i).dropWhile (· != c) := by
  intro i h
  have e := List.take_append_drop i l
  constructor
  · conv => lhs; rw [← e]
    exact List.takeWhile_append_of_pos h
  · conv => lhs; rw [← e]
    exact List.dropWhile_append_of_pos h
theorem ext_one (l : List UInt8) (i : Nat) (h : i < l.length) : (ofL l).extract ((i : Int)).toNat (((i + 1 : Nat) : Int)).toNat = ofL [l[i]] := by
  rw [Int.toNat_natCast, Int.toNat_natCast, ofL_extract]
  congr 1
  rw [List.take_succ_eq_append_getElem h, List.drop_append_of_le_length (by rw [List.length_take]; omega), List.drop_of_length_le (by rw [List.length_take]; omega)]
  rfl
theorem zzIndex_l (c : UInt8) (l : List UInt8) (hl : l.length ≤ 140737488351232) (d : Nat) : ∀ i : Nat, i + d = l.length → (∀ x ∈ l.take i, (x != c) = true) → Ev (fun k => semantic_zzIndex.l0 k (ofL l) (ofL [c]) (i : Int)) (idxK c l) := by
  have hs := ofL_size l
  have hs1 : (ofL [c]).size = 1 := rfl
  induction d with
  | zero =>
    intro i h hp
    have hw : wrap64 ((i : Int) + 1) = ((i + 1 : Nat) : Int) := wrap_nat (by omega)
    refine Ev.step (fun _ => by rw [semantic_zzIndex.l0, hs1]) (ev_neg (by show ¬ wrap64 ((i : Int) + 1) ≤ _; rw [hw]; omega) (ev_now ?_))
    have := (idxK_split c l i hp).2
    rw [List.drop_of_length_le (by omega)] at this
    rw [idxK, if_pos (show List.dropWhile (fun x => x != c) l = [] from this)]
  | succ d ih =>
    intro i h hp
    have hi : i < l.length := by omega
    have hw : wrap64 ((i : Int) + 1) = ((i + 1 : Nat) : Int) := wrap_nat (by omega)
    have hw2 : wrap64 ((i : Int) + ((1 : Nat) : Int)) = ((i + 1 : Nat) : Int) := hw
    refine Ev.step (fun _ => by rw [semantic_zzIndex.l0, hs1, hw2, hw, ext_one l i hi, toList_ofL, toList_ofL]) (ev_pos (by omega) (ev_pos (by omega) (ev_pos (by omega) ?_)))
    by_cases e : l[i]'hi = c
    · refine ev_pos (congrArg (fun x => [x]) e) (ev_now ?_)
      have h1 := idxK_split c l i hp
      rw [List.drop_eq_getElem_cons hi, List.dropWhile_cons, List.takeWhile_cons, if_neg (by simp [e]), if_neg (by simp [e])] at h1
      have h2 : ¬ List.dropWhile (fun x => x != c) l = [] := fun hh => by
        have := h1.2.symm.trans hh
        cases this
      rw [idxK, if_neg h2, h1.1, List.append_nil, List.length_take]
      omega
    · refine ev_neg (fun h => e (by simpa using h)) (ih (i + 1) (by omega) (fun x hx => ?_))
      rw [List.take_succ_eq_append_getElem hi, List.mem_append] at hx
      rcases hx with hx | hx
      · exact hp x hx
      · simp at hx
        subst hx
        simpa using e
theorem zzIndex_ev (c : UInt8) (l : List UInt8) (hl : l.length ≤ 140737488351232) : Ev (fun k => semantic_zzIndex.f k (ofL l) (ofL [c])) (idxK c l) := zzIndex_l c l hl l.length 0 (by omega) (by simp)
/-- What stands ahead of the first byte of a sort, what behind, and whether there is one. -/
def cutB (c : UInt8) (l : List UInt8) : List UInt8 × List UInt8 × Bool := match l.dropWhile (· != c) with
  | [] => (l, [], false)
  | _ :: r => (l.takeWhile (· != c), r, true)
theorem tw_dw (c : UInt8) (l : List UInt8) : l.takeWhile (· != c) ++ l.dropWhile (· != c) = l := List.takeWhile_append_dropWhile
theorem zzCut_ev (c : UInt8) (l : List UInt8) (hl : l.length ≤ 140737488351232) : Ev (fun k => semantic_zzCut.f k (ofL l) (ofL [c])) (ofL (cutB c l).1, ofL (cutB c l).2.1, (cutB c l).2.2) := by
  have hs := ofL_size l
  have hs1 : (ofL [c]).size = 1 := rfl
  unfold semantic_zzCut.f
  refine Ev.bind (zzIndex_ev c l hl) ?_
  have e := tw_dw c l
  cases hd : l.dropWhile (· != c) with
  | nil =>
    have h1 : idxK c l = -1 := by rw [idxK, if_pos hd]
    rw [h1]
    refine ev_neg (by decide) (ev_now ?_)
    rw [cutB, hd]
    rfl
  | cons x r =>
    have h1 : idxK c l = ((l.takeWhile (· != c)).length : Int) := by rw [idxK, if_neg (by rw [hd]; simp)]
    rw [hd] at e
    have hlen : (l.takeWhile (· != c)).length + 1 + r.length = l.length := by
      have := congrArg List.length e
      rw [List.length_append, List.length_cons] at this
      omega
    obtain ⟨n, hn⟩ : ∃ n, n = (l.takeWhile (· != c)).length := ⟨_, rfl⟩
    rw [h1, ← hn]
    rw [← hn] at hlen
    have hw : wrap64 ((n : Int) + ((1 : Nat) : Int)) = ((n + 1 : Nat) : Int) := wrap_nat (by omega)
    simp only [hs1, hw]
    refine ev_pos (by omega) (ev_pos (by omega) (ev_pos (by omega) (ev_pos (by omega) (ev_pos (by omega) (ev_now ?_)))))
    rw [cutB, hd, Int.toNat_natCast, Int.toNat_natCast, ofL_extract, hs, ofL_extract, List.take_length, List.drop_zero]
    have t1 : l.take n = l.takeWhile (· != c) := by
      conv => lhs; rw [← e]
      rw [hn, List.take_left]
    have t2 : l.drop (n + 1) = r := by
      conv => lhs; rw [← e]
      rw [← List.drop_drop, hn, List.drop_left]
      rfl
    rw [t1, t2]
end Go.Proofs.YtciojhhncfnagaaDoor.Com
