/- What lists of numbers are, and how they compare. -/
import Derived.Test.YtcagdmeiigjkcaaZ2
import Derived.Test.YtcagdmeiigjkcaaZ5
import Derived.Test.YtcagdmeiigjkcaaZ7
import Derived.Test.YtcagdmeiigjkcaaComN
namespace Go.Proofs.Ytcagdmeiigjkcaa.Com
open Go.RowKit Go.Proofs.Ytcagdmeiigjkcaa.Z Go.Proofs.Ytcagdmeiigjkcaa.Evs Go.Proofs.Ytcagdmeiigjkcaa.By Go.Proofs.YtcagdmeiigjkcaaW.PrintWords Go.Proofs.YtcagdmeiigjkcaaW.PrintLast
set_option linter.unusedVariables false
set_option linter.unusedSimpArgs false

theorem rd_at (l : List SI) (i : Nat) (hi : i < l.length) : rd_T28 l (i : Int) = l[i] := by
  unfold rd_T28
  rw [Int.toNat_natCast, List.getD_eq_getElem?_getD, List.getElem?_eq_getElem hi]
  rfl
theorem intOK_ev' (x : SI) (hx : x.f1.size ≤ 140737488351232) : Ev (fun k => spec_IntOK.f k x.f0 x.f1) (okN x.f0 (bl x.f1)) := by
  have := intOK_ev x.f0 (bl x.f1) (by rw [bl_length]; exact hx)
  rwa [ofL_bl] at this
theorem intOrder_ev' (x y : SI) (hx : x.f1.size ≤ 140737488351232) (hy : y.f1.size ≤ 140737488351232) : Ev (fun k => spec_intOrder.f k x.f0 x.f1 y.f0 y.f1) (Bn.cmpZ (zvI x) (zvI y)) := by
  have := intOrder_ev x.f0 y.f0 (bl x.f1) (bl y.f1) (by rw [bl_length]; exact hx) (by rw [bl_length]; exact hy)
  rwa [ofL_bl, ofL_bl] at this
/-- Whatever zzFits2 says of a list, it says it; if yes, no text is too long. -/
theorem fits2_l (l : List SI) (hl : (l.length : Int) ≤ 2147483647) (d : Nat) : ∀ i : Nat, i + d = l.length → ∃ b, Ev (fun k => laws_zzFits2.l0 k l (l.length : Int) (i : Int)) b ∧ (b = true → ∀ x ∈ l.drop i, (x.f1.size : Int) ≤ 2147483647) := by
  induction d with
  | zero =>
    intro i h
    refine ⟨true, Ev.step (fun _ => by rw [laws_zzFits2.l0]) (ev_neg (by omega) (Ev.now _)), fun _ x hx => ?_⟩
    rw [List.drop_of_length_le (by omega)] at hx
    simp at hx
  | succ d ih =>
    intro i h
    have hi : i < l.length := by omega
    have e : l.drop i = l[i] :: l.drop (i + 1) := List.drop_eq_getElem_cons hi
    have hw : wrap64 ((i : Int) + 1) = ((i + 1 : Nat) : Int) := wrap_nat (by omega)
    obtain ⟨b, hb, hs⟩ := ih (i + 1) (by omega)
    by_cases c : ((l[i]).f1.size : Int) > 2147483647
    · have hf : laws_zzFits3.f (l[i]).f0 (l[i]).f1 = some false := by unfold laws_zzFits3.f; rw [if_pos c]
      exact ⟨false, Ev.step (fun _ => by rw [laws_zzFits2.l0, rd_at l i hi, hf, Option.bind_some]) (ev_pos (by omega) (ev_pos (by omega) (ev_pos (by omega) (ev_f (Ev.now _))))), by simp⟩
    · have hf : laws_zzFits3.f (l[i]).f0 (l[i]).f1 = some true := by unfold laws_zzFits3.f; rw [if_neg c]
      refine ⟨b, Ev.step (fun _ => by rw [laws_zzFits2.l0, rd_at l i hi, hf, Option.bind_some, hw]) (ev_pos (by omega) (ev_pos (by omega) (ev_pos (by omega) (ev_t hb)))), fun hb x hx => ?_⟩
      rw [e] at hx
      rcases List.mem_cons.1 hx with rfl | hx
      · omega
      · exact hs hb x hx
theorem fits2_ev (l : List SI) : ∃ b, Ev (fun k => laws_zzFits2.f k l) b ∧ (b = true → l.length ≤ 2147483647 ∧ ∀ x ∈ l, x.f1.size ≤ 2147483647) := by
  unfold laws_zzFits2.f
  by_cases c : (l.length : Int) > 2147483647
  · exact ⟨false, ev_pos c (Ev.now _), by simp⟩
  · obtain ⟨b, hb, hs⟩ := fits2_l l (by omega) l.length 0 (by omega)
    refine ⟨b, ev_neg c hb, fun h => ⟨by omega, fun x hx => ?_⟩⟩
    have := hs h x (by simpa using hx)
    omega
theorem numbers_l (l : List SI) (hl : l.length ≤ 2147483647) (hs : ∀ x ∈ l, x.f1.size ≤ 2147483647) (d : Nat) : ∀ i : Nat, i + d = l.length → ∃ b, Ev (fun k => laws_numbers.l0 k l l (l.length : Int) (i : Int)) b ∧ (b = true → l.length ≤ 150 ∧ ∀ x ∈ l.drop i, x.f1.size ≤ 1500 ∧ okN x.f0 (bl x.f1) = true) := by
  induction d with
  | zero =>
    intro i h
    refine ⟨_, Ev.step (fun _ => by rw [laws_numbers.l0]) (ev_neg (by omega) (Ev.now _)), fun hb => ⟨by have := of_decide_eq_true hb; omega, fun x hx => ?_⟩⟩
    rw [List.drop_of_length_le (by omega)] at hx
    simp at hx
  | succ d ih =>
    intro i h
    have hi : i < l.length := by omega
    have e : l.drop i = l[i] :: l.drop (i + 1) := List.drop_eq_getElem_cons hi
    have hw : wrap64 ((i : Int) + 1) = ((i + 1 : Nat) : Int) := wrap_nat (by omega)
    have hsz := hs _ (List.getElem_mem hi)
    have hok := intOK_ev' l[i] (by omega)
    obtain ⟨b, hb, hq⟩ := ih (i + 1) (by omega)
    cases ho : okN (l[i]).f0 (bl (l[i]).f1) with
    | false =>
      rw [ho] at hok
      refine ⟨false, ?_, by simp⟩
      refine Ev.step (fun _ => by rw [laws_numbers.l0, rd_at l i hi]) ?_
      exact ev_pos (by omega) (ev_pos (by omega) (ev_pos (by omega) (Ev.bind hok (ev_f (Ev.now _)))))
    | true =>
      rw [ho] at hok
      by_cases c : ((l[i]).f1.size : Int) > 1500
      · refine ⟨false, ?_, by simp⟩
        refine Ev.step (fun _ => by rw [laws_numbers.l0, rd_at l i hi]) ?_
        exact ev_pos (by omega) (ev_pos (by omega) (ev_pos (by omega) (Ev.bind hok (ev_t (ev_pos c (Ev.now _))))))
      · have hev : Ev (fun k => laws_numbers.l0 k l l (l.length : Int) (i : Int)) b := by
          refine Ev.step (fun _ => by rw [laws_numbers.l0, rd_at l i hi, hw]) ?_
          exact ev_pos (by omega) (ev_pos (by omega) (ev_pos (by omega) (Ev.bind hok (ev_t (ev_neg c hb)))))
        refine ⟨b, hev, fun h => ⟨(hq h).1, fun x hx => ?_⟩⟩
        rw [e] at hx
        rcases List.mem_cons.1 hx with rfl | hx
        · exact ⟨by omega, ho⟩
        · exact (hq h).2 x hx
theorem numbers_ev (l : List SI) (hl : l.length ≤ 2147483647) (hs : ∀ x ∈ l, x.f1.size ≤ 2147483647) : ∃ b, Ev (fun k => laws_numbers.f k l) b ∧ (b = true → l.length ≤ 150 ∧ ∀ x ∈ l, x.f1.size ≤ 1500 ∧ okN x.f0 (bl x.f1) = true) := by
  obtain ⟨b, hb, h⟩ := numbers_l l hl hs l.length 0 (by omega)
  exact ⟨b, hb, fun hh => ⟨(h hh).1, fun x hx => (h hh).2 x (by simpa using hx)⟩⟩
/-- A list whose numbers are written as they must be, none long. -/
def GoodL (l : List SI) : Prop := l.length ≤ 1000 ∧ ∀ x ∈ l, x.f1.size ≤ 1500
theorem nth_at (l : List SI) (i : Nat) (h : i < l.length) : nth (l.map zvI) i = zvI l[i] := by
  rw [nth, List.getD_eq_getElem?_getD, List.getElem?_map, List.getElem?_eq_getElem h]
  rfl
theorem nth_out (l : List Int) (i : Nat) (h : l.length ≤ i) : nth l i = 0 := by
  rw [nth, List.getD_eq_getElem?_getD, List.getElem?_eq_none h]
  rfl
def z0 : SI := ⟨false, ⟨#[]⟩⟩
theorem zvI_zero : zvI z0 = 0 := rfl
theorem cmp_l (a b : List SI) (ha : GoodL a) (hb : GoodL b) (d : Nat) : ∀ i : Nat, i + d = max a.length b.length → Ev (fun k => spec_CompareNumbers.l0 k a b (i : Int)) (cmpFrom (a.map zvI) (b.map zvI) d i) := by
  induction d with
  | zero =>
    intro i h
    have h1 : a.length ≤ i := by have := Nat.le_max_left a.length b.length; omega
    have h2 : b.length ≤ i := by have := Nat.le_max_right a.length b.length; omega
    refine Ev.step (fun _ => by rw [spec_CompareNumbers.l0]) (ev_neg (by omega) ?_)
    rw [decide_eq_false (by omega)]
    refine Ev.step (fun _ => by rw [spec_CompareNumbers.j1]) ?_
    exact ev_f (ev_now rfl)
  | succ d ih =>
    intro i h
    have hw : wrap64 ((i : Int) + 1) = ((i + 1 : Nat) : Int) := wrap_nat (by have := ha.1; have := hb.1; omega)
    have next := ih (i + 1) (by omega)
    have key : ∀ x y : SI, x.f1.size ≤ 1500 → y.f1.size ≤ 1500 → nth (a.map zvI) i = zvI x → nth (b.map zvI) i = zvI y →
        Ev (fun k => (spec_intOrder.f k x.f0 x.f1 y.f0 y.f1).bind fun t => if t = 0 then spec_CompareNumbers.l0 k a b (wrap64 ((i : Int) + 1)) else some t) (cmpFrom (a.map zvI) (b.map zvI) (d + 1) i) := by
      intro x y hx hy e1 e2
      refine Ev.bind (intOrder_ev' x y (by omega) (by omega)) ?_
      rw [cmpFrom, e1, e2, hw]
      by_cases hz : Bn.cmpZ (zvI x) (zvI y) = 0
      · rw [if_pos hz]
        exact ev_pos hz next
      · rw [if_neg hz]
        exact ev_neg hz (ev_now rfl)
    have j2 : ∀ x : SI, x.f1.size ≤ 1500 → nth (a.map zvI) i = zvI x → Ev (fun k => spec_CompareNumbers.j2 k a b (i : Int) x.f0 x.f1 false ⟨#[]⟩) (cmpFrom (a.map zvI) (b.map zvI) (d + 1) i) := by
      intro x hx e1
      refine Ev.step (fun _ => by rw [spec_CompareNumbers.j2]) ?_
      by_cases h2 : i < b.length
      · refine ev_pos (by omega) (ev_pos (by omega) ?_)
        rw [rd_at b i h2]
        exact key x b[i] hx (hb.2 _ (List.getElem_mem h2)) e1 (nth_at b i h2)
      · refine ev_neg (by omega) ?_
        exact key x z0 hx (by decide) e1 (by rw [nth_out _ _ (by simp; omega)]; rfl)
    have j1 : Ev (fun k => spec_CompareNumbers.j1 k a b (i : Int) true) (cmpFrom (a.map zvI) (b.map zvI) (d + 1) i) := by
      refine Ev.step (fun _ => by rw [spec_CompareNumbers.j1]) (ev_t ?_)
      by_cases h1 : i < a.length
      · refine ev_pos (by omega) (ev_pos (by omega) ?_)
        rw [rd_at a i h1]
        exact j2 a[i] (ha.2 _ (List.getElem_mem h1)) (nth_at a i h1)
      · refine ev_neg (by omega) ?_
        exact j2 z0 (by decide) (by rw [nth_out _ _ (by simp; omega)]; rfl)
    refine Ev.step (fun _ => by rw [spec_CompareNumbers.l0]) ?_
    by_cases h1 : i < a.length
    · exact ev_pos (by omega) j1
    · refine ev_neg (by omega) ?_
      have h2 : i < b.length := by omega
      rw [decide_eq_true (by omega)]
      exact j1
theorem cmp_ev (a b : List SI) (ha : GoodL a) (hb : GoodL b) : Ev (fun k => spec_CompareNumbers.f k a b) (cmpLists (a.map zvI) (b.map zvI)) := by
  have := cmp_l a b ha hb (max a.length b.length) 0 (by omega)
  rw [cmpLists, List.length_map, List.length_map]
  exact this
theorem fitI_good {l : List SI} (h : GoodL l) : fitI l = true := by
  unfold fitI
  rw [Bool.and_eq_true, decide_eq_true_eq, List.all_eq_true]
  exact ⟨by have := h.1; omega, fun x hx => decide_eq_true (by have := h.2 x hx; omega)⟩
theorem implCmp_f (a b : List SI) (ha : GoodL a) (hb : GoodL b) : impl_CompareNumbers.f a b = some (cmpLists (a.map zvI) (b.map zvI)) := by
  unfold impl_CompareNumbers.f
  rw [fitI_good ha, fitI_good hb]
  rfl
theorem cmpZ_turn (x y : Int) : Bn.cmpZ y x = -Bn.cmpZ x y := by
  unfold Bn.cmpZ
  repeat' split
  all_goals omega
theorem cmpZ_range (x y : Int) : -1 ≤ Bn.cmpZ x y ∧ Bn.cmpZ x y ≤ 1 := by
  unfold Bn.cmpZ
  repeat' split
  all_goals omega
theorem cmpFrom_turn (a b : List Int) : ∀ d i, cmpFrom b a d i = -cmpFrom a b d i
  | 0, _ => rfl
  | d + 1, i => by
    rw [cmpFrom, cmpFrom, cmpZ_turn (nth a i) (nth b i)]
    by_cases h : Bn.cmpZ (nth a i) (nth b i) = 0
    · rw [if_pos h, if_pos (by omega), cmpFrom_turn a b d (i + 1)]
    · rw [if_neg h, if_neg (by omega)]
theorem cmpLists_turn (a b : List Int) : cmpLists b a = -cmpLists a b := by
  rw [cmpLists, cmpLists, Nat.max_comm, cmpFrom_turn]
theorem cmpFrom_range (a b : List Int) : ∀ d i, -1 ≤ cmpFrom a b d i ∧ cmpFrom a b d i ≤ 1
  | 0, _ => by rw [cmpFrom]; omega
  | d + 1, i => by
    rw [cmpFrom]
    split
    · exact cmpFrom_range a b d (i + 1)
    · exact cmpZ_range _ _
theorem cmpLists_range (a b : List Int) : -1 ≤ cmpLists a b ∧ cmpLists a b ≤ 1 := cmpFrom_range _ _ _ _
theorem turned_f (a b : List Int) : laws_turned.f (cmpLists a b) (cmpLists b a) = some true := by
  have hr := cmpLists_range a b
  have hw : wrap64 (-cmpLists b a) = cmpLists a b := by
    rw [cmpLists_turn a b, wrap_in (by omega) (by omega)]
    omega
  unfold laws_turned.f
  rw [hw, if_pos rfl, if_pos (by omega), decide_eq_true (by omega)]
/-- How far the comparison looks behind both lists' ends changes nothing. -/
theorem cmpFrom_zeros (a b : List Int) : ∀ d i, (∀ j, i ≤ j → nth a j = nth b j) → cmpFrom a b d i = 0
  | 0, _, _ => rfl
  | d + 1, i, h => by
    have e := h i (Nat.le_refl i)
    rw [cmpFrom, e]
    have hz : Bn.cmpZ (nth b i) (nth b i) = 0 := by unfold Bn.cmpZ; rw [if_neg (by omega), if_neg (by omega)]
    rw [if_pos hz]
    exact cmpFrom_zeros a b d (i + 1) (fun j hj => h j (by omega))
theorem cmpFrom_more (a b : List Int) (e : Nat) : ∀ d i, (∀ j, i + d ≤ j → nth a j = nth b j) → cmpFrom a b (d + e) i = cmpFrom a b d i
  | 0, i, h => by
    rw [Nat.zero_add, cmpFrom_zeros a b e i (fun j hj => h j (by omega))]
    rfl
  | d + 1, i, h => by
    rw [show d + 1 + e = (d + e) + 1 by omega, cmpFrom, cmpFrom, cmpFrom_more a b e d (i + 1) (fun j hj => h j (by omega))]
theorem cmpFrom_same (a b a' b' : List Int) (ha : ∀ j, nth a j = nth a' j) (hb : ∀ j, nth b j = nth b' j) : ∀ d i, cmpFrom a b d i = cmpFrom a' b' d i
  | 0, _ => rfl
  | d + 1, i => by rw [cmpFrom, cmpFrom, ha, hb, cmpFrom_same a b a' b' ha hb d (i + 1)]
theorem cmpLists_more (a b : List Int) (n : Nat) (h : max a.length b.length ≤ n) : cmpFrom a b n 0 = cmpLists a b := by
  have h1 := Nat.le_max_left a.length b.length
  have h2 := Nat.le_max_right a.length b.length
  obtain ⟨e, rfl⟩ : ∃ e, n = max a.length b.length + e := ⟨n - max a.length b.length, by omega⟩
  exact cmpFrom_more a b e _ 0 (fun j hj => by rw [nth_out a j (by omega), nth_out b j (by omega)])
theorem cmpLists_same (a b a' b' : List Int) (ha : ∀ j, nth a j = nth a' j) (hb : ∀ j, nth b j = nth b' j) : cmpLists a b = cmpLists a' b' := by
  rw [← cmpLists_more a b (max a.length b.length + max a'.length b'.length) (by omega), ← cmpLists_more a' b' (max a.length b.length + max a'.length b'.length) (by omega)]
  exact cmpFrom_same a b a' b' ha hb _ _
theorem cmpLists_self (a : List Int) : cmpLists a a = 0 := cmpFrom_zeros a a _ 0 (fun _ _ => rfl)
end Go.Proofs.Ytcagdmeiigjkcaa.Com
