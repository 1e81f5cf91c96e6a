/- FnSemverMeaning. No condition beyond the row's own. -/
import Derived.Test.YtgnkjjgbdlkidaaGreatDoorZ1
import Derived.Test.YtgnkjjgbdlkidaaGreatDoorEv
import Derived.Test.YtgnkjjgbdlkidaaGreatDoorZ10
import Derived.Test.YtgnkjjgbdlkidaaGreatDoorBv
import Derived.Test.YtgnkjjgbdlkidaaGreatDoorRows
import Derived.Test.YtgnkjjgbdlkidaaGreatDoorOp
import Derived.Test.YtgnkjjgbdlkidaaGreatDoorCards
import Derived.Test.YtgnkjjgbdlkidaaGreatDoorTie
import Derived.Test.YtgnkjjgbdlkidaaGreatDoorGl
import Derived.Deep.DeepHandedRow
import Derived.Deep.DeepWitnessRowRef
import Derived.Lay
import Derived.WalkKit
import Derived.ProofKit
import Derived.OpenShut
import Derived.ShutString
import Derived.ChangeOld
import Derived.Below
import Derived.SizedLaws
namespace Go.Proofs.YtgnkjjgbdlkidaaGreatDoor.Com
open Go.RowKit Go.Proofs.YtgnkjjgbdlkidaaGreatDoor.Z Go.Proofs.YtgnkjjgbdlkidaaGreatDoor.Evs Go.Proofs.YtgnkjjgbdlkidaaGreatDoorW.PrintWords Go.Proofs.YtgnkjjgbdlkidaaGreatDoorW.PrintLast
set_option linter.unusedVariables false
set_option linter.unusedSimpArgs false

/-- short: an answer; where it is true the list is short and its texts are. -/
theorem short_l (l : List ByteArray) (hl : (l.length : Int) < 9223372036854775807) (d : Nat) : ∀ i : Nat, i + d = l.length →
  ∃ b, Ev (fun k => laws_short.l0 k l l (l.length : Int) (i : Int)) b ∧ (b = true → l.length ≤ 150 ∧ ∀ j, i ≤ j → j < l.length → (l.getD j ByteArray.empty).size ≤ 1500) := by
 induction d with
 | zero =>
  intro i h
  exact ⟨_, Ev.step (fun _ => by rw [laws_short.l0]) (ev_neg (by omega) (Ev.now _)), fun hb => ⟨by simp at hb; omega, fun j h1 h2 => by omega⟩⟩
 | succ d ih =>
  intro i h
  obtain ⟨b, hb, hq⟩ := ih (i + 1) (by omega)
  by_cases c : ((rdOf ByteArray.empty l (i : Int)).size : Int) > 1500
  ·exact ⟨false, Ev.step (fun _ => by rw [laws_short.l0]) (ev_pos (by omega) (ev_pos (by omega) (ev_pos (by omega) (ev_pos c (Ev.now _))))), fun h => by cases h⟩
  ·refine ⟨b, Ev.step (fun _ => by rw [laws_short.l0, wrap_nat (by omega)]) (ev_pos (by omega) (ev_pos (by omega) (ev_pos (by omega) (ev_neg c hb)))), fun h => ⟨(hq h).1, fun j h1 h2 => ?_⟩⟩
   by_cases e : j = i
   ·subst e; rw [rdOf_nat] at c; omega
   ·exact (hq h).2 j (by omega) h2
theorem short_ev (l : List ByteArray) (hl : (l.length : Int) < 9223372036854775807) : ∃ b, Ev (fun k => laws_short.f k l) b ∧ (b = true → l.length ≤ 150 ∧ ∀ j, j < l.length → (l.getD j ByteArray.empty).size ≤ 1500) := by
 obtain ⟨b, hb, hq⟩ := short_l l hl l.length 0 (by omega)
 exact ⟨b, hb, fun h => ⟨(hq h).1, fun j hj => (hq h).2 j (by omega) hj⟩⟩

theorem short3 (a b c : ByteArray) : ∃ r, Ev (fun k => laws_short.f k [a, b, c]) r ∧ (r = true → a.size ≤ 1500 ∧ b.size ≤ 1500 ∧ c.size ≤ 1500) := by
 obtain ⟨r, hr, hq⟩ := short_ev [a, b, c] (by simp)
 exact ⟨r, hr, fun h => ⟨(hq h).2 0 (by simp), (hq h).2 1 (by simp), (hq h).2 2 (by simp)⟩⟩
end Go.Proofs.YtgnkjjgbdlkidaaGreatDoor.Com

namespace Go.Proofs.YtgnkjjgbdlkidaaGreatDoor.Pure
open Go Go.RowKit Go.Proofs.YtgnkjjgbdlkidaaGreatDoor.Z Go.Proofs.YtgnkjjgbdlkidaaGreatDoor.Evs Go.Proofs.YtgnkjjgbdlkidaaGreatDoor.By Go.Proofs.YtgnkjjgbdlkidaaGreatDoor.Com Go.Proofs.YtgnkjjgbdlkidaaGreatDoorW.PrintWords Go.Proofs.YtgnkjjgbdlkidaaGreatDoorW.PrintLast
set_option linter.unusedVariables false
set_option linter.unusedSimpArgs false
def ptB (c : UInt8) : Bool := c == 46
/-- What stands ahead of the first plus sign. -/
def mt (l : List UInt8) : List UInt8 := l.takeWhile (· != 43)
/-- Without one hyphen ahead. -/
def unh : List UInt8 → List UInt8
 | c :: r => if c = 45 then r else c :: r
 | [] => []
theorem unh_cons (c : UInt8) (r : List UInt8) : unh (c :: r) = if c = 45 then r else c :: r := rfl
def bdy (l : List UInt8) : List UInt8 := unh (mt l)
def idsP (l : List UInt8) : List (List UInt8) := cutP ptB (bdy l)
theorem mt_len (l : List UInt8) : (mt l).length ≤ l.length := (List.takeWhile_sublist _).length_le
theorem unh_len (l : List UInt8) : (unh l).length ≤ l.length := by
 cases l with
 | nil => exact Nat.le_refl _
 | cons c r =>
  rw [unh_cons]
  split
  ·simp
  ·exact Nat.le_refl _
theorem bdy_len (l : List UInt8) : (bdy l).length ≤ l.length := Nat.le_trans (unh_len _) (mt_len _)
theorem cutP_sz (p : UInt8 → Bool) (l : List UInt8) : (cutP p l).length ≤ l.length + 1 ∧ ∀ x ∈ cutP p l, x.length ≤ l.length := by
 induction l with
 | nil => simp [cutP]
 | cons c l ih =>
  unfold cutP
  by_cases hc : p c = true
  ·rw [if_pos hc]
   refine ⟨by simp only [List.length_cons]; omega, fun x hx => ?_⟩
   rcases List.mem_cons.1 hx with rfl | hx
   ·simp
   ·have := ih.2 x hx
    simp only [List.length_cons]
    omega
  ·rw [if_neg hc]
   cases e : cutP p l with
   | nil => exact absurd e (cutP_ne p l)
   | cons y ys =>
    rw [e] at ih
    simp only [List.length_cons] at ih ⊢
    refine ⟨by omega, fun x hx => ?_⟩
    rcases List.mem_cons.1 hx with rfl | hx
    ·have := ih.2 y (by simp)
     simp only [List.length_cons]
     omega
    ·have := ih.2 x (by simp [hx])
     omega
theorem ids_sz (l : List UInt8) : (idsP l).length ≤ l.length + 1 ∧ ∀ x ∈ idsP l, x.length ≤ l.length := by
 have h := cutP_sz ptB (bdy l)
 have hb := bdy_len l
 exact ⟨Nat.le_trans h.1 (by omega), fun x hx => Nat.le_trans (h.2 x hx) hb⟩
theorem cut_head (p : UInt8 → Bool) (l : List UInt8) : ∃ t, cutP p l = l.takeWhile (fun c => !p c) :: t := by
 induction l with
 | nil => exact ⟨[], rfl⟩
 | cons c l ih =>
  unfold cutP
  by_cases hc : p c = true
  ·rw [if_pos hc, List.takeWhile_cons, if_neg (by simp [hc])]
   exact ⟨_, rfl⟩
  ·obtain ⟨t, e⟩ := ih
   rw [if_neg hc, e, List.takeWhile_cons, if_pos (by simp [hc])]
   exact ⟨t, rfl⟩
theorem ext1 (c : UInt8) (r : List UInt8) : (ofL (c :: r)).extract 1 (ofL (c :: r)).size = ofL r := by
 rw [ofL_extract, ofL_size, List.take_of_length_le (Nat.le_refl _)]
 rfl
theorem remB_f (l : List UInt8) (hl : l.length ≤ 1000000) : semantic_removeBuildMetadata.f (ofL l) = some (ofL (mt l)) := by
 obtain ⟨t, e⟩ := cut_head (· == 43) l
 have hz : semantic_zzSplit.f (ofL l) (⟨#[43]⟩ : ByteArray) = some ((cutP (· == 43) l).map ofL) := by
  unfold semantic_zzSplit.f
  rw [if_pos ⟨by rw [ofL_size]; exact hl, rfl⟩, bl_ofL]
  rfl
 unfold semantic_removeBuildMetadata.f
 rw [hz, Option.bind_some, e, if_pos (by simp)]
 rfl
theorem trim_f (m : List UInt8) : strings_TrimPrefix.f (ofL m) (⟨#[45]⟩ : ByteArray) = some (ofL (unh m)) := by
 have hs := ofL_size m
 have h1 : (⟨#[45]⟩ : ByteArray).size = 1 := rfl
 have h45 : (⟨#[45]⟩ : ByteArray).toList = [45] := toList_ofL [45]
 unfold strings_TrimPrefix.f stringslite_TrimPrefix.f stringslite_HasPrefix.f
 rw [h1]
 cases m with
 | nil =>
  rw [if_neg (by rw [hs]; simp)]
  rfl
 | cons c r =>
  have h2 : ((1 : Nat) : Int) ≤ ((ofL (c :: r)).size : Int) := by rw [hs]; simp; omega
  have e : (ofL (c :: r)).extract 0 1 = ofL [c] := by
   rw [ofL_extract]
   rfl
  rw [if_pos (by omega), if_pos (by omega), if_pos h2, e, toList_ofL, h45, Option.bind_some]
  by_cases h : c = 45
  ·subst h
   rw [if_pos (by rfl), if_pos (by omega), if_pos h2, ext1, Option.bind_some]
   rw [unh_cons, if_pos rfl]
  ·rw [if_neg (by
    intro hh
    have := eq_of_beq hh
    exact h (by simpa using congrArg (fun x : List UInt8 => x.head?) (show [c] = [45] from this))), Option.bind_some]
   rw [unh_cons, if_neg h]
/-- How what stands behind the numbers compares. -/
def bldC (x y : List UInt8) : Int := if bdy x = [] then (if bdy y = [] then 0 else 1) else if bdy y = [] then -1 else idsC ((idsP x).map ofL) ((idsP y).map ofL)
theorem cmpB_self : ∀ a : List UInt8, Lib.compareBytes a a = 0
 | [] => rfl
 | c :: r => by
  rw [Lib.compareBytes]
  simp [cmpB_self r]
theorem idC_self (x : ByteArray) : idC x x = 0 := by
 unfold idC
 cases Ss.cvt x with
 | none => exact cmpB_self _
 | some z => show Bn.cmpZ z z = 0; unfold Bn.cmpZ; rw [if_neg (by omega), if_neg (by omega)]
theorem idsC_self : ∀ l : List ByteArray, idsC l l = 0
 | [] => rfl
 | x :: l => by rw [idsC, if_pos (idC_self x)]; exact idsC_self l
theorem all_fit (l : List UInt8) (hl : l.length ≤ 1000000) : allFit ((idsP l).map ofL) = true := List.all_eq_true.2 fun x hx => by
 obtain ⟨y, hy, rfl⟩ := List.mem_map.1 hx
 have := (ids_sz l).2 y hy
 exact decide_eq_true (by rw [ofL_size]; omega)
theorem split_f (l : List UInt8) (hl : l.length ≤ 1000000) : semantic_zzSplit.f (ofL (bdy l)) (⟨#[46]⟩ : ByteArray) = some ((idsP l).map ofL) := by
 have := bdy_len l
 unfold semantic_zzSplit.f
 rw [if_pos ⟨by rw [ofL_size]; omega, rfl⟩, bl_ofL]
 rfl
theorem compareBuild_ev (x y : List UInt8) (hx : x.length ≤ 1000000) (hy : y.length ≤ 1000000) : Ev (fun k => semantic_compareBuildComponents.f k (ofL x) (ofL y)) (bldC x y) := by
 unfold semantic_compareBuildComponents.f
 rw [remB_f x hx, remB_f y hy]
 refine ev_some (ev_some ?_)
 rw [trim_f, trim_f]
 refine ev_some (ev_some ?_)
 rw [toList_ofL, toList_ofL]
 have last : Ev (fun k => semantic_compareBuildComponents.j1 k (ofL (unh (mt x))) (ofL (unh (mt y))) false) (idsC ((idsP x).map ofL) ((idsP y).map ofL)) := by
  refine Ev.step (fun _ => by rw [semantic_compareBuildComponents.j1, show unh (mt x) = bdy x from rfl, show unh (mt y) = bdy y from rfl, split_f x hx, split_f y hy, Option.bind_some, Option.bind_some]) (ev_f ?_)
  unfold semantic_compareSemverBuildComponents.f
  rw [all_fit x hx, all_fit y hy]
  exact ev_now rfl
 unfold bldC
 by_cases h1 : bdy x = []
 ·rw [if_pos h1]
  refine ev_pos h1 ?_
  by_cases h2 : bdy y = []
  ·rw [if_pos h2]
   have e : (!(unh (mt y)).isEmpty) = false := by rw [show unh (mt y) = [] from h2]; rfl
   rw [e]
   refine Ev.step (fun _ => by rw [semantic_compareBuildComponents.j0, toList_ofL]) (ev_f (ev_pos (show unh (mt x) = [] from h1) ?_))
   refine ev_eq last ?_
   have e2 : idsP x = idsP y := by unfold idsP; rw [h1, h2]
   rw [e2, idsC_self]
  ·rw [if_neg h2]
   have e : (!(unh (mt y)).isEmpty) = true := by
    cases hq : unh (mt y) with
    | nil => exact absurd hq h2
    | cons c r => rfl
   rw [e]
   exact Ev.step (fun _ => by rw [semantic_compareBuildComponents.j0]) (ev_t (ev_now rfl))
 ·rw [if_neg h1]
  refine ev_neg h1 ?_
  refine Ev.step (fun _ => by rw [semantic_compareBuildComponents.j0, toList_ofL, toList_ofL]) (ev_f (ev_neg (show ¬ unh (mt x) = [] from h1) ?_))
  by_cases h2 : bdy y = []
  ·rw [if_pos h2]
   have e : (unh (mt y)).isEmpty = true := by rw [show unh (mt y) = [] from h2]; rfl
   rw [e]
   exact Ev.step (fun _ => by rw [semantic_compareBuildComponents.j1]) (ev_t (ev_now rfl))
  ·rw [if_neg h2]
   have e : (unh (mt y)).isEmpty = false := by
    cases hq : unh (mt y) with
    | nil => exact absurd hq h2
    | cons c r => rfl
   rw [e]
   exact last
/-! numbers with points between; identifiers with points between -/
def nmB (most : Nat) : Bool → Nat → List UInt8 → Bool
 | o, n, [] => !o && decide (n ≤ most)
 | o, n, c :: r => if dg c = true then nmB most false n r else if c = 46 ∧ o = false then nmB most true (n + 1) r else false
def dtB : Bool → List UInt8 → Bool
 | o, [] => !o
 | o, c :: r => if (dg c || lt c) = true then dtB false r else if c = 46 ∧ o = false then dtB true r else false
def Rst (l : List UInt8) : Prop := l = [] ∨ ∃ c r, l = c :: r ∧ dg c = false ∧ c ≠ 46
theorem num_go (most : Nat) : ∀ (l : List UInt8) (o : Bool) (n : Nat) (cur : List UInt8), nmB most o n l = true → (o = true ↔ cur = []) →
  ∃ vals : List Int, vals.length + n ≤ most + 1 ∧ (∀ rest, Rst rest → lkGo cur (l ++ rest) = (vals, rest)) ∧ lkGo cur (l ++ [46, 48]) = (vals ++ [0], [])
 | [], o, n, cur, h, ho => by
  rw [nmB, Bool.and_eq_true] at h
  have hc : cur ≠ [] := fun e => by have := ho.2 e; rw [this] at h; simp at h
  have hn := of_decide_eq_true h.2
  refine ⟨[Bv.decV cur], by simp; omega, fun rest hr => ?_, ?_⟩
  ·rcases hr with rfl | ⟨c, r, rfl, h1, h2⟩
   ·show lkGo cur [] = _
    rw [lkGo, if_neg hc]
   ·show lkGo cur (c :: r) = _
    rw [lkGo, if_neg (by rw [h1]; decide), if_neg h2, if_neg hc]
  ·show lkGo cur [46, 48] = _
   have e1 : lkGo [] [48] = ([0], []) := by
    rw [lkGo, if_pos (by decide), List.nil_append, lkGo, if_neg (by decide)]
    rfl
   rw [lkGo, if_neg (by decide), if_pos rfl, if_neg hc, e1]
 | c :: r, o, n, cur, h, ho => by
  rw [nmB] at h
  by_cases hd : dg c = true
  ·rw [if_pos hd] at h
   obtain ⟨vals, h1, h2, h3⟩ := num_go most r false n (cur ++ [c]) h ⟨fun e => (by cases e), fun e => (by simp at e)⟩
   refine ⟨vals, h1, fun rest hr => ?_, ?_⟩
   ·rw [List.cons_append, lkGo, if_pos hd]
    exact h2 rest hr
   ·rw [List.cons_append, lkGo, if_pos hd]
    exact h3
  ·rw [if_neg hd] at h
   by_cases hp : c = 46 ∧ o = false
   ·rw [if_pos hp] at h
    have hc : cur ≠ [] := fun e => by have := ho.2 e; rw [hp.2] at this; cases this
    obtain ⟨vals, h1, h2, h3⟩ := num_go most r true (n + 1) [] h ⟨fun _ => rfl, fun _ => rfl⟩
    refine ⟨Bv.decV cur :: vals, by simp; omega, fun rest hr => ?_, ?_⟩
    ·rw [List.cons_append, lkGo, if_neg hd, if_pos hp.1, if_neg hc, h2 rest hr]
     rfl
    ·rw [List.cons_append, lkGo, if_neg hd, if_pos hp.1, if_neg hc, h3]
     rfl
   ·rw [if_neg hp] at h
    cases h
theorem num_asc (most : Nat) : ∀ (l : List UInt8) (o : Bool) (n : Nat), nmB most o n l = true → ∀ c ∈ l, dg c = true ∨ c = 46
 | [], _, _, _, c, hc => by simp at hc
 | x :: r, o, n, h, c, hc => by
  rw [nmB] at h
  by_cases hd : dg x = true
  ·rw [if_pos hd] at h
   rcases List.mem_cons.1 hc with rfl | hc
   ·exact .inl hd
   ·exact num_asc most r _ _ h c hc
  ·rw [if_neg hd] at h
   by_cases hp : x = 46 ∧ o = false
   ·rw [if_pos hp] at h
    rcases List.mem_cons.1 hc with rfl | hc
    ·exact .inr hp.1
    ·exact num_asc most r _ _ h c hc
   ·rw [if_neg hp] at h
    cases h
theorem num_head (most : Nat) (l : List UInt8) (n : Nat) (h : nmB most true n l = true) : ∃ c r, l = c :: r ∧ dg c = true := by
 cases l with
 | nil => rw [nmB] at h; simp at h
 | cons c r =>
  rw [nmB] at h
  by_cases hd : dg c = true
  ·exact ⟨c, r, rfl, hd⟩
  ·rw [if_neg hd, if_neg (by simp)] at h
   cases h
theorem dt_asc : ∀ (l : List UInt8) (o : Bool), dtB o l = true → ∀ c ∈ l, c.toNat < 128 ∧ c ≠ 43
 | [], _, _, c, hc => by simp at hc
 | x :: r, o, h, c, hc => by
  rw [dtB] at h
  by_cases hd : (dg x || lt x) = true
  ·rw [if_pos hd] at h
   rcases List.mem_cons.1 hc with rfl | hc
   ·constructor
    ·rw [Bool.or_eq_true] at hd
     rcases hd with hd | hd
     ·have := of_decide_eq_true hd; omega
     ·have := of_decide_eq_true hd; omega
    ·intro e
     rw [e] at hd
     exact absurd hd (by decide)
   ·exact dt_asc r _ h c hc
  ·rw [if_neg hd] at h
   by_cases hp : x = 46 ∧ o = false
   ·rw [if_pos hp] at h
    rcases List.mem_cons.1 hc with rfl | hc
    ·rw [hp.1]
     exact ⟨by decide, by decide⟩
    ·exact dt_asc r _ h c hc
   ·rw [if_neg hp] at h
    cases h
theorem dt_ne (l : List UInt8) (h : dtB true l = true) : l ≠ [] := by
 rintro rfl
 cases h
theorem lkP_no (c : UInt8) (r : List UInt8) (h : c ≠ 118) : lkP (ofL (c :: r)) = lkGo [] (c :: r) := by
 have e : Lib.trimPrefix (c :: r) [118] = c :: r := by
  unfold Lib.trimPrefix Lib.hasPrefix
  rw [if_neg (by simp [List.isPrefixOf]; exact fun e => h e.symm)]
 have e2 : bl (lkL (ofL (c :: r))) = c :: r := by
  rw [lkL_bl]
  exact e
 unfold lkP
 rw [e2]
theorem lkP_v (r : List UInt8) : lkP (ofL (118 :: r)) = lkGo [] r := by
 have e : Lib.trimPrefix (118 :: r) [118] = r := by
  unfold Lib.trimPrefix Lib.hasPrefix
  rw [if_pos (by simp [List.isPrefixOf])]
  rfl
 have e2 : bl (lkL (ofL (118 :: r))) = r := by
  rw [lkL_bl]
  exact e
 unfold lkP
 rw [e2]
theorem cmpFrom_zeros (a b : List Int) : ∀ d i, (∀ j, i ≤ j → nth a j = nth b j) → cmpFrom a b d i = 0
 | 0, _, _ => rfl
 | d + 1, i, h => by
  have e := h i (Nat.le_refl i)
  rw [cmpFrom, e]
  have hz : Bn.cmpZ (nth b i) (nth b i) = 0 := by unfold Bn.cmpZ; rw [if_neg (by omega), if_neg (by omega)]
  rw [if_pos hz]
  exact cmpFrom_zeros a b d (i + 1) (fun j hj => h j (by omega))
theorem lists_self (a : List Int) : cmpLists a a = 0 := cmpFrom_zeros a a _ 0 (fun _ _ => rfl)
theorem lists_zero (a : List Int) : cmpLists (a ++ [0]) a = 0 := cmpFrom_zeros _ _ _ 0 (fun j _ => by
 unfold nth
 rw [List.getD_eq_getElem?_getD, List.getD_eq_getElem?_getD]
 rcases Nat.lt_trichotomy j a.length with h | h | h
 ·rw [List.getElem?_append_left h]
 ·subst h
  rw [List.getElem?_append_right (Nat.le_refl _), Nat.sub_self, List.getElem?_eq_none (Nat.le_refl _)]
  rfl
 ·rw [List.getElem?_append_right (by omega), List.getElem?_eq_none (by simp; omega), List.getElem?_eq_none (by omega)])
/-- Two texts whose numbers are the same compare by what stands behind them. -/
theorem text_ev (x y : List UInt8) (l1 l2 : List Int) (b1 b2 : List UInt8) (hx : x.length ≤ 100000) (hy : y.length ≤ 100000) (ax : ∀ c ∈ x, c.toNat < 128) (ay : ∀ c ∈ y, c.toNat < 128)
  (px : lkP (ofL x) = (l1, b1)) (py : lkP (ofL y) = (l2, b2)) (n1 : l1.length ≤ 3) (n2 : l2.length ≤ 3) (s1 : b1.length ≤ 100000) (s2 : b2.length ≤ 100000) (hz : cmpLists l1 l2 = 0) :
  Ev (fun k => impl_SemverCompareText.f k (ofL x) (ofL y)) (bldC b1 b2, true) := by
 have fx : fitT (ofL x) = true := by
  unfold fitT
  rw [px, bl_ofL, decide_eq_true (show (ofL x).size ≤ 300000 by rw [ofL_size]; omega), decide_eq_true n1, List.all_eq_true.2 (fun c hc => decide_eq_true (ax c hc))]
  rfl
 have fy : fitT (ofL y) = true := by
  unfold fitT
  rw [py, bl_ofL, decide_eq_true (show (ofL y).size ≤ 300000 by rw [ofL_size]; omega), decide_eq_true n2, List.all_eq_true.2 (fun c hc => decide_eq_true (ay c hc))]
  rfl
 unfold impl_SemverCompareText.f
 rw [fx, fy, px, py]
 have hC : Ev (fun k => SemverC k l1 (ofL b1) l2 (ofL b2)) (bldC b1 b2) := by
  unfold SemverC SemverB
  exact ev_pos hz (compareBuild_ev b1 b2 (by omega) (by omega))
 exact ev_t (Ev.bind hC (ev_now rfl))
theorem bdy_plus (m : List UInt8) : bdy (43 :: m) = [] := by
 unfold bdy mt
 rw [List.takeWhile_cons, if_neg (by decide)]
 rfl
theorem bdy_min (p m : List UInt8) (h : ∀ c ∈ p, c ≠ 43) : bdy (45 :: p ++ 43 :: m) = p ∧ bdy (45 :: p) = p := by
 have hall : ∀ c ∈ 45 :: p, (c != 43) = true := fun c hc => by
  rcases List.mem_cons.1 hc with rfl | hc
  ·decide
  ·rw [bne_iff_ne]
   exact h c hc
 have e1 : mt (45 :: p ++ 43 :: m) = 45 :: p := by
  unfold mt
  rw [List.takeWhile_append_of_pos hall, List.takeWhile_cons, if_neg (by decide), List.append_nil]
 have e2 : mt (45 :: p) = 45 :: p := by
  have := List.takeWhile_append_of_pos (l₂ := []) hall
  unfold mt
  simpa using this
 unfold bdy
 rw [e1, e2, unh_cons, if_pos rfl]
 exact ⟨rfl, rfl⟩
theorem numbered_l (l : List UInt8) (hl : l.length ≤ 100000) (d : Nat) : ∀ (i n : Nat) (o : Bool), i + d = l.length → n ≤ i + 1 → Ev (fun k => laws_numbered.l0 k (ofL l) 2 (n : Int) o (i : Int)) (nmB 2 o n (l.drop i)) := by
 have hs := ofL_size l
 induction d with
 | zero =>
  intro i n o h hn
  refine Ev.step (fun _ => by rw [laws_numbered.l0]) ?_
  refine ev_neg (by omega) ?_
  rw [List.drop_of_length_le (by omega), nmB]
  cases o with
  | true => exact ev_t (ev_now rfl)
  | false =>
   refine ev_f (ev_now ?_)
   show decide ((n : Int) ≤ 2) = decide (n ≤ 2)
   by_cases h2 : n ≤ 2
   ·rw [decide_eq_true h2, decide_eq_true (by omega)]
   ·rw [decide_eq_false h2, decide_eq_false (by omega)]
 | succ d ih =>
  intro i n o h hn
  have hi : i < l.length := by omega
  obtain ⟨c, hc⟩ : ∃ c, c = l[i]'hi := ⟨_, rfl⟩
  have hb : bt (ofL l) (i : Int) = (c.toNat : Int) := by rw [hc]; exact bt_ofL l i hi
  have e : l.drop i = c :: l.drop (i + 1) := by rw [hc]; exact List.drop_eq_getElem_cons hi
  rw [e, nmB]
  have e46 : ((c.toNat : Int) = 46) ↔ c = 46 := ⟨fun h => UInt8.toNat_inj.1 (by have : (46 : UInt8).toNat = 46 := rfl; omega), fun h => by rw [h]; rfl⟩
  have key : ∀ b : Bool, b = dg c → Ev (fun k => laws_numbered.j1 k (ofL l) 2 (n : Int) o (i : Int) b) (if dg c = true then nmB 2 false n (l.drop (i + 1)) else if c = 46 ∧ o = false then nmB 2 true (n + 1) (l.drop (i + 1)) else false) := by
   intro b hbd
   rw [← hbd]
   refine Ev.step (fun _ => by rw [laws_numbered.j1, hb, wrap_nat (show (i : Int) < 9223372036854775807 by omega), wrap_nat (show (n : Int) < 9223372036854775807 by omega)]) ?_
   cases b with
   | true =>
    rw [if_pos rfl]
    exact ev_t (ih (i + 1) n false (by omega) (by omega))
   | false =>
    rw [if_neg (by decide)]
    refine ev_f (ev_pos (by omega) (ev_pos (by omega) ?_))
    by_cases h46 : c = 46
    ·refine ev_pos (e46.2 h46) ?_
     cases o with
     | true =>
      rw [if_neg (by simp)]
      exact ev_t (ev_now rfl)
     | false =>
      rw [if_pos ⟨h46, rfl⟩]
      exact ev_f (ih (i + 1) (n + 1) true (by omega) (by omega))
    ·rw [if_neg (fun h => h46 h.1)]
     exact ev_neg (fun h => h46 (e46.1 h)) (ev_now rfl)
  refine Ev.step (fun _ => by rw [laws_numbered.l0, hb]) ?_
  refine ev_pos (by omega) (ev_pos (by omega) ?_)
  by_cases h48 : (c.toNat : Int) ≥ 48
  ·refine ev_pos h48 (key _ ?_)
   unfold dg
   by_cases h57 : (c.toNat : Int) ≤ 57
   ·rw [decide_eq_true h57, decide_eq_true (by omega)]
   ·rw [decide_eq_false h57, decide_eq_false (by omega)]
  ·refine ev_neg h48 (key _ ?_)
   unfold dg
   rw [decide_eq_false (by omega)]
theorem numbered_ev (l : List UInt8) (hl : l.length ≤ 100000) : Ev (fun k => laws_numbered.f k (ofL l) 2) (nmB 2 true 1 l) := numbered_l l hl l.length 0 1 true (by omega) (by omega)
theorem dotted_l (l : List UInt8) (hl : l.length ≤ 100000) (d : Nat) : ∀ (i : Nat) (o : Bool), i + d = l.length → Ev (fun k => laws_dotted.l0 k (ofL l) o (i : Int)) (dtB o (l.drop i)) := by
 have hs := ofL_size l
 induction d with
 | zero =>
  intro i o h
  refine Ev.step (fun _ => by rw [laws_dotted.l0]) ?_
  refine ev_neg (by omega) (ev_now ?_)
  rw [List.drop_of_length_le (by omega)]
  rfl
 | succ d ih =>
  intro i o h
  have hi : i < l.length := by omega
  obtain ⟨c, hc⟩ : ∃ c, c = l[i]'hi := ⟨_, rfl⟩
  have hb : bt (ofL l) (i : Int) = (c.toNat : Int) := by rw [hc]; exact bt_ofL l i hi
  have e : l.drop i = c :: l.drop (i + 1) := by rw [hc]; exact List.drop_eq_getElem_cons hi
  rw [e, dtB]
  have e46 : ((c.toNat : Int) = 46) ↔ c = 46 := ⟨fun h => UInt8.toNat_inj.1 (by have : (46 : UInt8).toNat = 46 := rfl; omega), fun h => by rw [h]; rfl⟩
  have key : ∀ b : Bool, b = (dg c || lt c) → Ev (fun k => laws_dotted.j1 k (ofL l) o (i : Int) (c.toNat : Int) b) (if (dg c || lt c) = true then dtB false (l.drop (i + 1)) else if c = 46 ∧ o = false then dtB true (l.drop (i + 1)) else false) := by
   intro b hbd
   rw [← hbd]
   refine Ev.step (fun _ => by rw [laws_dotted.j1, wrap_nat (show (i : Int) < 9223372036854775807 by omega)]) ?_
   cases b with
   | true =>
    rw [if_pos rfl]
    exact ev_t (ih (i + 1) false (by omega))
   | false =>
    rw [if_neg (by decide)]
    refine ev_f ?_
    by_cases h46 : c = 46
    ·refine ev_pos (e46.2 h46) ?_
     cases o with
     | true =>
      rw [if_neg (by simp)]
      exact ev_t (ev_now rfl)
     | false =>
      rw [if_pos ⟨h46, rfl⟩]
      exact ev_f (ih (i + 1) true (by omega))
    ·rw [if_neg (fun h => h46 h.1)]
     exact ev_neg (fun h => h46 (e46.1 h)) (ev_now rfl)
  have hv : ∀ b : Bool, (b = true ↔ (48 ≤ c.toNat ∧ c.toNat ≤ 57) ∨ (97 ≤ c.toNat ∧ c.toNat ≤ 122 ∨ 65 ≤ c.toNat ∧ c.toNat ≤ 90)) → b = (dg c || lt c) := fun b hb => by
   unfold dg lt
   rw [Bool.eq_iff_iff, Bool.or_eq_true, decide_eq_true_eq, decide_eq_true_eq]
   exact hb
  refine Ev.step (fun _ => by rw [laws_dotted.l0, hb]) ?_
  refine ev_pos (by omega) (ev_pos (by omega) ?_)
  have low : Ev (fun k => if (c.toNat : Int) ≥ 97 then (if (c.toNat : Int) ≤ 122 then (laws_dotted.j1 k (ofL l) o (i : Int) (c.toNat : Int) true) else (if (c.toNat : Int) ≥ 65 then (laws_dotted.j1 k (ofL l) o (i : Int) (c.toNat : Int) (decide ((c.toNat : Int) ≤ 90))) else (laws_dotted.j1 k (ofL l) o (i : Int) (c.toNat : Int) false))) else (if (c.toNat : Int) ≥ 65 then (laws_dotted.j1 k (ofL l) o (i : Int) (c.toNat : Int) (decide ((c.toNat : Int) ≤ 90))) else (laws_dotted.j1 k (ofL l) o (i : Int) (c.toNat : Int) false))) (if (dg c || lt c) = true then dtB false (l.drop (i + 1)) else if c = 46 ∧ o = false then dtB true (l.drop (i + 1)) else false) ∨ (48 ≤ c.toNat ∧ c.toNat ≤ 57) := by
   by_cases hd : 48 ≤ c.toNat ∧ c.toNat ≤ 57
   ·exact .inr hd
   ·refine .inl ?_
    by_cases h1 : (c.toNat : Int) ≥ 97
    ·refine ev_pos h1 ?_
     by_cases h2 : (c.toNat : Int) ≤ 122
     ·exact ev_pos h2 (key true (hv true ⟨fun _ => by omega, fun _ => rfl⟩))
     ·refine ev_neg h2 (ev_pos (by omega) (key _ (hv _ ?_)))
      rw [decide_eq_true_eq]
      omega
    ·refine ev_neg h1 ?_
     by_cases h2 : (c.toNat : Int) ≥ 65
     ·refine ev_pos h2 (key _ (hv _ ?_))
      rw [decide_eq_true_eq]
      omega
     ·exact ev_neg h2 (key false (hv false ⟨fun h => (by cases h), fun h => by omega⟩))
  by_cases h48 : (c.toNat : Int) ≥ 48
  ·refine ev_pos h48 ?_
   by_cases h57 : (c.toNat : Int) ≤ 57
   ·exact ev_pos h57 (key true (hv true ⟨fun _ => by omega, fun _ => rfl⟩))
   ·refine ev_neg h57 ?_
    rcases low with low | hd
    ·exact low
    ·omega
  ·refine ev_neg h48 ?_
   rcases low with low | hd
   ·exact low
   ·omega
theorem dotted_ev (l : List UInt8) (hl : l.length ≤ 100000) : Ev (fun k => laws_dotted.f k (ofL l)) (dtB true l) := dotted_l l hl l.length 0 true (by omega)
theorem FnSemverMeaning : laws_FnSemverMeaning.Pure := by
 intro a p m h0 h1 h2
 refine Ev.rounds ?_
 unfold laws_FnSemverMeaning.f
 have skip0 : Ev (fun k => laws_FnSemverMeaning.j0 k a p m true) true := Ev.step (fun _ => by rw [laws_FnSemverMeaning.j0]) (ev_t (ev_now rfl))
 have skip1 : Ev (fun k => laws_FnSemverMeaning.j1 k a p m true) true := Ev.step (fun _ => by rw [laws_FnSemverMeaning.j1]) (ev_t (ev_now rfl))
 refine ev_ite (fun _ => skip0) (fun _ => ev_ite (fun _ => skip0) (fun _ => ?_))
 cases decide ((m.size : Int) > 2147483647) with
 | true => exact skip0
 | false =>
  refine Ev.step (fun _ => by rw [laws_FnSemverMeaning.j0]) (ev_f ?_)
  obtain ⟨r, e, s⟩ := short3 a p m
  refine Ev.bind e ?_
  cases r with
  | false => exact ev_f skip1
  | true =>
   obtain ⟨s0, s1, s2⟩ := s rfl
   obtain ⟨al, rfl⟩ : ∃ l, a = ofL l := ⟨bl a, (ofL_bl a).symm⟩
   obtain ⟨pl, rfl⟩ : ∃ l, p = ofL l := ⟨bl p, (ofL_bl p).symm⟩
   obtain ⟨ml, rfl⟩ : ∃ l, m = ofL l := ⟨bl m, (ofL_bl m).symm⟩
   rw [ofL_size] at s0 s1 s2
   have n0 := numbered_ev al (by omega)
   have d1 := dotted_ev pl (by omega)
   have d2 := dotted_ev ml (by omega)
   refine ev_t (Ev.bind n0 ?_)
   cases g0 : nmB 2 true 1 al with
   | false => exact ev_f skip1
   | true =>
    refine ev_t (Ev.bind d1 ?_)
    cases g1 : dtB true pl with
    | false => exact ev_f skip1
    | true =>
     refine ev_t (Ev.bind d2 ?_)
     cases g2 : dtB true ml with
     | false => exact skip1
     | true =>
      obtain ⟨vals, v1, v2, v3⟩ := num_go 2 al true 1 [] g0 ⟨fun _ => rfl, fun _ => rfl⟩
      obtain ⟨c, ar, har, hcd⟩ := num_head 2 al 1 g0
      have hcv : c ≠ 118 := fun e => by rw [e] at hcd; exact absurd hcd (by decide)
      have aa : ∀ x ∈ al, x.toNat < 128 := fun x hx => by
       rcases num_asc 2 al true 1 g0 x hx with h | h
       ·have := of_decide_eq_true h; omega
       ·rw [h]; decide
      have ap := dt_asc pl true g1
      have am := dt_asc ml true g2
      have pn := dt_ne pl g1
      have app : ∀ (x y : List UInt8), (∀ c ∈ x, c.toNat < 128) → (∀ c ∈ y, c.toNat < 128) → ∀ c ∈ x ++ y, c.toNat < 128 := fun x y hx hy c hc => (List.mem_append.1 hc).elim (hx c) (hy c)
      -- what each text is
      have lk : ∀ rest, Rst rest → lkP (ofL (al ++ rest)) = (vals, rest) := fun rest hr => by
       have := v2 rest hr
       rw [har] at this ⊢
       rw [List.cons_append] at this ⊢
       rw [lkP_no c _ hcv]
       exact this
      have k0 : lkP (ofL al) = (vals, []) := by have := lk [] (.inl rfl); rwa [List.append_nil] at this
      have kv : lkP (ofL (118 :: al)) = (vals, []) := by
       rw [lkP_v]
       have := v2 [] (.inl rfl)
       rwa [List.append_nil] at this
      have km := lk (43 :: ml) (.inr ⟨43, ml, rfl, by decide, by decide⟩)
      have kp := lk (45 :: pl) (.inr ⟨45, pl, rfl, by decide, by decide⟩)
      have kb := lk (45 :: pl ++ 43 :: ml) (.inr ⟨45, pl ++ 43 :: ml, rfl, by decide, by decide⟩)
      have kz : lkP (ofL (al ++ [46, 48])) = (vals ++ [0], []) := by
       have := v3
       rw [har] at this ⊢
       rw [List.cons_append] at this ⊢
       rw [lkP_no c _ hcv]
       exact this
      have b0 : bldC [] [] = 0 := by rfl
      have b1 : bldC (43 :: ml) [] = 0 := by
       unfold bldC
       rw [if_pos (bdy_plus ml), if_pos (show bdy [] = [] from rfl)]
      have b2 : bldC (45 :: pl) [] = -1 := by
       unfold bldC
       rw [if_neg (by rw [(bdy_min pl [] (fun c hc => (ap c hc).2)).2]; exact pn), if_pos (show bdy [] = [] from rfl)]
      have b3 : bldC (45 :: pl ++ 43 :: ml) (45 :: pl) = 0 := by
       obtain ⟨e1, e2⟩ := bdy_min pl ml (fun c hc => (ap c hc).2)
       have e3 : idsP (45 :: pl ++ 43 :: ml) = idsP (45 :: pl) := by unfold idsP; rw [e1, e2]
       unfold bldC
       rw [e3, if_neg (by rw [e1]; exact pn), if_neg (by rw [e2]; exact pn)]
       exact idsC_self _
      have ax43 : ∀ x ∈ 43 :: ml, x.toNat < 128 := fun x hx => by
       rcases List.mem_cons.1 hx with rfl | hx
       ·decide
       ·exact (am x hx).1
      have ax45 : ∀ x ∈ 45 :: pl, x.toNat < 128 := fun x hx => by
       rcases List.mem_cons.1 hx with rfl | hx
       ·decide
       ·exact (ap x hx).1
      have a118 : ∀ x ∈ 118 :: al, x.toNat < 128 := fun x hx => by
       rcases List.mem_cons.1 hx with rfl | hx
       ·decide
       ·exact aa x hx
      have t1 := text_ev (118 :: al) al vals vals [] [] (by simp; omega) (by omega) a118 aa kv k0 (by omega) (by omega) (by simp) (by simp) (lists_self _)
      have t2 := text_ev (al ++ 43 :: ml) al vals vals (43 :: ml) [] (by simp; omega) (by omega) (app _ _ aa ax43) aa km k0 (by omega) (by omega) (by simp; omega) (by simp) (lists_self _)
      have t3 := text_ev (al ++ 45 :: pl) al vals vals (45 :: pl) [] (by simp; omega) (by omega) (app _ _ aa ax45) aa kp k0 (by omega) (by omega) (by simp; omega) (by simp) (lists_self _)
      have t4 := text_ev (al ++ [46, 48]) al (vals ++ [0]) vals [] [] (by simp; omega) (by omega) (app _ _ aa (fun x hx => by simp at hx; rcases hx with rfl | rfl <;> decide)) aa kz k0 (by simp; omega) (by omega) (by simp) (by simp) (lists_zero _)
      have t5 := text_ev (al ++ (45 :: pl ++ 43 :: ml)) (al ++ 45 :: pl) vals vals (45 :: pl ++ 43 :: ml) (45 :: pl) (by simp; omega) (by simp; omega) (app _ _ aa (app _ _ ax45 ax43)) (app _ _ aa ax45) kb kp (by omega) (by omega) (by simp; omega) (by simp; omega) (lists_self _)
      rw [b0] at t1 t4
      rw [b1] at t2
      rw [b2] at t3
      rw [b3] at t5
      have w1 : (⟨#[118]⟩ : ByteArray) ++ ofL al = ofL (118 :: al) := ofL_append [118] al
      have w2 : (ofL al ++ (⟨#[43]⟩ : ByteArray)) ++ ofL ml = ofL (al ++ 43 :: ml) := by
       rw [show (⟨#[43]⟩ : ByteArray) = ofL [43] from rfl, ofL_append, ofL_append, List.append_assoc]
       rfl
      have w3 : (ofL al ++ (⟨#[45]⟩ : ByteArray)) ++ ofL pl = ofL (al ++ 45 :: pl) := by
       rw [show (⟨#[45]⟩ : ByteArray) = ofL [45] from rfl, ofL_append, ofL_append, List.append_assoc]
       rfl
      have w4 : ofL al ++ (⟨#[46, 48]⟩ : ByteArray) = ofL (al ++ [46, 48]) := ofL_append al [46, 48]
      have w5 : (ofL (al ++ 45 :: pl) ++ (⟨#[43]⟩ : ByteArray)) ++ ofL ml = ofL (al ++ (45 :: pl ++ 43 :: ml)) := by
       rw [show (⟨#[43]⟩ : ByteArray) = ofL [43] from rfl, ofL_append, ofL_append]
       congr 1
       simp
      have z1 : (ofL al ++ (⟨#[43]⟩ : ByteArray)).size = al.length + 1 := by
       rw [show (⟨#[43]⟩ : ByteArray) = ofL [43] from rfl, ofL_append, ofL_size]
       simp
      have z2 : (ofL al ++ (⟨#[45]⟩ : ByteArray)).size = al.length + 1 := by
       rw [show (⟨#[45]⟩ : ByteArray) = ofL [45] from rfl, ofL_append, ofL_size]
       simp
      have z3 : (ofL (al ++ 45 :: pl) ++ (⟨#[43]⟩ : ByteArray)).size = al.length + (pl.length + 1) + 1 := by
       rw [show (⟨#[43]⟩ : ByteArray) = ofL [43] from rfl, ofL_append, ofL_size]
       simp
       try omega
      have y0 := ofL_size al
      have y1 := ofL_size pl
      have y2 := ofL_size ml
      have y3 : (ofL (al ++ 45 :: pl)).size = al.length + (pl.length + 1) := by rw [ofL_size]; simp
      refine Ev.step (fun _ => by rw [Bool.not_true, laws_FnSemverMeaning.j1, w1, w2, w3, w4, w5, z1, z2, z3, y0, y1, y2, y3]) ?_
      refine ev_f (ev_pos (by omega) (Ev.bind t1 (ev_pos (by omega) (ev_pos (by omega) (Ev.bind t2 (ev_pos (by omega) (Ev.bind t3 (ev_pos (by omega) (Ev.bind t4 (ev_pos (by omega) (ev_pos (by omega) (Ev.bind t5 ?_))))))))))))
      exact ev_t (ev_t (ev_t (ev_t (ev_t (ev_pos rfl (ev_pos rfl (ev_pos rfl (ev_pos rfl (ev_now rfl)))))))))
end Go.Proofs.YtgnkjjgbdlkidaaGreatDoor.Pure

namespace Go.Proofs.YtgnkjjgbdlkidaaGreatDoor.fnSemverMeaning
open Go.ChangeShapes Go.WideShapes Go.ChangeAt Go.RowKit Go.Proofs.YtgnkjjgbdlkidaaGreatDoor.Op Go.Proofs.YtgnkjjgbdlkidaaGreatDoor.Z Go.Proofs.YtgnkjjgbdlkidaaGreatDoorW.PrintWords
open Go.ChangeMaps (open_string shut_string)
set_option linter.unusedVariables false
set_option linter.unusedSimpArgs false
theorem own : ownKnob Tryz.prog.godebug = none := by kernel_rfl
/-- A world for the witness: the listed variables hold what their initialisers lay. -/
noncomputable def laidWorld (os : Os) : World := World.laidAll Tryz.prog os Rows.fnSemverMeaningRow.laid
set_option maxRecDepth 100000 in
theorem laid_met (os : Os) : laidMet Tryz.prog Rows.fnSemverMeaningRow.laid ((laidWorld os).forCall (fun _ _ => 0) ⟨#[], #[.string ByteArray.empty, .string ByteArray.empty, .string ByteArray.empty], []⟩).memory :=
 laidMet_laidAll _ (by kernel_rfl) (by kernel_rfl)
set_option maxRecDepth 100000 in
theorem reads (os : Os) {H : Type} (enc : TypeId × Value → H) : DataW.whole enc Tryz.prog ((laidWorld os).forCall (fun _ _ => 0) ⟨#[], #[.string ByteArray.empty, .string ByteArray.empty, .string ByteArray.empty], []⟩).memory Tryz.f3.params.toList Rows.fnSemverMeaningSpec.vars false #[.string ByteArray.empty, .string ByteArray.empty, .string ByteArray.empty].toList 8 = some ([.lit (.string []), .lit (.string []), .lit (.string [])], [], []) := by kernel_rfl
set_option maxRecDepth 100000 in
theorem lifted (os : Os) (started : os.Started) (H : Type) (enc : TypeId × Value → H) (F : Stop.Interp) :
  ReturnsInHanded {} Tryz.checked os 3 .any ((OpenSpec.ofChange Rows.fnSemverMeaningSpec).preRow enc Tryz.prog Tryz.f3 Rows.fnSemverMeaningRow.domain false Rows.fnSemverMeaningRow.laid) (((OpenSpec.ofChange Rows.fnSemverMeaningSpec).at F).post enc Tryz.prog Tryz.f3 false true false false) := by
 refine returnsInHanded_of_row (C := Tryz.checked) (s := OpenSpec.ofChange Rows.fnSemverMeaningSpec) own started (by kernel_rfl) Tryz.func3
  (witness_row_atRef (enc := enc) (C := Tryz.checked) false (laidWorld os) #[.string ByteArray.empty, .string ByteArray.empty, .string ByteArray.empty] (World.laidAll_os _ _ _) (by kernel_rfl) (by kernel_rfl) (by kernel_rfl)
   (OpenSpec.preRow_of_cond 8 (reads os enc) (by kernel_rfl) (fun k hk => by cases hk) (by kernel_rfl) (laid_met os))) ?_
 intro W base args ds gs before hval0 hW hcnd hk0 hsz0 hL hSh hho
 have hsz : (DataW.weightsEach Tryz.prog (Tryz.f3.params.toList ++ Rows.fnSemverMeaningSpec.plain.varTypes Tryz.prog) (ds ++ gs)).all (· ≤ reachBytes) = true := hsz0
 have hval : ∀ (j : Nat) t v, Tryz.f3.params[j]? = some t → args[j]? = some v → Value.okWide Tryz.prog W .any base t v := hval0
 have hW' := hW
 obtain ⟨p, q, hA0, hV, rfl, hfz, hnd⟩ := hW
 have hA : DataW.TrodAll enc Tryz.prog W 0 (fun _ => true) true Tryz.f3.params.toList args.toList ds p := hA0
 rw [Tryz.params3] at hA hval hsz
 obtain ⟨v0, vs0, d0, ds0, p0, q0, hargs, rfl, rfl, h0, r0⟩ := trodAll_cons hA
 obtain ⟨v1, vs1, d1, ds1, p1, q1, rfl, rfl, rfl, h1, r1⟩ := trodAll_cons r0
 obtain ⟨v2, vs2, d2, ds2, p2, q2, rfl, rfl, rfl, h2, r2⟩ := trodAll_cons r1
 obtain ⟨rfl, rfl, rfl⟩ := trodAll_nil r2
 obtain rfl : args = #[v0, v1, v2] := by cases args; simp_all
 obtain ⟨rfl, rfl⟩ := trodVars_none hV
 obtain ⟨a0, rfl, rfl, rfl, y0⟩ := open_string Tryz.underlying9 (hval 0 9 v0 rfl rfl) h0
 have w0 : a0.size ≤ 140737488351232 := by
  have z := sized_string hsz (j := 0) (t := 9) rfl rfl
  rw [Array.length_toList] at z
  exact z
 obtain ⟨a1, rfl, rfl, rfl, y1⟩ := open_string Tryz.underlying9 (hval 1 9 v1 rfl rfl) h1
 have w1 : a1.size ≤ 140737488351232 := by
  have z := sized_string hsz (j := 1) (t := 9) rfl rfl
  rw [Array.length_toList] at z
  exact z
 obtain ⟨a2, rfl, rfl, rfl, y2⟩ := open_string Tryz.underlying9 (hval 2 9 v2 rfl rfl) h2
 have w2 : a2.size ≤ 140737488351232 := by
  have z := sized_string hsz (j := 2) (t := 9) rfl rfl
  rw [Array.length_toList] at z
  exact z
 clear hA0 hval0 hsz0 hsz
 refine (laws_FnSemverMeaning.walk Pure.FnSemverMeaning a0 a1 a2 W w0 w1 w2  (Gw.gw_of (l := Rows.fnSemverMeaningRow.laid) hL (List.Mem.tail _ (List.Mem.tail _ (List.Mem.head _))) (List.Mem.tail _ (List.Mem.tail _ (List.Mem.tail _ (List.Mem.head _)))) (List.Mem.tail _ (List.Mem.tail _ (List.Mem.tail _ (List.Mem.tail _ (List.Mem.tail _ (List.Mem.tail _ (List.Mem.tail _ (List.Mem.tail _ (List.Mem.tail _ (List.Mem.tail _ (List.Mem.head _))))))))))))).mono fun e W' ⟨he, bel⟩ => ?_
 subst he
 exact ⟨_, rfl, _, _, _, [], _, [], hW', trodAll_mk1 (shut_bool Tryz.underlying4 _), (trodAll_cons_mk (shut_string Tryz.underlying9 y0) (trodAll_cons_mk (shut_string Tryz.underlying9 y1) (trodAll_cons_mk (shut_string Tryz.underlying9 y2) trodAll_mk0))), rfl, bel.frame _, fun h => by cases h⟩
theorem said : Rows.FnSemverMeaningSaid :=
 OpenClaim.holds_of_cond 3 Tryz.f3 rfl rfl rfl rfl rfl rfl rfl ⟨rfl, rfl, rfl, rfl, rfl⟩ rfl rfl rfl rfl rfl (by kernel_rfl) Tryz.func3 (by kernel_rfl)
  (of_decide_eq_true (by kernel_rfl)) (by unfold Func.isWrapper; first | (rw [if_pos (by decide +kernel)]; kernel_rfl) | (rw [if_neg (by decide +kernel)]; exact ⟨rfl, rfl⟩))
  (fun os started H enc _ F => by rw [OpenClaim.pre_eq_preRow]; exact lifted os started H enc F)
theorem plain (f : FuncId) (fn : Func) (hf : Tryz.pinned.checked.prog.funcNamed "pub-seniority/laws.FnSemverMeaning" = some f) (hfn : Tryz.pinned.checked.prog.funcs[f]? = some fn) :
  true = Tryz.pinned.checked.prog.looks [] ∧ ∀ (j : Nat) t, fn.params[j]? = some t → Tryz.pinned.checked.prog.wantsStandIn t = false := by
 obtain rfl : f = 3 := Option.some.inj ((show Tryz.prog.funcNamed "pub-seniority/laws.FnSemverMeaning" = some 3 by kernel_rfl).symm.trans hf) |>.symm
 obtain rfl : fn = Tryz.f3 := (Option.some.inj (Tryz.func3.symm.trans hfn)).symm
 refine ⟨by kernel_rfl, fun j t ht => ?_⟩
 rw [Tryz.params3] at ht
 have h2 : ([9, 9, 9] : List TypeId).all (fun t => !Tryz.prog.wantsStandIn t) = true := by kernel_rfl
 have h3 := List.all_eq_true.1 h2 t (by have := Array.mem_of_getElem? ht; simpa using this)
 exact (show Tryz.prog.wantsStandIn t = false from by simpa using h3)
theorem proved : Rows.FnSemverMeaningCardSaid :=
 Claim7.holds_tied_plain_at .later [] _ _ _ _ said (fun _ h => by cases h) (by kernel_rfl) (fun _ h => by cases h) fnSemverMeaning_row_tie rfl ⟨rfl, rfl⟩ (by kernel_rfl) rfl plain (by kernel_rfl)
#print axioms proved
end Go.Proofs.YtgnkjjgbdlkidaaGreatDoor.fnSemverMeaning
namespace Go.Proofs.YtgnkjjgbdlkidaaGreatDoor
/-- The card, under a short name, for the claim. -/
theorem fnSemverMeaning_holds : Rows.FnSemverMeaningCardSaid := fnSemverMeaning.proved
end Go.Proofs.YtgnkjjgbdlkidaaGreatDoor
