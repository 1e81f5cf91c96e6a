/- FnDebianEpochs. No condition beyond the row's own. -/
import Derived.Test.YtkcciinapkeaiaaDoorZ1
import Derived.Test.YtkcciinapkeaiaaDoorEv
import Derived.Test.YtkcciinapkeaiaaDoorBy
import Derived.Test.YtkcciinapkeaiaaDoorZ5
import Derived.Test.YtkcciinapkeaiaaDoorBn
import Derived.Test.YtkcciinapkeaiaaDoorBv
import Derived.Test.YtkcciinapkeaiaaDoorLx
import Derived.Test.YtkcciinapkeaiaaDoorZ6
import Derived.Test.YtkcciinapkeaiaaDoorZ11
import Derived.Test.YtkcciinapkeaiaaDoorZ12
import Derived.KernelRfl
import Derived.Test.YtkcciinapkeaiaaDoorZ15
import Derived.Test.YtkcciinapkeaiaaDoorZ16
import Derived.Lib.Bytealg
import Derived.Test.YtkcciinapkeaiaaDoorSsC
import Derived.Test.YtkcciinapkeaiaaDoorZ17
import Derived.Test.YtkcciinapkeaiaaDoorZ21
import Derived.Test.YtkcciinapkeaiaaDoorZ22
import Derived.Test.YtkcciinapkeaiaaDoorRows
import Derived.Test.YtkcciinapkeaiaaDoorOp
import Derived.Test.YtkcciinapkeaiaaDoorCards
import Derived.Test.YtkcciinapkeaiaaDoorTie
import Derived.Test.YtkcciinapkeaiaaDoorGt
import Derived.Deep.DeepHandedRow
import Derived.Deep.DeepWitnessRowRef
import Derived.Lay
import Derived.WalkKit
import Derived.ProofKit
import Derived.OpenShut
import Derived.ShutString
import Derived.ChangeOld
import Derived.Below
import Derived.SizedLaws
namespace Go.Proofs.YtkcciinapkeaiaaDoor.Com
open Go.RowKit Go.Proofs.YtkcciinapkeaiaaDoor.Z Go.Proofs.YtkcciinapkeaiaaDoor.Evs Go.Proofs.YtkcciinapkeaiaaDoorW.PrintWords Go.Proofs.YtkcciinapkeaiaaDoorW.PrintLast
set_option linter.unusedVariables false
set_option linter.unusedSimpArgs false

/-- Ascii: an answer; where it is true every byte is below 128. -/
theorem ascii_l (s : ByteArray) (hs : s.size ≤ 140737488351232) (d : Nat) : ∀ i : Nat, i + d = s.size → ∃ r, Ev (fun k => spec_Ascii.l0 k s (i : Int)) r ∧ (r = true → ∀ j : Nat, i ≤ j → (h : j < s.size) → (s[j]'h).toNat < 128) := by
 induction d with
 | zero => intro i h; exact ⟨true, Ev.step (fun _ => by rw [spec_Ascii.l0]) (ev_neg (by omega) (Ev.now _)), fun _ j h1 h2 => by omega⟩
 | succ d ih =>
  intro i h
  obtain ⟨r, hr, hq⟩ := ih (i + 1) (by omega)
  have hb := bt_nat s i (by omega)
  by_cases c : bt s (i : Int) > 127
  ·exact ⟨false, Ev.step (fun _ => by rw [spec_Ascii.l0]) (ev_pos (by omega) (ev_pos (by omega) (ev_pos c (Ev.now _)))), fun h => by cases h⟩
  ·refine ⟨r, Ev.step (fun _ => by rw [spec_Ascii.l0, wrap_nat (by omega)]) (ev_pos (by omega) (ev_pos (by omega) (ev_neg c hr))), fun h j h1 h2 => ?_⟩
   by_cases e : j = i
   ·subst e; omega
   ·exact hq h j (by omega) h2
theorem ascii_ev (s : ByteArray) (hs : s.size ≤ 140737488351232) : ∃ r, Ev (fun k => spec_Ascii.f k s) r ∧ (r = true → ∀ j : Nat, (h : j < s.size) → (s[j]'h).toNat < 128) := by
 obtain ⟨r, hr, hq⟩ := ascii_l s hs s.size 0 (by omega)
 exact ⟨r, hr, fun h j hj => hq h j (by omega) hj⟩
end Go.Proofs.YtkcciinapkeaiaaDoor.Com

namespace Go.Proofs.YtkcciinapkeaiaaDoor.Com
open Go.RowKit Go.Proofs.YtkcciinapkeaiaaDoor.Z Go.Proofs.YtkcciinapkeaiaaDoor.Evs Go.Proofs.YtkcciinapkeaiaaDoor.By Go.Proofs.YtkcciinapkeaiaaDoorW.PrintWords Go.Proofs.YtkcciinapkeaiaaDoorW.PrintLast
set_option linter.unusedVariables false
set_option linter.unusedSimpArgs false

/-- The place of the first byte of a sort; -1 without one. -/
def idxI (c : UInt8) (l : List UInt8) : Int := if (l.dropWhile (· != c)) = [] then -1 else ((l.takeWhile (· != c)).length : Int)
theorem byte_eq (a c : UInt8) : ((a.toNat : Int) = (c.toNat : Int)) ↔ a = c := ⟨fun h => UInt8.toNat_inj.1 (by omega), fun h => by rw [h]⟩
theorem idx_split (c : UInt8) (l : List UInt8) : ∀ i : Nat, (∀ x ∈ l.take i, (x != c) = true) → l.takeWhile (· != c) = l.take i ++ (l.drop i).takeWhile (· != c) ∧ l.dropWhile (· != c) = (l.drop i).dropWhile (· != c) := by
 intro i h
 have e := List.take_append_drop i l
 constructor
 ·conv => lhs; rw [← e]
  exact List.takeWhile_append_of_pos h
 ·conv => lhs; rw [← e]
  exact List.dropWhile_append_of_pos h
theorem index_l (c : UInt8) (l : List UInt8) (hl : l.length ≤ 140737488351232) (d : Nat) : ∀ i : Nat, i + d = l.length → (∀ x ∈ l.take i, (x != c) = true) → Ev (fun k => spec_indexOf.l0 k (ofL l) (c.toNat : Int) (i : Int)) (idxI c l) := by
 have hs := ofL_size l
 induction d with
 | zero =>
  intro i h hp
  refine Ev.step (fun _ => by rw [spec_indexOf.l0]) (ev_neg (by omega) (ev_now ?_))
  have := (idx_split c l i hp).2
  rw [List.drop_of_length_le (by omega)] at this
  rw [idxI, if_pos (show List.dropWhile (fun x => x != c) l = [] from this)]
 | succ d ih =>
  intro i h hp
  have hi : i < l.length := by omega
  have hc := bt_ofL l i hi
  refine Ev.step (fun _ => by rw [spec_indexOf.l0, hc, wrap_nat (by omega)]) (ev_pos (by omega) (ev_pos (by omega) ?_))
  by_cases e : l[i]'hi = c
  ·refine ev_pos ((byte_eq _ _).2 e) (ev_now ?_)
   have h1 := idx_split c l i hp
   rw [List.drop_eq_getElem_cons hi, List.dropWhile_cons, List.takeWhile_cons, if_neg (by simp [e]), if_neg (by simp [e])] at h1
   have h2 : ¬ List.dropWhile (fun x => x != c) l = [] := fun hh => by
    have := h1.2.symm.trans hh
    cases this
   rw [idxI, if_neg h2, h1.1, List.append_nil, List.length_take]
   omega
  ·refine ev_neg (fun h => e ((byte_eq _ _).1 h)) (ih (i + 1) (by omega) (fun x hx => ?_))
   rw [List.take_succ_eq_append_getElem hi, List.mem_append] at hx
   rcases hx with hx | hx
   ·exact hp x hx
   ·simp at hx
    subst hx
    simpa using e
theorem index_ev (c : UInt8) (l : List UInt8) (hl : l.length ≤ 140737488351232) : Ev (fun k => spec_indexOf.f k (ofL l) (c.toNat : Int)) (idxI c l) := index_l c l hl l.length 0 (by omega) (by simp)
end Go.Proofs.YtkcciinapkeaiaaDoor.Com

namespace Go.Proofs.YtkcciinapkeaiaaDoor.Com
open Go Go.RowKit Go.Proofs.YtkcciinapkeaiaaDoor.Z Go.Proofs.YtkcciinapkeaiaaDoor.Evs Go.Proofs.YtkcciinapkeaiaaDoor.By Go.Proofs.YtkcciinapkeaiaaDoor.Lx Go.Proofs.YtkcciinapkeaiaaDoorW.PrintWords Go.Proofs.YtkcciinapkeaiaaDoorW.PrintLast
set_option linter.unusedVariables false
set_option linter.unusedSimpArgs false
end Go.Proofs.YtkcciinapkeaiaaDoor.Com

namespace Go.Proofs.YtkcciinapkeaiaaDoor.Com
open Go Go.RowKit Go.Proofs.YtkcciinapkeaiaaDoor.Z Go.Proofs.YtkcciinapkeaiaaDoor.Evs Go.Proofs.YtkcciinapkeaiaaDoor.By Go.Proofs.YtkcciinapkeaiaaDoor.Lx Go.Proofs.YtkcciinapkeaiaaDoorW.PrintWords Go.Proofs.YtkcciinapkeaiaaDoorW.PrintLast
set_option linter.unusedVariables false
set_option linter.unusedSimpArgs false
theorem blank_f (c : UInt8) : spec_debBlank.f (c.toNat : Int) = some (Lib.isSp c) := by
 have hu : ∀ n : UInt8, (c == n) = decide (c.toNat = n.toNat) := fun n => by
  rw [Bool.eq_iff_iff, beq_iff_eq, decide_eq_true_eq]
  exact ⟨fun h => by rw [h], fun h => UInt8.toNat_inj.1 h⟩
 unfold spec_debBlank.f Lib.isSp
 rw [hu 9, hu 10, hu 11, hu 12, hu 13, hu 32]
 have n9 : (9 : UInt8).toNat = 9 := rfl
 have n10 : (10 : UInt8).toNat = 10 := rfl
 have n11 : (11 : UInt8).toNat = 11 := rfl
 have n12 : (12 : UInt8).toNat = 12 := rfl
 have n13 : (13 : UInt8).toNat = 13 := rfl
 have n32 : (32 : UInt8).toNat = 32 := rfl
 rw [n9, n10, n11, n12, n13, n32]
 by_cases h1 : (c.toNat : Int) = 32
 ·rw [if_pos h1, decide_eq_true (show c.toNat = 32 by omega), Bool.or_true]
 ·rw [if_neg h1]
  by_cases h2 : (c.toNat : Int) ≥ 9
  ·rw [if_pos h2]
   congr 1
   rw [Bool.eq_iff_iff]
   simp only [Bool.or_eq_true, decide_eq_true_eq]
   omega
  ·rw [if_neg h2]
   congr 1
   symm
   rw [Bool.eq_false_iff]
   intro h
   simp only [Bool.or_eq_true, decide_eq_true_eq] at h
   omega
def trR (l : List UInt8) : List UInt8 := (l.reverse.dropWhile Lib.isSp).reverse
theorem trR_snoc (l : List UInt8) (c : UInt8) : trR (l ++ [c]) = if Lib.isSp c = true then trR l else l ++ [c] := by
 unfold trR
 rw [List.reverse_append, List.reverse_singleton, List.singleton_append, List.dropWhile_cons]
 split
 ·rfl
 ·rw [List.reverse_cons, List.reverse_reverse]
theorem trimR_l : ∀ (n : Nat) (l : List UInt8), l.length = n → n ≤ 100000 → Ev (fun k => spec_debTrim.l1 k (ofL l)) (ofL (trR l))
 | 0, l, h, hn => by
  have hl : l = [] := List.eq_nil_of_length_eq_zero h
  subst hl
  refine Ev.step (fun _ => by rw [spec_debTrim.l1]) ?_
  exact ev_neg (by rw [ofL_size]; simp) (ev_now rfl)
 | n + 1, l, h, hn => by
  rcases List.eq_nil_or_concat l with rfl | ⟨L, c, rfl⟩
  ·simp at h
  ·rw [List.concat_eq_append] at h ⊢
   have hL : L.length = n := by simpa using h
   have hs : (ofL (L ++ [c])).size = n + 1 := by rw [ofL_size]; exact h
   have hw : wrap64 (((ofL (L ++ [c])).size : Int) - 1) = (n : Int) := by rw [hs, wrap_in (by omega) (by omega)]; omega
   have hb : bt (ofL (L ++ [c])) (n : Int) = (c.toNat : Int) := by
    rw [bt_ofL _ n (by rw [h]; omega)]
    congr 2
    subst hL
    simp
   refine Ev.step (fun _ => by rw [spec_debTrim.l1, hw, hb, blank_f, hs]) (ev_pos (by omega) (ev_pos (by omega) (ev_pos (by omega) (ev_some ?_))))
   rw [trR_snoc]
   by_cases hc : Lib.isSp c = true
   ·rw [if_pos hc]
    refine ev_pos hc (ev_pos (by omega) ?_)
    have he : (ofL (L ++ [c])).extract 0 ((n : Int)).toNat = ofL L := by
     rw [ofL_extract, Int.toNat_natCast, List.drop_zero, List.take_left' hL]
    rw [he]
    exact trimR_l n L hL (by omega)
   ·rw [if_neg hc]
    exact ev_neg hc (ev_now rfl)
theorem trim_l : ∀ (n : Nat) (l : List UInt8), l.length = n → n ≤ 100000 → Ev (fun k => spec_debTrim.l0 k (ofL l)) (ofL (Lib.trimSpace l))
 | 0, l, h, hn => by
  have hl : l = [] := List.eq_nil_of_length_eq_zero h
  subst hl
  refine Ev.step (fun _ => by rw [spec_debTrim.l0]) ?_
  refine ev_neg (by rw [ofL_size]; simp) ?_
  exact Ev.step (fun _ => by rw [spec_debTrim.j1]) (trimR_l 0 [] rfl (by omega))
 | n + 1, l, h, hn => by
  cases l with
  | nil => simp at h
  | cons c r =>
   have hr : r.length = n := by simpa using h
   have hs : (ofL (c :: r)).size = n + 1 := by rw [ofL_size]; exact h
   have hb : bt (ofL (c :: r)) 0 = (c.toNat : Int) := bt_ofL (c :: r) 0 (by simp)
   refine Ev.step (fun _ => by rw [spec_debTrim.l0, hb, blank_f, hs]) (ev_pos (by omega) (ev_pos (by omega) (ev_some ?_)))
   by_cases hc : Lib.isSp c = true
   ·refine ev_pos hc (ev_pos (by omega) ?_)
    have he : (ofL (c :: r)).extract 1 (n + 1) = ofL r := by
     rw [ofL_extract, List.take_of_length_le (by rw [h]; omega)]
     rfl
    rw [he]
    refine ev_eq (trim_l n r hr (by omega)) ?_
    unfold Lib.trimSpace
    rw [List.dropWhile_cons, if_pos hc]
   ·refine ev_neg hc ?_
    refine ev_eq (Ev.step (fun _ => by rw [spec_debTrim.j1]) (trimR_l (n + 1) (c :: r) h hn)) ?_
    unfold Lib.trimSpace trR
    rw [List.dropWhile_cons, if_neg hc]
theorem trim_ev (l : List UInt8) (hl : l.length ≤ 100000) : Ev (fun k => spec_debTrim.f k (ofL l)) (ofL (Lib.trimSpace l)) := trim_l l.length l rfl hl
theorem trim_le (l : List UInt8) : (Lib.trimSpace l).length ≤ l.length := by
 unfold Lib.trimSpace
 rw [List.length_reverse]
 refine Nat.le_trans (List.dropWhile_sublist _).length_le ?_
 rw [List.length_reverse]
 exact (List.dropWhile_sublist _).length_le
theorem idxI_has (c : UInt8) (l : List UInt8) (h : idxI c l < 0) : l.contains c = false := by
 unfold idxI at h
 split at h
 ·rename_i h1
  exact (drop_nil_iff c l).1 h1
 ·omega
/-- A known text: no byte beyond 127, no byte 0. -/
def KnD (l : List UInt8) : Prop := (∀ c ∈ l, c.toNat < 128) ∧ l.contains 0 = false
theorem known_ev (l : List UInt8) (hl : l.length ≤ 100000) : ∃ b, Ev (fun k => spec_DebianKnown.f k (ofL l)) b ∧ (b = true → KnD l) := by
 obtain ⟨r, hr, hq⟩ := ascii_ev (ofL l) (by rw [ofL_size]; omega)
 have hi := index_ev 0 l (by omega)
 have h0 : (((0 : UInt8).toNat : Nat) : Int) = 0 := rfl
 rw [h0] at hi
 have hz := index_ev 58 (Lib.trimSpace l) (by have := trim_le l; omega)
 have h58 : (((58 : UInt8).toNat : Nat) : Int) = 58 := rfl
 rw [h58] at hz
 have tail : ∀ s : Bool, ∃ b, Ev (fun k => (spec_Ascii.f k (ofL l)).bind fun t => (if t = true then ((spec_indexOf.f k (ofL l) 0).bind fun t2 => (if t2 < 0 then (some (!s)) else (some false))) else (some false))) b ∧ (b = true → KnD l) := by
  intro s
  cases r with
  | false => exact ⟨false, Ev.bind hr (ev_f (ev_now rfl)), fun h => by cases h⟩
  | true =>
   by_cases hn : idxI 0 l < 0
   ·refine ⟨!s, Ev.bind hr (ev_t (Ev.bind hi (ev_pos hn (ev_now rfl)))), fun _ => ⟨fun c hc => ?_, idxI_has 0 l hn⟩⟩
    obtain ⟨i, h1, rfl⟩ := List.getElem_of_mem hc
    exact hq rfl i (by rw [ofL_size]; exact h1)
   ·exact ⟨false, Ev.bind hr (ev_t (Ev.bind hi (ev_neg hn (ev_now rfl)))), fun h => by cases h⟩
 unfold spec_DebianKnown.f
 obtain ⟨b0, e0, q0⟩ := tail false
 by_cases hs : ((ofL (Lib.trimSpace l)).size : Int) > 0
 ·obtain ⟨b1, e1, q1⟩ := tail (decide (idxI 58 (Lib.trimSpace l) ≥ 0))
  by_cases h43 : bt (ofL (Lib.trimSpace l)) 0 = 43
  ·exact ⟨b1, Ev.bind (trim_ev l hl) (ev_pos hs (ev_pos (by omega) (ev_pos h43 (Ev.bind hz e1)))), q1⟩
  ·by_cases h45 : bt (ofL (Lib.trimSpace l)) 0 = 45
   ·exact ⟨b1, Ev.bind (trim_ev l hl) (ev_pos hs (ev_pos (by omega) (ev_neg h43 (ev_pos h45 (Ev.bind hz e1))))), q1⟩
   ·exact ⟨b0, Ev.bind (trim_ev l hl) (ev_pos hs (ev_pos (by omega) (ev_neg h43 (ev_neg h45 e0)))), q0⟩
 ·exact ⟨b0, Ev.bind (trim_ev l hl) (ev_neg hs e0), q0⟩
theorem known_b (a : ByteArray) (h : a.size ≤ 1500) : ∃ r, Ev (fun k => spec_DebianKnown.f k a) r ∧ (r = true → KnD (bl a)) := by
 have := known_ev (bl a) (by rw [bl_length]; omega)
 rw [ofL_bl] at this
 exact this
theorem asc_bl {a : ByteArray} (h : ∀ c ∈ bl a, c.toNat < 128) : ascB a = true := by
 have := asc_of h
 rw [ofL_bl] at this
 exact this
theorem dcmp_f {a b : ByteArray} (ha : a.size ≤ 100000) (hb : b.size ≤ 100000) (ka : ∀ c ∈ bl a, c.toNat < 128) (kb : ∀ c ∈ bl b, c.toNat < 128) : impl_DebianCompare.f a b = some (match dbp (bl a), dbp (bl b) with
 | some x, some y => (dvC x y, true)
 | _, _ => (0, false)) := by
 unfold impl_DebianCompare.f
 rw [if_pos ⟨⟨ha, asc_bl ka⟩, hb, asc_bl kb⟩]
 rfl
end Go.Proofs.YtkcciinapkeaiaaDoor.Com

namespace Go.Proofs.YtkcciinapkeaiaaDoor.Com
open Go.RowKit Go.Proofs.YtkcciinapkeaiaaDoor.Z Go.Proofs.YtkcciinapkeaiaaDoor.Evs Go.Proofs.YtkcciinapkeaiaaDoor.By Go.Proofs.YtkcciinapkeaiaaDoorW.PrintWords Go.Proofs.YtkcciinapkeaiaaDoorW.PrintLast
set_option linter.unusedVariables false
set_option linter.unusedSimpArgs false

theorem isDigit_f (c : UInt8) : spec_isDigit.f (c.toNat : Int) = some (dg c) := by
 unfold spec_isDigit.f dg
 by_cases h : (c.toNat : Int) ≥ 48
 ·rw [if_pos h]
  congr 1
  rw [Bool.eq_iff_iff, decide_eq_true_eq, decide_eq_true_eq]
  omega
 ·rw [if_neg h]
  congr 1
  symm
  rw [decide_eq_false_iff_not]
  omega
/-- Digits alone, one at least. -/
def allD (l : List UInt8) : Bool := l.all dg && decide (0 < l.length)
theorem digits_l (l : List UInt8) (hl : l.length ≤ 140737488351232) (d : Nat) : ∀ i : Nat, i + d = l.length → Ev (fun k => spec_allDigits.l0 k (ofL l) (i : Int)) ((l.drop i).all dg && decide (0 < l.length)) := by
 have hs := ofL_size l
 induction d with
 | zero =>
  intro i h
  refine Ev.step (fun _ => by rw [spec_allDigits.l0]) (ev_neg (by omega) (ev_now ?_))
  rw [List.drop_of_length_le (by omega), hs]
  simp
 | succ d ih =>
  intro i h
  have hc := bt_ofL l i (by omega)
  refine Ev.step (fun _ => by rw [spec_allDigits.l0, hc, isDigit_f, Option.bind_some, wrap_nat (by omega)]) (ev_pos (by omega) (ev_pos (by omega) ?_))
  rw [List.drop_eq_getElem_cons (by omega), List.all_cons]
  cases e : dg (l[i]'(by omega)) with
  | true => exact ev_t (by simpa using ih (i + 1) (by omega))
  | false => exact ev_f (ev_now (by simp))
theorem digits_ev (l : List UInt8) (hl : l.length ≤ 140737488351232) : Ev (fun k => spec_allDigits.f k (ofL l)) (allD l) := digits_l l hl l.length 0 (by omega)
end Go.Proofs.YtkcciinapkeaiaaDoor.Com

namespace Go.Proofs.YtkcciinapkeaiaaDoor.Com
open Go Go.RowKit Go.Proofs.YtkcciinapkeaiaaDoor.Z Go.Proofs.YtkcciinapkeaiaaDoor.Evs Go.Proofs.YtkcciinapkeaiaaDoor.By Go.Proofs.YtkcciinapkeaiaaDoorW.PrintWords Go.Proofs.YtkcciinapkeaiaaDoorW.PrintLast
set_option linter.unusedVariables false
set_option linter.unusedSimpArgs false

end Go.Proofs.YtkcciinapkeaiaaDoor.Com

namespace Go.Proofs.YtkcciinapkeaiaaDoor.Cw
open Go Go.RowKit Go.Proofs.YtkcciinapkeaiaaDoor.Z Go.Proofs.YtkcciinapkeaiaaDoor.Evs Go.Proofs.YtkcciinapkeaiaaDoor.By Go.Proofs.YtkcciinapkeaiaaDoor.Bv Go.Proofs.YtkcciinapkeaiaaDoorW.PrintWords Go.Proofs.YtkcciinapkeaiaaDoorW.PrintLast
set_option linter.unusedVariables false
set_option linter.unusedSimpArgs false

/-- A number by its sign and magnitude. -/
def zv (neg : Bool) (l : List UInt8) : Int := if neg then -beV l else beV l
def tidyL (l : List UInt8) : List UInt8 := l.dropWhile (· == 0)
theorem tidy_val (l : List UInt8) : beV (tidyL l) = beV l := by
 induction l with
 | nil => rfl
 | cons c l ih =>
  unfold tidyL
  rw [List.dropWhile_cons]
  split
  ·rename_i h
   have h0 : c = 0 := by simpa using h
   subst h0
   rw [show List.dropWhile (fun x => x == 0) l = tidyL l from rfl, ih, beV]
   have : ((0 : UInt8).toNat : Int) = 0 := rfl
   rw [this, Int.zero_mul, Int.zero_add]
  ·rfl
theorem tidy_head (l : List UInt8) (c : UInt8) (r : List UInt8) (h : tidyL l = c :: r) : 1 ≤ c.toNat := by
 induction l with
 | nil => simp [tidyL] at h
 | cons x l ih =>
  unfold tidyL at h
  rw [List.dropWhile_cons] at h
  split at h
  ·exact ih h
  ·rename_i hx
   obtain ⟨rfl, _⟩ := List.cons.inj h
   rcases Nat.eq_zero_or_pos x.toNat with h0 | h0
   ·exact absurd (by simpa using UInt8.toNat_inj.1 (show x.toNat = (0 : UInt8).toNat from h0)) hx
   ·exact h0
theorem isEmpty_ofL (l : List UInt8) : (ofL l).toList.isEmpty = l.isEmpty := by rw [toList_ofL]
theorem tidy_l (neg : Bool) (n : Nat) : ∀ l : List UInt8, l.length = n → n ≤ 140737488351232 → Ev (fun k => spec_numTidy.l0 k neg (ofL l)) (neg && !(tidyL l).isEmpty, ofL (tidyL l)) := by
 induction n with
 | zero =>
  intro l h hl
  have : l = [] := List.length_eq_zero_iff.1 h
  subst this
  refine Ev.step (fun _ => by rw [spec_numTidy.l0]) (ev_neg (by rw [ofL_size]; simp) ?_)
  cases neg with
  | true => exact ev_t (ev_now (by rw [isEmpty_ofL]; rfl))
  | false => exact ev_f (ev_now rfl)
 | succ n ih =>
  intro l h hl
  obtain ⟨c, r, rfl⟩ : ∃ c r, l = c :: r := by
   cases l with
   | nil => simp at h
   | cons c r => exact ⟨c, r, rfl⟩
  have hb : bt (ofL (c :: r)) 0 = (c.toNat : Int) := bt_ofL (c :: r) 0 (by simp)
  have hs := ofL_size (c :: r)
  have hx : (ofL (c :: r)).extract 1 (ofL (c :: r)).size = ofL r := by rw [hs, ofL_extract, List.take_of_length_le (Nat.le_refl _)]; rfl
  refine Ev.step (fun _ => by rw [spec_numTidy.l0, hb, hx]) (ev_pos (by omega) (ev_pos (by omega) ?_))
  by_cases h0 : c = 0
  ·subst h0
   refine ev_pos rfl (ev_pos (by omega) ?_)
   exact ih r (by simpa using h) (by omega)
  ·have hne : ¬ (c.toNat : Int) = 0 := fun hh => h0 (UInt8.toNat_inj.1 (show c.toNat = (0 : UInt8).toNat by have : (0 : UInt8).toNat = 0 := rfl; omega))
   have ht : tidyL (c :: r) = c :: r := by
    unfold tidyL
    rw [List.dropWhile_cons, if_neg (by simpa using h0)]
   rw [ht]
   refine ev_neg hne ?_
   cases neg with
   | true => exact ev_t (ev_now (by rw [isEmpty_ofL]; rfl))
   | false => exact ev_f (ev_now rfl)
theorem tidy_ev (neg : Bool) (l : List UInt8) (hl : l.length ≤ 140737488351232) : Ev (fun k => spec_numTidy.f k neg (ofL l)) (neg && !(tidyL l).isEmpty, ofL (tidyL l)) := tidy_l neg l.length l rfl hl
theorem less_val : ∀ a b : List UInt8, a.length = b.length → (Op.bytesLess a b = true ↔ beV a < beV b)
 | [], [], _ => by simp [Op.bytesLess, beV]
 | [], _ :: _, h => by simp at h
 | _ :: _, [], h => by simp at h
 | x :: a, y :: b, h => by
  have hl : a.length = b.length := by simpa using h
  have ih := less_val a b hl
  have ha := beV_lt a
  have hb := beV_lt b
  have na := beV_nonneg a
  have nb := beV_nonneg b
  unfold beV
  rw [hl] at ha ⊢
  simp only [Op.bytesLess, Bool.or_eq_true, Bool.and_eq_true, decide_eq_true_eq, beq_iff_eq, ih]
  have hP := pow256_pos b.length
  rcases Nat.lt_trichotomy x.toNat y.toNat with h1 | h1 | h1
  ·have hlt : x < y := h1
   have := mul_step hP (show (x.toNat : Int) + 1 ≤ (y.toNat : Int) by omega)
   exact ⟨fun _ => by omega, fun _ => .inl hlt⟩
  ·have e : x = y := UInt8.toNat_inj.1 h1
   subst e
   have hn : ¬ x < x := fun h' => by have h' : x.toNat < x.toNat := h'; omega
   constructor
   ·rintro (h' | ⟨_, h'⟩)
    ·exact absurd h' hn
    ·omega
   ·intro h'
    exact .inr ⟨rfl, by omega⟩
  ·have hn : ¬ x < y := fun h' => by have h' : x.toNat < y.toNat := h'; omega
   have hne : ¬ x = y := fun e => by subst e; omega
   have := mul_step hP (show (y.toNat : Int) + 1 ≤ (x.toNat : Int) by omega)
   constructor
   ·rintro (h' | ⟨h', _⟩)
    ·exact absurd h' hn
    ·exact absurd h' hne
   ·intro h'
    omega
theorem order_val (a b : List UInt8) (h : a.length = b.length) : spec_order.f (ofL a) (ofL b) = some (cmpZ (beV a) (beV b)) := by
 unfold spec_order.f cmpZ
 rw [toList_ofL, toList_ofL]
 by_cases h1 : beV a < beV b
 ·rw [if_pos ((less_val a b h).2 h1), if_pos h1]
 ·rw [if_neg (fun h' => h1 ((less_val a b h).1 h')), if_neg h1]
  by_cases h2 : beV b < beV a
  ·rw [if_pos ((less_val b a h.symm).2 h2), if_pos h2]
  ·rw [if_neg (fun h' => h2 ((less_val b a h.symm).1 h')), if_neg h2]
theorem len_val (a b : List UInt8) (h : a.length < b.length) (c : UInt8) (r : List UInt8) (hb : b = c :: r) (hc : 1 ≤ c.toNat) : beV a < beV b := by
 subst hb
 have h1 := beV_lt a
 have h2 := beV_nonneg r
 have h3 : (256 : Int) ^ a.length ≤ 256 ^ r.length := by
  have : (256 : Nat) ^ a.length ≤ 256 ^ r.length := Nat.pow_le_pow_right (by decide) (by simp at h; omega)
  have e2 : ((256 ^ a.length : Nat) : Int) ≤ ((256 ^ r.length : Nat) : Int) := Int.ofNat_le.2 this
  rwa [Int.natCast_pow, Int.natCast_pow] at e2
 have h4 : 1 * (256 : Int) ^ r.length ≤ (c.toNat : Int) * 256 ^ r.length := Int.mul_le_mul_of_nonneg_right (by omega) (by have := pow256_pos r.length; omega)
 rw [show beV (c :: r) = (c.toNat : Int) * 256 ^ r.length + beV r from rfl]
 omega
theorem orderInts_f (a b : Int) : spec_orderInts.f a b = some (cmpZ a b) := by
 unfold spec_orderInts.f cmpZ
 split
 ·rfl
 ·split
  ·rfl
  ·rfl
theorem cmpZ_same {a b c d : Int} (h1 : a < b ↔ c < d) (h2 : b < a ↔ d < c) : cmpZ a b = cmpZ c d := by
 unfold cmpZ
 by_cases x : a < b
 ·rw [if_pos x, if_pos (h1.1 x)]
 ·rw [if_neg x, if_neg (fun h => x (h1.2 h))]
  by_cases y : b < a
  ·rw [if_pos y, if_pos (h2.1 y)]
  ·rw [if_neg y, if_neg (fun h => y (h2.2 h))]
theorem j2_ev (n0 n1 : Bool) (a b : List UInt8) : Ev (fun k => spec_intOrder.j2 k n0 (ofL (tidyL a)) n1 (ofL (tidyL b))) (cmpZ (beV a) (beV b)) := by
 have va := tidy_val a
 have vb := tidy_val b
 refine Ev.step (fun _ => by rw [spec_intOrder.j2, ofL_size, ofL_size]) ?_
 by_cases h : (tidyL a).length = (tidyL b).length
 ·refine ev_pos (by omega) ?_
  rw [order_val _ _ h, va, vb]
  exact ev_now rfl
 ·refine ev_neg (by omega) ?_
  rw [orderInts_f]
  refine ev_now ?_
  by_cases h1 : (tidyL a).length < (tidyL b).length
  ·obtain ⟨c, r, hb⟩ : ∃ c r, tidyL b = c :: r := by
    cases hx : tidyL b with
    | nil => rw [hx] at h1; simp at h1
    | cons c r => exact ⟨c, r, rfl⟩
   have := len_val _ _ h1 c r hb (tidy_head b c r hb)
   exact cmpZ_same (by omega) (by omega)
  ·obtain ⟨c, r, ha⟩ : ∃ c r, tidyL a = c :: r := by
    cases hx : tidyL a with
    | nil => rw [hx, List.length_nil] at h h1; omega
    | cons c r => exact ⟨c, r, rfl⟩
   have := len_val (tidyL b) (tidyL a) (by omega) c r ha (tidy_head a c r ha)
   exact cmpZ_same (by omega) (by omega)
theorem tidy_empty {l : List UInt8} (h : (tidyL l).isEmpty = true) : beV l = 0 := by
 rw [← tidy_val, List.isEmpty_iff.1 h]
 rfl
theorem tidy_full {l : List UInt8} (h : (tidyL l).isEmpty = false) : 1 ≤ beV l := by
 obtain ⟨c, r, hc⟩ : ∃ c r, tidyL l = c :: r := by
  cases hx : tidyL l with
  | nil => rw [hx] at h; simp at h
  | cons c r => exact ⟨c, r, rfl⟩
 have := len_val [] (tidyL l) (by rw [hc]; simp) c r hc (tidy_head l c r hc)
 rw [tidy_val] at this
 have e : beV [] = 0 := rfl
 omega
theorem intOrder_ev (n0 n1 : Bool) (a b : List UInt8) (ha : a.length ≤ 140737488351232) (hb : b.length ≤ 140737488351232) : Ev (fun k => spec_intOrder.f k n0 (ofL a) n1 (ofL b)) (cmpZ (zv n0 a) (zv n1 b)) := by
 unfold spec_intOrder.f
 refine Ev.bind (tidy_ev n0 a ha) (Ev.bind (tidy_ev n1 b hb) ?_)
 unfold zv
 have na := beV_nonneg a
 have nb := beV_nonneg b
 have step : ∀ x y : Bool, x = true → y = true → x = y := fun x y hx hy => hx.trans hy.symm
 cases h0 : (n0 && !(tidyL a).isEmpty) with
 | true =>
  obtain ⟨rfl, e0⟩ : n0 = true ∧ (tidyL a).isEmpty = false := by simpa using h0
  have pa := tidy_full e0
  refine ev_t ?_
  cases h1 : (n1 && !(tidyL b).isEmpty) with
  | true =>
   obtain ⟨rfl, e1⟩ : n1 = true ∧ (tidyL b).isEmpty = false := by simpa using h1
   refine Ev.step (fun _ => by rw [spec_intOrder.j0]) (ev_neg (by simp) (ev_t ?_))
   refine Ev.step (fun _ => by rw [spec_intOrder.j1]) (ev_f (ev_t ?_))
   refine ev_eq (j2_ev _ _ b a) ?_
   exact cmpZ_same (by first | (simp; done) | (simp; omega)) (by first | (simp; done) | (simp; omega))
  | false =>
   have hb0 : 0 ≤ (if n1 = true then -beV b else beV b) := by
    cases n1 with
    | false => simpa using nb
    | true =>
     have := tidy_empty (show (tidyL b).isEmpty = true by simpa using h1)
     rw [this]
     decide
   refine Ev.step (fun _ => by rw [spec_intOrder.j0]) (ev_pos (by simp) (ev_now ?_))
   unfold cmpZ
   rw [if_pos (by simp; omega)]
 | false =>
  have ha0 : (if n0 = true then -beV a else beV a) = beV a := by
   cases n0 with
   | false => rfl
   | true =>
    have := tidy_empty (show (tidyL a).isEmpty = true by simpa using h0)
    rw [this]
    rfl
  rw [ha0]
  refine ev_f (Ev.step (fun _ => by rw [spec_intOrder.j0]) (ev_f (ev_f ?_)))
  cases h1 : (n1 && !(tidyL b).isEmpty) with
  | true =>
   obtain ⟨rfl, e1⟩ : n1 = true ∧ (tidyL b).isEmpty = false := by simpa using h1
   have pb := tidy_full e1
   refine Ev.step (fun _ => by rw [spec_intOrder.j1]) (ev_t (ev_now ?_))
   unfold cmpZ
   rw [if_neg (by simp; omega), if_pos (by simp; omega)]
  | false =>
   have hb0 : (if n1 = true then -beV b else beV b) = beV b := by
    cases n1 with
    | false => rfl
    | true =>
     have := tidy_empty (show (tidyL b).isEmpty = true by simpa using h1)
     rw [this]
     rfl
   rw [hb0]
   exact Ev.step (fun _ => by rw [spec_intOrder.j1]) (ev_f (ev_f (j2_ev _ _ a b)))
end Go.Proofs.YtkcciinapkeaiaaDoor.Cw

namespace Go.Proofs.YtkcciinapkeaiaaDoor.Com
open Go Go.RowKit Go.Proofs.YtkcciinapkeaiaaDoor.Z Go.Proofs.YtkcciinapkeaiaaDoor.Evs Go.Proofs.YtkcciinapkeaiaaDoor.By Go.Proofs.YtkcciinapkeaiaaDoor.Bv Go.Proofs.YtkcciinapkeaiaaDoorW.PrintWords Go.Proofs.YtkcciinapkeaiaaDoorW.PrintLast
set_option linter.unusedVariables false
set_option linter.unusedSimpArgs false

theorem rd_mid (pre rest : List Int) (x : Int) : rd (pre ++ x :: rest) (pre.length : Int) = x := by
 rw [rd_nat, List.getD_eq_getElem?_getD, List.getElem?_append_right (Nat.le_refl _), Nat.sub_self]
 rfl
theorem set_mid (pre rest : List Int) (x y : Int) : (pre ++ x :: rest).set pre.length y = (pre ++ [y]) ++ rest := by
 rw [List.set_append_right _ _ (Nat.le_refl _), Nat.sub_self]
 simp
theorem int_l1 (s : List UInt8) (i : Int) (r : Bool × ByteArray) : ∀ (rest pre : List Int) (c : Int), Byt rest → 0 ≤ c → c ≤ 9 → pre.length + rest.length ≤ 1000000 →
  Ev (fun k => spec_intOf.l0 k (ofL s) (pre ++ mulA rest c) (wrap64 (i + 1))) r → Ev (fun k => spec_intOf.l1 k (ofL s) (pre ++ rest) i c (pre.length : Int)) r
 | [], pre, c, _, h0, h9, hl, hk => by
  rw [List.append_nil]
  refine Ev.step (fun _ => by rw [spec_intOf.l1]) ?_
  refine ev_neg (by omega) ?_
  rw [mulA] at hk
  have hl' : pre.length + 0 ≤ 1000000 := hl
  by_cases hc : 0 < c
  ·rw [if_pos hc] at hk
   refine ev_pos hc (ev_pos (by omega) ?_)
   have e : c % 256 = c := by omega
   rw [e]
   exact hk
  ·rw [if_neg hc, List.append_nil] at hk
   exact ev_neg (by omega) hk
 | x :: rest, pre, c, hb, h0, h9, hl, hk => by
  have hx := hb.head
  have hl' : (x :: rest).length = rest.length + 1 := rfl
  have hlen : (pre ++ x :: rest).length = pre.length + (x :: rest).length := List.length_append
  have e1 : wrap64 (rd (pre ++ x :: rest) (pre.length : Int)) = x := by rw [rd_mid, wrap_in (by omega) (by omega)]
  have e2 : wrap64 (10 * x) = 10 * x := wrap_in (by omega) (by omega)
  have e3 : wrap64 (c + 10 * x) = c + 10 * x := wrap_in (by omega) (by omega)
  have e4 : Int.tmod (c + 10 * x) 256 % 256 = (c + 10 * x) % 256 := by
   rw [Int.tmod_eq_emod_of_nonneg (by omega)]
   omega
  have e5 : wrap64 (Int.tdiv (c + 10 * x) 256) = (c + 10 * x) / 256 := by
   rw [Int.tdiv_eq_ediv_of_nonneg (by omega), wrap_in (by omega) (by omega)]
  have e6 : wrap64 ((pre.length : Int) + 1) = ((pre ++ [(c + 10 * x) % 256]).length : Int) := by
   rw [wrap_nat (by omega), List.length_append, List.length_singleton]
  refine Ev.step (fun _ => by rw [spec_intOf.l1, e1, e2, e3, e4, e5, Int.toNat_natCast, set_mid, e6]) ?_
  refine ev_pos (by omega) (ev_pos (by omega) ?_)
  refine int_l1 s i r rest (pre ++ [(c + 10 * x) % 256]) ((c + 10 * x) / 256) hb.tail (by omega) (by omega) (by rw [List.length_append, List.length_singleton]; omega) ?_
  rw [mulA] at hk
  rw [List.append_assoc]
  exact hk
theorem int_l2 (m : List Int) (hm : m.length ≤ 1000000) (d : Nat) : ∀ j : Nat, j + d = m.length → Ev (fun k => spec_intOf.l2 k m (List.replicate d 0 ++ (m.take j).reverse) (j : Int)) (false, strOfNums m.reverse) := by
 induction d with
 | zero =>
  intro j h
  refine Ev.step (fun _ => by rw [spec_intOf.l2]) (ev_neg (by omega) (ev_now ?_))
  rw [List.take_of_length_le (by omega)]
  rfl
 | succ d ih =>
  intro j h
  have hj : j < m.length := by omega
  have e1 : wrap64 ((m.length : Int) - 1) = (m.length : Int) - 1 := wrap_in (by omega) (by omega)
  have e2 : wrap64 ((m.length : Int) - 1 - (j : Int)) = (d : Int) := by rw [wrap_in (by omega) (by omega)]; omega
  have e3 : rd m (j : Int) = m[j] := by
   rw [rd_nat, List.getD_eq_getElem?_getD, List.getElem?_eq_getElem hj]
   rfl
  have e4 : (List.replicate (d + 1) (0 : Int) ++ (m.take j).reverse).set d m[j] = List.replicate d 0 ++ (m.take (j + 1)).reverse := by
   rw [List.take_succ_eq_append_getElem hj, List.reverse_append, List.reverse_singleton, List.replicate_succ', List.append_assoc, List.set_append_right _ _ (by simp), List.length_replicate, Nat.sub_self]
   rfl
  have hlen : (List.replicate (d + 1) (0 : Int) ++ (m.take j).reverse).length = m.length := by
   rw [List.length_append, List.length_replicate, List.length_reverse, List.length_take]
   omega
  refine Ev.step (fun _ => by rw [spec_intOf.l2, e1, e2, e3, Int.toNat_natCast, e4, wrap_nat (by omega)]) ?_
  exact ev_pos (by omega) (ev_pos (by omega) (ev_pos (by omega) (ev_pos (by omega) (ih (j + 1) (by omega)))))
theorem int_l0 (s : List UInt8) (hs : s.length ≤ 100000) (hd : s.all dg = true) (d : Nat) : ∀ i : Nat, i + d = s.length → Ev (fun k => spec_intOf.l0 k (ofL s) (magL (s.take i)) (i : Int)) (false, strOfNums (magL s).reverse) := by
 have hz := ofL_size s
 induction d with
 | zero =>
  intro i h
  have hm := (mag_all s.length s rfl hd).2.2.2
  rw [List.take_of_length_le (by omega)]
  refine Ev.step (fun _ => by rw [spec_intOf.l0, Int.toNat_natCast]) ?_
  refine ev_neg (by omega) (ev_pos (by omega) (ev_pos (by omega) ?_))
  have := int_l2 (magL s) (by omega) (magL s).length 0 (by omega)
  simpa using this
 | succ d ih =>
  intro i h
  have hi : i < s.length := by omega
  have hc := bt_ofL s i hi
  have hall : (s.take i).all dg = true := by
   rw [List.all_eq_true] at *
   exact fun c hc => hd c (List.mem_of_mem_take hc)
  obtain ⟨m1, m2, m3, m4⟩ := mag_all (s.take i).length (s.take i) rfl hall
  have hdi : dg s[i] = true := List.all_eq_true.1 hd _ (List.getElem_mem hi)
  have hr := dv_range hdi
  have e1 : ((s[i].toNat : Int) - 48) % 256 = dv s[i] := by unfold dv at *; omega
  have hl : (s.take i).length ≤ i := List.length_take_le _ _
  refine Ev.step (fun _ => by rw [spec_intOf.l0, hc, e1]) ?_
  refine ev_pos (by omega) (ev_pos (by omega) ?_)
  have nx := ih (i + 1) (by omega)
  rw [List.take_succ_eq_append_getElem hi, magL_snoc, ← wrap_nat (by omega)] at nx
  exact int_l1 s (i : Int) _ (magL (s.take i)) [] (dv s[i]) m2 hr.1 hr.2 (by simp only [List.length_nil]; omega) nx
theorem intOf_ev (s : List UInt8) (hs : s.length ≤ 100000) (hd : s.all dg = true) : Ev (fun k => spec_intOf.f k (ofL s)) (false, ofL (magB s)) := by
 have := int_l0 s hs hd s.length 0 (by omega)
 rw [← magB_nums s hd, strOf_numsOf] at this
 exact this
/-- A sign ahead, and what is behind. -/
def sgn : List UInt8 → Bool × List UInt8
 | [] => (false, [])
 | c :: r => if c = 43 then (false, r) else if c = 45 then (true, r) else (false, c :: r)
/-- The number that a text is, as the reference reads it. -/
def numS (s : List UInt8) : Bool × List UInt8 × Bool := if allD (sgn s).2 then ((sgn s).1 && !(magB (sgn s).2).isEmpty, magB (sgn s).2, true) else (false, [], false)
def ofN (p : Bool × List UInt8 × Bool) : Bool × ByteArray × Bool := (p.1, ofL p.2.1, p.2.2)
theorem allD_all {l : List UInt8} (h : allD l = true) : l.all dg = true := by
 unfold allD at h
 rw [Bool.and_eq_true] at h
 exact h.1
theorem num_j1 (t : List UInt8) (ht : t.length ≤ 100000) (neg : Bool) : Ev (fun k => spec_Number.j1 k (ofL t) neg) (ofN (if allD t then (neg && !(magB t).isEmpty, magB t, true) else (false, [], false))) := by
 refine Ev.step (fun _ => by rw [spec_Number.j1]) (Ev.bind (digits_ev t (by omega)) ?_)
 cases h : allD t with
 | false => exact ev_f (ev_now rfl)
 | true =>
  refine ev_t (Ev.bind (intOf_ev t ht (allD_all h)) ?_)
  cases neg with
  | false => exact ev_f (ev_now rfl)
  | true =>
   refine ev_t (ev_now ?_)
   show (!(ofL (magB t)).toList.isEmpty, ofL (magB t), true) = _
   rw [toList_ofL]
   rfl
theorem n43 (c : UInt8) : ((c.toNat : Int) = 43) ↔ c = 43 := ⟨fun h => UInt8.toNat_inj.1 (by have : (43 : UInt8).toNat = 43 := rfl; omega), fun h => by rw [h]; rfl⟩
theorem n45 (c : UInt8) : ((c.toNat : Int) == 45) = decide (c = 45) := by
 rw [Bool.eq_iff_iff, beq_iff_eq, decide_eq_true_iff]
 exact ⟨fun h => UInt8.toNat_inj.1 (by have : (45 : UInt8).toNat = 45 := rfl; omega), fun h => by rw [h]; rfl⟩
theorem number_ev (s : List UInt8) (hs : s.length ≤ 100000) : Ev (fun k => spec_Number.f k (ofL s)) (ofN (numS s)) := by
 unfold spec_Number.f
 cases s with
 | nil =>
  refine ev_neg (by rw [ofL_size]; simp) ?_
  refine Ev.step (fun _ => by rw [spec_Number.j0]) ?_
  exact ev_f (num_j1 [] (by simp) false)
 | cons c r =>
  have hb : bt (ofL (c :: r)) 0 = (c.toNat : Int) := bt_ofL (c :: r) 0 (by simp)
  have hz := ofL_size (c :: r)
  have hl : (c :: r).length = r.length + 1 := rfl
  have hx : (ofL (c :: r)).extract 1 (ofL (c :: r)).size = ofL r := by
   rw [ofL_size, ofL_extract, List.take_length]
   rfl
  rw [hb, n45]
  refine ev_pos (by omega) (ev_pos (by omega) ?_)
  by_cases h1 : c = 43
  ·refine ev_pos ((n43 c).2 h1) ?_
   refine Ev.step (fun _ => by rw [spec_Number.j0, hb, n45, hx]) ?_
   refine ev_t (ev_pos (by omega) (ev_pos (by omega) ?_))
   have h2 : ¬ c = 45 := fun e => by rw [h1] at e; cases e
   rw [decide_eq_false h2, numS, show sgn (c :: r) = (false, r) from if_pos h1]
   exact num_j1 r (by omega) false
  ·refine ev_neg (fun h => h1 ((n43 c).1 h)) ?_
   by_cases h2 : c = 45
   ·rw [decide_eq_true h2]
    refine Ev.step (fun _ => by rw [spec_Number.j0, hb, n45, hx, decide_eq_true h2]) ?_
    refine ev_t (ev_pos (by omega) (ev_pos (by omega) ?_))
    rw [numS, show sgn (c :: r) = (true, r) from (if_neg h1).trans (if_pos h2)]
    exact num_j1 r (by omega) true
   ·rw [decide_eq_false h2]
    refine Ev.step (fun _ => by rw [spec_Number.j0]) ?_
    rw [numS, show sgn (c :: r) = (false, c :: r) from (if_neg h1).trans (if_neg h2)]
    exact ev_f (num_j1 (c :: r) (by omega) false)
end Go.Proofs.YtkcciinapkeaiaaDoor.Com

namespace Go.Proofs.YtkcciinapkeaiaaDoor.Com
open Go Go.RowKit Go.Proofs.YtkcciinapkeaiaaDoor.Z Go.Proofs.YtkcciinapkeaiaaDoor.Evs Go.Proofs.YtkcciinapkeaiaaDoor.By Go.Proofs.YtkcciinapkeaiaaDoor.Bv Go.Proofs.YtkcciinapkeaiaaDoor.Ss Go.Proofs.YtkcciinapkeaiaaDoorW.PrintWords Go.Proofs.YtkcciinapkeaiaaDoorW.PrintLast
set_option linter.unusedVariables false
set_option linter.unusedSimpArgs false
end Go.Proofs.YtkcciinapkeaiaaDoor.Com

namespace Go.Proofs.YtkcciinapkeaiaaDoor.Com
open Go Go.RowKit Go.Proofs.YtkcciinapkeaiaaDoor.Z Go.Proofs.YtkcciinapkeaiaaDoor.Evs Go.Proofs.YtkcciinapkeaiaaDoor.By Go.Proofs.YtkcciinapkeaiaaDoor.Lx Go.Proofs.YtkcciinapkeaiaaDoorW.PrintWords Go.Proofs.YtkcciinapkeaiaaDoorW.PrintLast
set_option linter.unusedVariables false
set_option linter.unusedSimpArgs false
/-! digits -/
/-! weights -/
/-! the last hyphen -/
/-! a version parsed -/
end Go.Proofs.YtkcciinapkeaiaaDoor.Com

namespace Go.Proofs.YtkcciinapkeaiaaDoor.Com
open Go Go.RowKit Go.Proofs.YtkcciinapkeaiaaDoor.Z Go.Proofs.YtkcciinapkeaiaaDoor.Evs Go.Proofs.YtkcciinapkeaiaaDoor.By Go.Proofs.YtkcciinapkeaiaaDoor.Lx Go.Proofs.YtkcciinapkeaiaaDoorW.PrintWords Go.Proofs.YtkcciinapkeaiaaDoorW.PrintLast
set_option linter.unusedVariables false
set_option linter.unusedSimpArgs false
end Go.Proofs.YtkcciinapkeaiaaDoor.Com

namespace Go.Proofs.YtkcciinapkeaiaaDoor.Com
open Go.RowKit Go.Proofs.YtkcciinapkeaiaaDoor.Z Go.Proofs.YtkcciinapkeaiaaDoor.Evs Go.Proofs.YtkcciinapkeaiaaDoorW.PrintWords Go.Proofs.YtkcciinapkeaiaaDoorW.PrintLast
set_option linter.unusedVariables false
set_option linter.unusedSimpArgs false

/-- short: an answer; where it is true the list is short and its texts are. -/
theorem short_l (l : List ByteArray) (hl : (l.length : Int) < 9223372036854775807) (d : Nat) : ∀ i : Nat, i + d = l.length →
  ∃ b, Ev (fun k => laws_short.l0 k l l (l.length : Int) (i : Int)) b ∧ (b = true → l.length ≤ 150 ∧ ∀ j, i ≤ j → j < l.length → (l.getD j ByteArray.empty).size ≤ 1500) := by
 induction d with
 | zero =>
  intro i h
  exact ⟨_, Ev.step (fun _ => by rw [laws_short.l0]) (ev_neg (by omega) (Ev.now _)), fun hb => ⟨by simp at hb; omega, fun j h1 h2 => by omega⟩⟩
 | succ d ih =>
  intro i h
  obtain ⟨b, hb, hq⟩ := ih (i + 1) (by omega)
  by_cases c : ((rdOf ByteArray.empty l (i : Int)).size : Int) > 1500
  ·exact ⟨false, Ev.step (fun _ => by rw [laws_short.l0]) (ev_pos (by omega) (ev_pos (by omega) (ev_pos (by omega) (ev_pos c (Ev.now _))))), fun h => by cases h⟩
  ·refine ⟨b, Ev.step (fun _ => by rw [laws_short.l0, wrap_nat (by omega)]) (ev_pos (by omega) (ev_pos (by omega) (ev_pos (by omega) (ev_neg c hb)))), fun h => ⟨(hq h).1, fun j h1 h2 => ?_⟩⟩
   by_cases e : j = i
   ·subst e; rw [rdOf_nat] at c; omega
   ·exact (hq h).2 j (by omega) h2
theorem short_ev (l : List ByteArray) (hl : (l.length : Int) < 9223372036854775807) : ∃ b, Ev (fun k => laws_short.f k l) b ∧ (b = true → l.length ≤ 150 ∧ ∀ j, j < l.length → (l.getD j ByteArray.empty).size ≤ 1500) := by
 obtain ⟨b, hb, hq⟩ := short_l l hl l.length 0 (by omega)
 exact ⟨b, hb, fun h => ⟨(hq h).1, fun j hj => (hq h).2 j (by omega) hj⟩⟩

theorem short4 (a b c d : ByteArray) : ∃ r, Ev (fun k => laws_short.f k [a, b, c, d]) r ∧ (r = true → a.size ≤ 1500 ∧ b.size ≤ 1500 ∧ c.size ≤ 1500 ∧ d.size ≤ 1500) := by
 obtain ⟨r, hr, hq⟩ := short_ev [a, b, c, d] (by simp)
 exact ⟨r, hr, fun h => ⟨(hq h).2 0 (by simp), (hq h).2 1 (by simp), (hq h).2 2 (by simp), (hq h).2 3 (by simp)⟩⟩
end Go.Proofs.YtkcciinapkeaiaaDoor.Com

namespace Go.Proofs.YtkcciinapkeaiaaDoor.Com
open Go.RowKit Go.Proofs.YtkcciinapkeaiaaDoor.Z Go.Proofs.YtkcciinapkeaiaaDoor.Evs Go.Proofs.YtkcciinapkeaiaaDoor.By Go.Proofs.YtkcciinapkeaiaaDoorW.PrintWords Go.Proofs.YtkcciinapkeaiaaDoorW.PrintLast
set_option linter.unusedVariables false
set_option linter.unusedSimpArgs false

theorem plain_eq (a c : UInt8) : ((a.toNat : Int) == (c.toNat : Int)) = (a == c) := by
 rw [Bool.eq_iff_iff, beq_iff_eq, beq_iff_eq]
 exact ⟨fun h => UInt8.toNat_inj.1 (by omega), fun h => by rw [h]⟩
/-- The inner loop: is the byte one of those told, or was it good already. -/
theorem plain_1 (s m : List UInt8) (hm : m.length ≤ 1000) (i : Nat) (c : UInt8) (r : Bool) (hno : Ev (fun k => laws_plain.l0 k (ofL s) (ofL m) (wrap64 ((i : Int) + 1))) r) (d : Nat) :
  ∀ (j : Nat) (b : Bool), j + d = m.length → Ev (fun k => laws_plain.l1 k (ofL s) (ofL m) (i : Int) (c.toNat : Int) b (j : Int)) ((b || (m.drop j).contains c) && r) := by
 have hs := ofL_size m
 induction d with
 | zero =>
  intro j b h
  refine Ev.step (fun _ => by rw [laws_plain.l1]) (ev_neg (by omega) ?_)
  rw [List.drop_of_length_le (by omega)]
  cases b with
  | true => exact ev_t (by simpa using hno)
  | false => exact ev_f (ev_now (by simp))
 | succ d ih =>
  intro j b h
  have hj : j < m.length := by omega
  have hc := bt_ofL m j hj
  have e : m.drop j = m[j] :: m.drop (j + 1) := List.drop_eq_getElem_cons hj
  refine Ev.step (fun _ => by rw [laws_plain.l1, hc, plain_eq, wrap_nat (by omega)]) (ev_pos (by omega) ?_)
  cases b with
  | true =>
   refine ev_t ?_
   have := ih (j + 1) true (by omega)
   simpa using this
  | false =>
   refine ev_f (ev_pos (by omega) ?_)
   have := ih (j + 1) (c == m[j]) (by omega)
   rw [e, List.contains_cons]
   simpa using this
def plainC (m : List UInt8) (c : UInt8) : Bool := dg c || lt c || m.contains c
theorem plain_l (s m : List UInt8) (hs0 : s.length ≤ 140737488351232) (hm : m.length ≤ 1000) (d : Nat) : ∀ i : Nat, i + d = s.length → Ev (fun k => laws_plain.l0 k (ofL s) (ofL m) (i : Int)) ((s.drop i).all (plainC m) && !s.isEmpty) := by
 have hs := ofL_size s
 induction d with
 | zero =>
  intro i h
  refine Ev.step (fun _ => by rw [laws_plain.l0]) (ev_neg (by omega) (ev_now ?_))
  rw [List.drop_of_length_le (by omega), toList_ofL]
  simp
 | succ d ih =>
  intro i h
  have hi : i < s.length := by omega
  have hc := bt_ofL s i hi
  have hw : wrap64 ((i : Int) + 1) = ((i + 1 : Nat) : Int) := wrap_nat (by omega)
  have nx := ih (i + 1) (by omega)
  rw [← hw] at nx
  have inner : ∀ b : Bool, b = (dg s[i] || lt s[i]) → Ev (fun k => laws_plain.j1 k (ofL s) (ofL m) (i : Int) (s[i].toNat : Int) b) ((s.drop i).all (plainC m) && !s.isEmpty) := by
   intro b hb
   refine Ev.step (fun _ => by rw [laws_plain.j1]) ?_
   have := plain_1 s m hm i s[i] _ nx m.length 0 b (by omega)
   rw [List.drop_zero] at this
   rw [List.drop_eq_getElem_cons hi, List.all_cons, plainC, ← hb, Bool.and_assoc]
   exact this
  refine Ev.step (fun _ => by rw [laws_plain.l0, hc]) (ev_pos (by omega) (ev_pos (by omega) ?_))
  have low : ∀ (b : Bool), dg s[i] = false → (¬ (97 ≤ s[i].toNat ∧ s[i].toNat ≤ 122)) → Ev (fun k => if (s[i].toNat : Int) ≥ 65 then (laws_plain.j1 k (ofL s) (ofL m) (i : Int) (s[i].toNat : Int) (decide ((s[i].toNat : Int) ≤ 90))) else (laws_plain.j1 k (ofL s) (ofL m) (i : Int) (s[i].toNat : Int) false)) ((s.drop i).all (plainC m) && !s.isEmpty) := by
   intro _ h1 h2
   by_cases c : (s[i].toNat : Int) ≥ 65
   ·refine ev_pos c (inner _ ?_)
    rw [h1, Bool.false_or, lt, decide_eq_decide]
    omega
   ·refine ev_neg c (inner _ ?_)
    rw [h1, Bool.false_or, lt]
    symm
    rw [decide_eq_false_iff_not]
    omega
  have mid : dg s[i] = false → Ev (fun k => if (s[i].toNat : Int) ≥ 97 then (if (s[i].toNat : Int) ≤ 122 then (laws_plain.j1 k (ofL s) (ofL m) (i : Int) (s[i].toNat : Int) true) else (if (s[i].toNat : Int) ≥ 65 then (laws_plain.j1 k (ofL s) (ofL m) (i : Int) (s[i].toNat : Int) (decide ((s[i].toNat : Int) ≤ 90))) else (laws_plain.j1 k (ofL s) (ofL m) (i : Int) (s[i].toNat : Int) false))) else (if (s[i].toNat : Int) ≥ 65 then (laws_plain.j1 k (ofL s) (ofL m) (i : Int) (s[i].toNat : Int) (decide ((s[i].toNat : Int) ≤ 90))) else (laws_plain.j1 k (ofL s) (ofL m) (i : Int) (s[i].toNat : Int) false))) ((s.drop i).all (plainC m) && !s.isEmpty) := by
   intro h1
   by_cases c : (s[i].toNat : Int) ≥ 97
   ·refine ev_pos c ?_
    by_cases c2 : (s[i].toNat : Int) ≤ 122
    ·refine ev_pos c2 (inner _ ?_)
     rw [h1, Bool.false_or, lt, decide_eq_true (by omega)]
    ·exact ev_neg c2 (low true h1 (by omega))
   ·exact ev_neg c (low true h1 (by omega))
  by_cases c : (s[i].toNat : Int) ≥ 48
  ·refine ev_pos c ?_
   by_cases c2 : (s[i].toNat : Int) ≤ 57
   ·refine ev_pos c2 (inner _ ?_)
    rw [dg, decide_eq_true (by omega), Bool.true_or]
   ·exact ev_neg c2 (mid (by rw [dg]; exact decide_eq_false (by omega)))
  ·exact ev_neg c (mid (by rw [dg]; exact decide_eq_false (by omega)))
theorem plain_ev (s m : List UInt8) (hs0 : s.length ≤ 140737488351232) (hm : m.length ≤ 1000) : Ev (fun k => laws_plain.f k (ofL s) (ofL m)) (s.all (plainC m) && !s.isEmpty) := plain_l s m hs0 hm s.length 0 (by omega)
end Go.Proofs.YtkcciinapkeaiaaDoor.Com

namespace Go.Proofs.YtkcciinapkeaiaaDoor.Com
open Go.RowKit Go.Proofs.YtkcciinapkeaiaaDoor.Z Go.Proofs.YtkcciinapkeaiaaDoor.Evs Go.Proofs.YtkcciinapkeaiaaDoor.By Go.Proofs.YtkcciinapkeaiaaDoorW.PrintWords Go.Proofs.YtkcciinapkeaiaaDoorW.PrintLast
set_option linter.unusedVariables false
set_option linter.unusedSimpArgs false

theorem lawDigits_l (l : List UInt8) (hl : l.length ≤ 140737488351232) (d : Nat) : ∀ i : Nat, i + d = l.length → Ev (fun k => laws_digits.l0 k (ofL l) (i : Int)) ((l.drop i).all dg && !l.isEmpty) := by
 have hs := ofL_size l
 induction d with
 | zero =>
  intro i h
  refine Ev.step (fun _ => by rw [laws_digits.l0]) (ev_neg (by omega) (ev_now ?_))
  rw [List.drop_of_length_le (by omega), toList_ofL]
  simp
 | succ d ih =>
  intro i h
  have hi : i < l.length := by omega
  have hc := bt_ofL l i hi
  refine Ev.step (fun _ => by rw [laws_digits.l0, hc, wrap_nat (by omega)]) (ev_pos (by omega) (ev_pos (by omega) ?_))
  rw [List.drop_eq_getElem_cons hi, List.all_cons]
  cases e : dg l[i] with
  | true =>
   have : 48 ≤ l[i].toNat ∧ l[i].toNat ≤ 57 := by simpa [dg] using e
   exact ev_neg (by omega) (ev_neg (by omega) (by simpa using ih (i + 1) (by omega)))
  | false =>
   have : ¬ (48 ≤ l[i].toNat ∧ l[i].toNat ≤ 57) := by simpa [dg] using e
   by_cases c : (l[i].toNat : Int) < 48
   ·exact ev_pos c (ev_now (by simp))
   ·exact ev_neg c (ev_pos (by omega) (ev_now (by simp)))
theorem lawDigits_ev (l : List UInt8) (hl : l.length ≤ 140737488351232) : Ev (fun k => laws_digits.f k (ofL l)) (l.all dg && !l.isEmpty) := lawDigits_l l hl l.length 0 (by omega)
end Go.Proofs.YtkcciinapkeaiaaDoor.Com

namespace Go.Proofs.YtkcciinapkeaiaaDoor.Com
open Go Go.RowKit Go.Proofs.YtkcciinapkeaiaaDoor.Z Go.Proofs.YtkcciinapkeaiaaDoor.Evs Go.Proofs.YtkcciinapkeaiaaDoor.By Go.Proofs.YtkcciinapkeaiaaDoor.Bv Go.Proofs.YtkcciinapkeaiaaDoorW.PrintWords Go.Proofs.YtkcciinapkeaiaaDoorW.PrintLast
set_option linter.unusedVariables false
set_option linter.unusedSimpArgs false

theorem one_rd (x : S26) : rd_T26 [x] 0 = x := rfl
theorem cmpOne_ev (n0 n1 : Bool) (a b : List UInt8) (ha : a.length ≤ 1000000) (hb : b.length ≤ 1000000) :
  Ev (fun k => spec_CompareNumbers.f k [(⟨n0, ofL a⟩ : S26)] [(⟨n1, ofL b⟩ : S26)]) (cmpZ (Cw.zv n0 a) (Cw.zv n1 b)) := by
 unfold spec_CompareNumbers.f
 refine Ev.step (fun _ => by rw [spec_CompareNumbers.l0]) ?_
 refine ev_pos (by show (0 : Int) < 1; decide) ?_
 refine Ev.step (fun _ => by rw [spec_CompareNumbers.j1, one_rd]) ?_
 refine ev_t (ev_pos (by show (0 : Int) < 1; decide) (ev_pos (by decide) ?_))
 refine Ev.step (fun _ => by rw [spec_CompareNumbers.j2, one_rd]) ?_
 refine ev_pos (by show (0 : Int) < 1; decide) (ev_pos (by decide) ?_)
 refine Ev.bind (Cw.intOrder_ev n0 n1 a b (by omega) (by omega)) ?_
 refine ev_ite (fun h => ?_) (fun h => ev_now rfl)
 rw [h, show wrap64 ((0 : Int) + 1) = 1 from wrap_in (by decide) (by decide)]
 refine Ev.step (fun _ => by rw [spec_CompareNumbers.l0]) ?_
 refine ev_neg (by show ¬ (1 : Int) < 1; decide) ?_
 rw [show decide ((1 : Int) < (([(⟨n1, ofL b⟩ : S26)] : List S26).length : Int)) = false from decide_eq_false (by show ¬ (1 : Int) < 1; decide)]
 refine Ev.step (fun _ => by rw [spec_CompareNumbers.j1]) ?_
 exact ev_f (ev_now rfl)
/-- Digits alone are a number without a sign. -/
theorem numS_digits (l : List UInt8) (h : l.all dg = true) (hn : l ≠ []) : numS l = (false, magB l, true) := by
 have hs : sgn l = (false, l) := by
  cases l with
  | nil => exact absurd rfl hn
  | cons c r =>
   simp only [List.all_cons, Bool.and_eq_true] at h
   have h1 : ¬ c = 43 := fun e => by rw [e] at h; exact absurd h.1 (by decide)
   have h2 : ¬ c = 45 := fun e => by rw [e] at h; exact absurd h.1 (by decide)
   exact (if_neg h1).trans (if_neg h2)
 have hl : 0 < l.length := by
  cases l with
  | nil => exact absurd rfl hn
  | cons c r => simp
 rw [numS, hs]
 show (if allD l then _ else _) = _
 rw [allD, h, decide_eq_true hl]
 rfl
theorem zv_mag (l : List UInt8) (h : l.all dg = true) : Cw.zv false (magB l) = decV l := by
 rw [Cw.zv, if_neg (by decide), magB_val l h]
end Go.Proofs.YtkcciinapkeaiaaDoor.Com

namespace Go.Proofs.YtkcciinapkeaiaaDoor.Pure
open Go Go.RowKit Go.Proofs.YtkcciinapkeaiaaDoor.Z Go.Proofs.YtkcciinapkeaiaaDoor.Evs Go.Proofs.YtkcciinapkeaiaaDoor.By Go.Proofs.YtkcciinapkeaiaaDoor.Com Go.Proofs.YtkcciinapkeaiaaDoor.Lx Go.Proofs.YtkcciinapkeaiaaDoor.Bv Go.Proofs.YtkcciinapkeaiaaDoorW.PrintWords Go.Proofs.YtkcciinapkeaiaaDoorW.PrintLast
set_option linter.unusedVariables false
set_option linter.unusedSimpArgs false
theorem plain58 (a : List UInt8) (h : (a.all (plainC [46, 43, 126, 45]) && !a.isEmpty) = true) : a.contains 58 = false ∧ ∀ x ∈ a, Lib.isSp x = false := by
 rw [Bool.and_eq_true] at h
 obtain ⟨h1, _⟩ := h
 constructor
 ·rw [Bool.eq_false_iff]
  intro hc
  have := List.all_eq_true.1 h1 58 (List.contains_iff_mem.1 hc)
  exact absurd this (by decide)
 ·intro x hx
  have := List.all_eq_true.1 h1 x hx
  rw [Bool.eq_false_iff]
  intro hs
  unfold Lib.isSp at hs
  simp only [Bool.or_eq_true, beq_iff_eq] at hs
  rcases hs with ((((rfl | rfl) | rfl) | rfl) | rfl) | rfl <;> exact absurd this (by decide)
theorem dig_no (e : List UInt8) (h : e.all dg = true) : e.contains 58 = false ∧ (∀ x ∈ e, Lib.isSp x = false) ∧ ∀ x ∈ e, x.toNat < 128 := by
 refine ⟨?_, ?_, ?_⟩
 ·rw [Bool.eq_false_iff]
  intro hc
  have := List.all_eq_true.1 h 58 (List.contains_iff_mem.1 hc)
  exact absurd this (by decide)
 ·intro x hx
  have := List.all_eq_true.1 h x hx
  rw [Bool.eq_false_iff]
  intro hs
  unfold Lib.isSp at hs
  simp only [Bool.or_eq_true, beq_iff_eq] at hs
  rcases hs with ((((rfl | rfl) | rfl) | rfl) | rfl) | rfl <;> exact absurd this (by decide)
 ·intro x hx
  have := of_decide_eq_true (List.all_eq_true.1 h x hx)
  omega
theorem trim_same (l : List UInt8) (h : ∀ x ∈ l, Lib.isSp x = false) : Lib.trimSpace l = l := by
 have hd : ∀ m : List UInt8, (∀ x ∈ m, Lib.isSp x = false) → m.dropWhile Lib.isSp = m := fun m hm => by
  cases m with
  | nil => rfl
  | cons c r => rw [List.dropWhile_cons, if_neg (by rw [hm c (by simp)]; decide)]
 unfold Lib.trimSpace
 rw [hd l h, hd l.reverse (fun x hx => h x (List.mem_reverse.1 hx)), List.reverse_reverse]
theorem dbp_no (a : List UInt8) (h : a.contains 58 = false) (hs : ∀ x ∈ a, Lib.isSp x = false) : dbp a = some (0, dbS a) := by
 unfold dbp
 rw [trim_same a hs, if_neg (by rw [h]; decide)]
theorem bef_at (e a : List UInt8) (h : e.contains 58 = false) : befC 58 (e ++ 58 :: a) = e ∧ aftC 58 (e ++ 58 :: a) = a := by
 have hall : ∀ x ∈ e, (x != 58) = true := fun x hx => by
  rw [bne_iff_ne]
  intro he
  rw [he] at hx
  rw [List.contains_iff_mem.2 hx] at h
  cases h
 constructor
 ·unfold befC
  rw [List.takeWhile_append_of_pos hall, List.takeWhile_cons, if_neg (by decide), List.append_nil]
 ·unfold aftC
  rw [List.dropWhile_append_of_pos hall, List.dropWhile_cons, if_neg (by decide)]
  rfl
theorem dbp_at (e a : List UInt8) (he : e.all dg = true) (ne : e ≠ []) (hs : ∀ x ∈ a, Lib.isSp x = false) : dbp (e ++ 58 :: a) = some (decV e, dbS a) := by
 obtain ⟨h1, h2, h3⟩ := dig_no e he
 obtain ⟨b1, b2⟩ := bef_at e a h1
 have ht : Lib.trimSpace (e ++ 58 :: a) = e ++ 58 :: a := trim_same _ fun x hx => by
  rcases List.mem_append.1 hx with hx | hx
  ·exact h2 x hx
  ·rcases List.mem_cons.1 hx with rfl | hx
   ·decide
   ·exact hs x hx
 unfold dbp
 rw [ht, if_pos (by rw [List.contains_iff_mem]; simp), b1, b2, cvt_digits ne he]
 rfl
/-- How what stands behind the epochs compares. -/
def restD (a b : List UInt8) : Int := if dbP (dbS a).1 (dbS b).1 = 0 then dbP (dbS a).2 (dbS b).2 else dbP (dbS a).1 (dbS b).1
theorem FnDebianEpochs : laws_FnDebianEpochs.Pure := by
 intro a0 a1 a2 a3 h0 h1 h2 h3
 refine Ev.rounds ?_
 unfold laws_FnDebianEpochs.f
 have z0 : Ev (fun k => laws_FnDebianEpochs.j0 k a0 a1 a2 a3 true) true := Ev.step (fun _ => by rw [laws_FnDebianEpochs.j0]) (ev_t (ev_now rfl))
 have z1 : Ev (fun k => laws_FnDebianEpochs.j1 k a0 a1 a2 a3 true) true := Ev.step (fun _ => by rw [laws_FnDebianEpochs.j1]) (ev_t (ev_now rfl))
 refine ev_ite (fun _ => z0) (fun c0 => ev_ite (fun _ => z0) (fun c1 => ev_ite (fun _ => z0) (fun c2 => ?_)))
 cases c3 : decide ((a3.size : Int) > 2147483647) with
 | true => exact z0
 | false =>
  obtain ⟨r, hr, hq⟩ := short4 a0 a1 a2 a3
  refine Ev.step (fun _ => by rw [laws_FnDebianEpochs.j0]) ?_
  refine ev_f (Ev.bind hr ?_)
  cases r with
  | false => exact ev_f z1
  | true =>
   obtain ⟨s0, s1, s2, s3⟩ := hq rfl
   have l0 := bl_length a0
   have l1 := bl_length a1
   have l2 := bl_length a2
   have l3 := bl_length a3
   have p0 := plain_ev (bl a0) [46, 43, 126, 45] (by omega) (by simp)
   have p1 := plain_ev (bl a1) [46, 43, 126, 45] (by omega) (by simp)
   have d2 := lawDigits_ev (bl a2) (by omega)
   have d3 := lawDigits_ev (bl a3) (by omega)
   rw [ofL_bl] at d2 d3
   obtain ⟨k0, e0, q0⟩ := known_b a0 s0
   obtain ⟨k1, e1, q1⟩ := known_b a1 s1
   refine ev_t (Ev.bind p0 ?_)
   cases g0 : ((bl a0).all (plainC [46, 43, 126, 45]) && !(bl a0).isEmpty) with
   | false => exact ev_f z1
   | true =>
    refine ev_t (Ev.bind p1 ?_)
    cases g1 : ((bl a1).all (plainC [46, 43, 126, 45]) && !(bl a1).isEmpty) with
    | false => exact ev_f z1
    | true =>
     refine ev_t (Ev.bind d2 ?_)
     cases g2 : ((bl a2).all dg && !(bl a2).isEmpty) with
     | false => exact ev_f z1
     | true =>
      refine ev_t (Ev.bind d3 ?_)
      cases g3 : ((bl a3).all dg && !(bl a3).isEmpty) with
      | false => exact ev_f z1
      | true =>
       refine ev_t (Ev.bind e0 ?_)
       cases k0 with
       | false => exact ev_f z1
       | true =>
        refine ev_t (Ev.bind e1 ?_)
        cases k1 with
        | false => exact z1
        | true =>
         have ka := q0 rfl
         have kb := q1 rfl
         rw [Bool.and_eq_true] at g2 g3
         obtain ⟨e2, e2'⟩ := g2
         obtain ⟨e3, e3'⟩ := g3
         have n2 : bl a2 ≠ [] := fun e => by rw [e] at e2'; cases e2'
         have n3 : bl a3 ≠ [] := fun e => by rw [e] at e3'; cases e3'
         obtain ⟨x0, y0⟩ := plain58 _ g0
         obtain ⟨x1, y1⟩ := plain58 _ g1
         obtain ⟨_, _, as2⟩ := dig_no _ e2
         obtain ⟨_, _, as3⟩ := dig_no _ e3
         have hn2 := number_ev (bl a2) (by omega)
         have hn3 := number_ev (bl a3) (by omega)
         rw [numS_digits _ e2 n2, ofL_bl] at hn2
         rw [numS_digits _ e3 n3, ofL_bl] at hn3
         have m2 := magB_len _ e2
         have m3 := magB_len _ e3
         have hcmp := cmpOne_ev false false (magB (bl a2)) (magB (bl a3)) (by omega) (by omega)
         rw [zv_mag _ e2, zv_mag _ e3] at hcmp
         have w2 : (a2 ++ (⟨#[58]⟩ : ByteArray)) ++ a0 = ofL (bl a2 ++ 58 :: bl a0) := by
          have : bl a2 ++ 58 :: bl a0 = (bl a2 ++ [58]) ++ bl a0 := by simp
          rw [this, ← ofL_append, ← ofL_append]
          rfl
         have w3 : (a3 ++ (⟨#[58]⟩ : ByteArray)) ++ a1 = ofL (bl a3 ++ 58 :: bl a1) := by
          have : bl a3 ++ 58 :: bl a1 = (bl a3 ++ [58]) ++ bl a1 := by simp
          rw [this, ← ofL_append, ← ofL_append]
          rfl
         have w4 : (⟨#[48, 58]⟩ : ByteArray) ++ a0 = ofL ([48] ++ 58 :: bl a0) := by
          have : ([48] ++ 58 :: bl a0 : List UInt8) = [48, 58] ++ bl a0 := rfl
          rw [this, ← ofL_append]
          rfl
         have asc : ∀ (e a : List UInt8), (∀ c ∈ e, c.toNat < 128) → (∀ c ∈ a, c.toNat < 128) → ∀ c ∈ bl (ofL (e ++ 58 :: a)), c.toNat < 128 := fun e a he ha c hc => by
          rw [bl_ofL] at hc
          rcases List.mem_append.1 hc with hc | hc
          ·exact he c hc
          ·rcases List.mem_cons.1 hc with rfl | hc
           ·decide
           ·exact ha c hc
         have r1 := dcmp_f (a := a0) (b := a1) (by omega) (by omega) ka.1 kb.1
         rw [dbp_no _ x0 y0, dbp_no _ x1 y1] at r1
         have r2 := dcmp_f (a := ofL (bl a2 ++ 58 :: bl a0)) (b := ofL (bl a3 ++ 58 :: bl a1)) (by rw [ofL_size, List.length_append, List.length_cons]; omega) (by rw [ofL_size, List.length_append, List.length_cons]; omega) (asc _ _ as2 ka.1) (asc _ _ as3 kb.1)
         rw [bl_ofL, bl_ofL, dbp_at _ _ e2 n2 y0, dbp_at _ _ e3 n3 y1, ← w2, ← w3] at r2
         have r3 := dcmp_f (a := ofL ([48] ++ 58 :: bl a0)) (b := a1) (by rw [ofL_size, List.length_append, List.length_cons]; simp; omega) (by omega) (asc _ _ (fun c hc => by rw [List.mem_singleton.1 hc]; decide) ka.1) kb.1
         rw [bl_ofL, dbp_at [48] _ (by decide) (by decide) y0, dbp_no _ x1 y1, ← w4] at r3
         have z2 : (a2 ++ (⟨#[58]⟩ : ByteArray)).size = a2.size + 1 := by simp; rfl
         have z3 : (a3 ++ (⟨#[58]⟩ : ByteArray)).size = a3.size + 1 := by simp; rfl
         have v1 : impl_DebianCompare.f a0 a1 = some (restD (bl a0) (bl a1), true) := r1
         have v3 : impl_DebianCompare.f ((⟨#[48, 58]⟩ : ByteArray) ++ a0) a1 = some (restD (bl a0) (bl a1), true) := r3
         have v2 : impl_DebianCompare.f ((a2 ++ (⟨#[58]⟩ : ByteArray)) ++ a0) ((a3 ++ (⟨#[58]⟩ : ByteArray)) ++ a1) = some (if cmpZ (decV (bl a2)) (decV (bl a3)) = 0 then restD (bl a0) (bl a1) else cmpZ (decV (bl a2)) (decV (bl a3)), true) := r2
         clear r1 r2 r3 w2 w3 w4
         refine Ev.step (fun _ => by rw [Bool.not_true, laws_FnDebianEpochs.j1, v1, v2, v3]) ?_
         refine ev_f (Ev.bind hn2 (Ev.bind hn3 (Ev.bind hcmp (ev_some ?_))))
         generalize cmpZ (decV (bl a2)) (decV (bl a3)) = u
         generalize restD (bl a0) (bl a1) = v
         refine ev_ite (fun hz => ?_) (fun hz => ?_)
         ·rw [if_pos hz]
          refine ev_pos (by omega) (ev_pos (by omega) (ev_pos (by omega) (ev_pos (by omega) (ev_some (ev_pos (by omega) (ev_some ?_))))))
          refine ev_t (ev_t (ev_t (ev_pos rfl (ev_now ?_))))
          exact (show (v == v) = true from beq_self_eq_true _)
         ·rw [if_neg hz]
          refine ev_pos (by omega) (ev_pos (by omega) (ev_pos (by omega) (ev_pos (by omega) (ev_some (ev_pos (by omega) (ev_some ?_))))))
          refine ev_t (ev_t (ev_t (ev_pos rfl (ev_now ?_))))
          exact (show (v == v) = true from beq_self_eq_true _)
end Go.Proofs.YtkcciinapkeaiaaDoor.Pure

namespace Go.Proofs.YtkcciinapkeaiaaDoor.fnDebianEpochs
open Go.ChangeShapes Go.WideShapes Go.ChangeAt Go.RowKit Go.Proofs.YtkcciinapkeaiaaDoor.Op Go.Proofs.YtkcciinapkeaiaaDoor.Z Go.Proofs.YtkcciinapkeaiaaDoorW.PrintWords
open Go.ChangeMaps (open_string shut_string)
set_option linter.unusedVariables false
set_option linter.unusedSimpArgs false
theorem own : ownKnob Tryd.prog.godebug = none := by kernel_rfl
/-- A world for the witness: the listed variables hold what their initialisers lay. -/
noncomputable def laidWorld (os : Os) : World := World.laidAll Tryd.prog os Rows.fnDebianEpochsRow.laid
set_option maxRecDepth 100000 in
theorem laid_met (os : Os) : laidMet Tryd.prog Rows.fnDebianEpochsRow.laid ((laidWorld os).forCall (fun _ _ => 0) ⟨#[], #[.string ByteArray.empty, .string ByteArray.empty, .string ByteArray.empty, .string ByteArray.empty], []⟩).memory :=
 laidMet_laidAll _ (by kernel_rfl) (by kernel_rfl)
set_option maxRecDepth 100000 in
theorem reads (os : Os) {H : Type} (enc : TypeId × Value → H) : DataW.whole enc Tryd.prog ((laidWorld os).forCall (fun _ _ => 0) ⟨#[], #[.string ByteArray.empty, .string ByteArray.empty, .string ByteArray.empty, .string ByteArray.empty], []⟩).memory Tryd.f3.params.toList Rows.fnDebianEpochsSpec.vars false #[.string ByteArray.empty, .string ByteArray.empty, .string ByteArray.empty, .string ByteArray.empty].toList 8 = some ([.lit (.string []), .lit (.string []), .lit (.string []), .lit (.string [])], [], []) := by kernel_rfl
set_option maxRecDepth 100000 in
theorem lifted (os : Os) (started : os.Started) (H : Type) (enc : TypeId × Value → H) (F : Stop.Interp) :
  ReturnsInHanded {} Tryd.checked os 3 .any ((OpenSpec.ofChange Rows.fnDebianEpochsSpec).preRow enc Tryd.prog Tryd.f3 Rows.fnDebianEpochsRow.domain false Rows.fnDebianEpochsRow.laid) (((OpenSpec.ofChange Rows.fnDebianEpochsSpec).at F).post enc Tryd.prog Tryd.f3 false true false false) := by
 refine returnsInHanded_of_row (C := Tryd.checked) (s := OpenSpec.ofChange Rows.fnDebianEpochsSpec) own started (by kernel_rfl) Tryd.func3
  (witness_row_atRef (enc := enc) (C := Tryd.checked) false (laidWorld os) #[.string ByteArray.empty, .string ByteArray.empty, .string ByteArray.empty, .string ByteArray.empty] (World.laidAll_os _ _ _) (by kernel_rfl) (by kernel_rfl) (by kernel_rfl)
   (OpenSpec.preRow_of_cond 8 (reads os enc) (by kernel_rfl) (fun k hk => by cases hk) (by kernel_rfl) (laid_met os))) ?_
 intro W base args ds gs before hval0 hW hcnd hk0 hsz0 hL hSh hho
 have hsz : (DataW.weightsEach Tryd.prog (Tryd.f3.params.toList ++ Rows.fnDebianEpochsSpec.plain.varTypes Tryd.prog) (ds ++ gs)).all (· ≤ reachBytes) = true := hsz0
 have hval : ∀ (j : Nat) t v, Tryd.f3.params[j]? = some t → args[j]? = some v → Value.okWide Tryd.prog W .any base t v := hval0
 have hW' := hW
 obtain ⟨p, q, hA0, hV, rfl, hfz, hnd⟩ := hW
 have hA : DataW.TrodAll enc Tryd.prog W 0 (fun _ => true) true Tryd.f3.params.toList args.toList ds p := hA0
 rw [Tryd.params3] at hA hval hsz
 obtain ⟨v0, vs0, d0, ds0, p0, q0, hargs, rfl, rfl, h0, r0⟩ := trodAll_cons hA
 obtain ⟨v1, vs1, d1, ds1, p1, q1, rfl, rfl, rfl, h1, r1⟩ := trodAll_cons r0
 obtain ⟨v2, vs2, d2, ds2, p2, q2, rfl, rfl, rfl, h2, r2⟩ := trodAll_cons r1
 obtain ⟨v3, vs3, d3, ds3, p3, q3, rfl, rfl, rfl, h3, r3⟩ := trodAll_cons r2
 obtain ⟨rfl, rfl, rfl⟩ := trodAll_nil r3
 obtain rfl : args = #[v0, v1, v2, v3] := by cases args; simp_all
 obtain ⟨rfl, rfl⟩ := trodVars_none hV
 obtain ⟨a0, rfl, rfl, rfl, y0⟩ := open_string Tryd.underlying9 (hval 0 9 v0 rfl rfl) h0
 have w0 : a0.size ≤ 140737488351232 := by
  have z := sized_string hsz (j := 0) (t := 9) rfl rfl
  rw [Array.length_toList] at z
  exact z
 obtain ⟨a1, rfl, rfl, rfl, y1⟩ := open_string Tryd.underlying9 (hval 1 9 v1 rfl rfl) h1
 have w1 : a1.size ≤ 140737488351232 := by
  have z := sized_string hsz (j := 1) (t := 9) rfl rfl
  rw [Array.length_toList] at z
  exact z
 obtain ⟨a2, rfl, rfl, rfl, y2⟩ := open_string Tryd.underlying9 (hval 2 9 v2 rfl rfl) h2
 have w2 : a2.size ≤ 140737488351232 := by
  have z := sized_string hsz (j := 2) (t := 9) rfl rfl
  rw [Array.length_toList] at z
  exact z
 obtain ⟨a3, rfl, rfl, rfl, y3⟩ := open_string Tryd.underlying9 (hval 3 9 v3 rfl rfl) h3
 have w3 : a3.size ≤ 140737488351232 := by
  have z := sized_string hsz (j := 3) (t := 9) rfl rfl
  rw [Array.length_toList] at z
  exact z
 clear hA0 hval0 hsz0 hsz
 refine (laws_FnDebianEpochs.walk Pure.FnDebianEpochs a0 a1 a2 a3 W w0 w1 w2 w3  (Gw.gw_of (l := Rows.fnDebianEpochsRow.laid) hL (List.Mem.tail _ (List.Mem.head _)) (List.Mem.tail _ (List.Mem.tail _ (List.Mem.tail _ (List.Mem.tail _ (List.Mem.head _))))) (List.Mem.tail _ (List.Mem.tail _ (List.Mem.tail _ (List.Mem.tail _ (List.Mem.tail _ (List.Mem.tail _ (List.Mem.head _))))))) (List.Mem.tail _ (List.Mem.tail _ (List.Mem.tail _ (List.Mem.head _)))))).mono fun e W' ⟨he, bel⟩ => ?_
 subst he
 exact ⟨_, rfl, _, _, _, [], _, [], hW', trodAll_mk1 (shut_bool Tryd.underlying4 _), (trodAll_cons_mk (shut_string Tryd.underlying9 y0) (trodAll_cons_mk (shut_string Tryd.underlying9 y1) (trodAll_cons_mk (shut_string Tryd.underlying9 y2) (trodAll_cons_mk (shut_string Tryd.underlying9 y3) trodAll_mk0)))), rfl, bel.frame _, fun h => by cases h⟩
theorem said : Rows.FnDebianEpochsSaid :=
 OpenClaim.holds_of_cond 3 Tryd.f3 rfl rfl rfl rfl rfl rfl rfl ⟨rfl, rfl, rfl, rfl, rfl⟩ rfl rfl rfl rfl rfl (by kernel_rfl) Tryd.func3 (by kernel_rfl)
  (of_decide_eq_true (by kernel_rfl)) (by unfold Func.isWrapper; first | (rw [if_pos (by decide +kernel)]; kernel_rfl) | (rw [if_neg (by decide +kernel)]; exact ⟨rfl, rfl⟩))
  (fun os started H enc _ F => by rw [OpenClaim.pre_eq_preRow]; exact lifted os started H enc F)
theorem plain (f : FuncId) (fn : Func) (hf : Tryd.pinned.checked.prog.funcNamed "pub-seniority/laws.FnDebianEpochs" = some f) (hfn : Tryd.pinned.checked.prog.funcs[f]? = some fn) :
  true = Tryd.pinned.checked.prog.looks [] ∧ ∀ (j : Nat) t, fn.params[j]? = some t → Tryd.pinned.checked.prog.wantsStandIn t = false := by
 obtain rfl : f = 3 := Option.some.inj ((show Tryd.prog.funcNamed "pub-seniority/laws.FnDebianEpochs" = some 3 by kernel_rfl).symm.trans hf) |>.symm
 obtain rfl : fn = Tryd.f3 := (Option.some.inj (Tryd.func3.symm.trans hfn)).symm
 refine ⟨by kernel_rfl, fun j t ht => ?_⟩
 rw [Tryd.params3] at ht
 have h2 : ([9, 9, 9, 9] : List TypeId).all (fun t => !Tryd.prog.wantsStandIn t) = true := by kernel_rfl
 have h3 := List.all_eq_true.1 h2 t (by have := Array.mem_of_getElem? ht; simpa using this)
 exact (show Tryd.prog.wantsStandIn t = false from by simpa using h3)
theorem proved : Rows.FnDebianEpochsCardSaid :=
 Claim7.holds_tied_plain_at .later [] _ _ _ _ said (fun _ h => by cases h) (by kernel_rfl) (fun _ h => by cases h) fnDebianEpochs_row_tie rfl ⟨rfl, rfl⟩ (by kernel_rfl) rfl plain (by kernel_rfl)
#print axioms proved
end Go.Proofs.YtkcciinapkeaiaaDoor.fnDebianEpochs
namespace Go.Proofs.YtkcciinapkeaiaaDoor
/-- The card, under a short name, for the claim. -/
theorem fnDebianEpochs_holds : Rows.FnDebianEpochsCardSaid := fnDebianEpochs.proved
end Go.Proofs.YtkcciinapkeaiaaDoor
