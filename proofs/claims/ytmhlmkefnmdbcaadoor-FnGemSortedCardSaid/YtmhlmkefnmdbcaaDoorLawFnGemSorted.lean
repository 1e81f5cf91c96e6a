/- FnGemSorted: a list of versions as Gem::Version takes them that is put in order by the program is in Gem::Version's order. No condition beyond the row's own. -/
import Derived.Test.YtmhlmkefnmdbcaaDoorZ1
import Derived.Test.YtmhlmkefnmdbcaaDoorEv
import Derived.Test.YtmhlmkefnmdbcaaDoorBy
import Derived.Test.YtmhlmkefnmdbcaaDoorZ12
import Derived.Lib.Bytealg
import Derived.Test.YtmhlmkefnmdbcaaDoorZ6
import Derived.Test.YtmhlmkefnmdbcaaDoorZ4
import Derived.Test.YtmhlmkefnmdbcaaDoorZ5
import Derived.Test.YtmhlmkefnmdbcaaDoorZ7
import Derived.Test.YtmhlmkefnmdbcaaDoorZ9
import Derived.Test.YtmhlmkefnmdbcaaDoorZ11
import Derived.Test.YtmhlmkefnmdbcaaDoorSsC
import Derived.Test.YtmhlmkefnmdbcaaDoorBv
import Derived.Test.YtmhlmkefnmdbcaaDoorZ13
import Derived.Test.YtmhlmkefnmdbcaaDoorZ14
import Derived.Test.YtmhlmkefnmdbcaaDoorLx
import Derived.Test.YtmhlmkefnmdbcaaDoorRows
import Derived.Test.YtmhlmkefnmdbcaaDoorOp
import Derived.Test.YtmhlmkefnmdbcaaDoorCards
import Derived.Test.YtmhlmkefnmdbcaaDoorTie
import Derived.Test.YtmhlmkefnmdbcaaDoorGl
import Derived.Deep.DeepHandedRow
import Derived.Deep.DeepWitnessRowRef
import Derived.Deep.DeepLaidRun
import Derived.WalkKit
import Derived.ProofKit
import Derived.OpenShut
import Derived.ShutString
import Derived.ChangeOld
import Derived.Below
import Derived.SizedLaws
namespace Go.Proofs.YtmhlmkefnmdbcaaDoor.Com
open Go.RowKit Go.Proofs.YtmhlmkefnmdbcaaDoor.Z Go.Proofs.YtmhlmkefnmdbcaaDoor.Evs Go.Proofs.YtmhlmkefnmdbcaaDoorW.PrintWords Go.Proofs.YtmhlmkefnmdbcaaDoorW.PrintLast
set_option linter.unusedVariables false
set_option linter.unusedSimpArgs false

/-- Ascii: an answer; where it is true every byte is below 128. -/
theorem ascii_l (s : ByteArray) (hs : s.size ≤ 140737488351232) (d : Nat) : ∀ i : Nat, i + d = s.size → ∃ r, Ev (fun k => spec_Ascii.l0 k s (i : Int)) r ∧ (r = true → ∀ j : Nat, i ≤ j → (h : j < s.size) → (s[j]'h).toNat < 128) := by
 induction d with
 | zero => intro i h; exact ⟨true, Ev.step (fun _ => by rw [spec_Ascii.l0]) (ev_neg (by omega) (Ev.now _)), fun _ j h1 h2 => by omega⟩
 | succ d ih =>
  intro i h
  obtain ⟨r, hr, hq⟩ := ih (i + 1) (by omega)
  have hb := bt_nat s i (by omega)
  by_cases c : bt s (i : Int) > 127
  ·exact ⟨false, Ev.step (fun _ => by rw [spec_Ascii.l0]) (ev_pos (by omega) (ev_pos (by omega) (ev_pos c (Ev.now _)))), fun h => by cases h⟩
  ·refine ⟨r, Ev.step (fun _ => by rw [spec_Ascii.l0, wrap_nat (by omega)]) (ev_pos (by omega) (ev_pos (by omega) (ev_neg c hr))), fun h j h1 h2 => ?_⟩
   by_cases e : j = i
   ·subst e; omega
   ·exact hq h j (by omega) h2
theorem ascii_ev (s : ByteArray) (hs : s.size ≤ 140737488351232) : ∃ r, Ev (fun k => spec_Ascii.f k s) r ∧ (r = true → ∀ j : Nat, (h : j < s.size) → (s[j]'h).toNat < 128) := by
 obtain ⟨r, hr, hq⟩ := ascii_l s hs s.size 0 (by omega)
 exact ⟨r, hr, fun h j hj => hq h j (by omega) hj⟩
end Go.Proofs.YtmhlmkefnmdbcaaDoor.Com

namespace Go.Proofs.YtmhlmkefnmdbcaaDoor.Com
open Go.RowKit Go.Proofs.YtmhlmkefnmdbcaaDoor.Z Go.Proofs.YtmhlmkefnmdbcaaDoor.Evs Go.Proofs.YtmhlmkefnmdbcaaDoor.By Go.Proofs.YtmhlmkefnmdbcaaDoorW.PrintWords Go.Proofs.YtmhlmkefnmdbcaaDoorW.PrintLast
set_option linter.unusedVariables false
set_option linter.unusedSimpArgs false

def ptB (c : UInt8) : Bool := c == 46
theorem isPoint_f (c : UInt8) : spec_isPoint.f (c.toNat : Int) = some (ptB c) := by
 unfold spec_isPoint.f ptB
 congr 1
 rw [Bool.eq_iff_iff, beq_iff_eq, beq_iff_eq]
 constructor
 ·intro h
  exact UInt8.toNat_inj.1 (by have : (46 : UInt8).toNat = 46 := rfl; omega)
 ·rintro rfl; rfl
theorem cut_l (l : List UInt8) (hl : l.length ≤ 100000) (d : Nat) : ∀ (i f : Nat) (acc : List ByteArray), i + d = l.length → f ≤ i → acc.length ≤ i →
  Ev (fun k => spec_cut_isPoint.l0 k (ofL l) acc (f : Int) (i : Int)) (acc ++ (onto ((l.take i).drop f) (cutP ptB (l.drop i))).map ofL) := by
 have hs := ofL_size l
 have hext : ∀ i f : Nat, (ofL l).extract ((f : Int)).toNat ((i : Int)).toNat = ofL ((l.take i).drop f) := fun i f => by rw [Int.toNat_natCast, Int.toNat_natCast, ofL_extract]
 induction d with
 | zero =>
  intro i f acc h hf ha
  have e : l.drop i = [] := List.drop_of_length_le (by omega)
  rw [e]
  refine Ev.step (fun _ => by rw [spec_cut_isPoint.l0, hext, wrap_nat (by omega)]) (ev_pos (by omega) (ev_pos (by omega) (ev_pos (by omega) (ev_pos (by omega) (ev_pos (by omega) ?_)))))
  refine Ev.step (fun _ => by rw [spec_cut_isPoint.l0]) (ev_neg (by omega) (ev_now ?_))
  simp [cutP, onto]
 | succ d ih =>
  intro i f acc h hf ha
  have hc := bt_ofL l i (by omega)
  have e : l.drop i = l[i]'(by omega) :: l.drop (i + 1) := List.drop_eq_getElem_cons (by omega)
  have et : l.take (i + 1) = l.take i ++ [l[i]'(by omega)] := (List.take_append_getElem (by omega)).symm
  refine Ev.step (fun _ => by rw [spec_cut_isPoint.l0, hc, isPoint_f, Option.bind_some, hext, wrap_nat (by omega)]) (ev_pos (by omega) (ev_neg (by omega) (ev_pos (by omega) (ev_pos (by omega) ?_))))
  cases hp : ptB (l[i]'(by omega)) with
  | true =>
   refine ev_t (ev_pos (by omega) (ev_pos (by omega) (ev_pos (by omega) ?_)))
   refine ev_eq (ih (i + 1) (i + 1) (acc ++ [ofL ((l.take i).drop f)]) (by omega) (Nat.le_refl _) (by simp; omega)) ?_
   have e0 : (l.take (i + 1)).drop (i + 1) = [] := List.drop_of_length_le (by rw [List.length_take]; omega)
   rw [e, onto_cut _ _ _ _ hp, e0, onto_nil]
   simp
  | false =>
   refine ev_f ?_
   refine ev_eq (ih (i + 1) f acc (by omega) (by omega) (by omega)) ?_
   rw [e, onto_cons _ _ _ _ hp, et, List.drop_append_of_le_length (by simp; omega)]
theorem cut_ev (l : List UInt8) (hl : l.length ≤ 100000) (n : Nat) : Ev (fun k => spec_cut_isPoint.f k (ofL l) n) ((cutP ptB l).map ofL) := by
 unfold spec_cut_isPoint.f
 have := cut_l l hl l.length 0 0 [] (by omega) (Nat.le_refl _) (by simp)
 simpa [onto_nil] using this
end Go.Proofs.YtmhlmkefnmdbcaaDoor.Com

namespace Go.Proofs.YtmhlmkefnmdbcaaDoor.Com
open Go.RowKit Go.Proofs.YtmhlmkefnmdbcaaDoor.Z Go.Proofs.YtmhlmkefnmdbcaaDoor.Evs Go.Proofs.YtmhlmkefnmdbcaaDoor.By Go.Proofs.YtmhlmkefnmdbcaaDoorW.PrintWords Go.Proofs.YtmhlmkefnmdbcaaDoorW.PrintLast
set_option linter.unusedVariables false
set_option linter.unusedSimpArgs false

theorem isDigit_f (c : UInt8) : spec_isDigit.f (c.toNat : Int) = some (dg c) := by
 unfold spec_isDigit.f dg
 by_cases h : (c.toNat : Int) ≥ 48
 ·rw [if_pos h]
  congr 1
  rw [Bool.eq_iff_iff, decide_eq_true_eq, decide_eq_true_eq]
  omega
 ·rw [if_neg h]
  congr 1
  symm
  rw [decide_eq_false_iff_not]
  omega
/-- Digits alone, one at least. -/
def allD (l : List UInt8) : Bool := l.all dg && decide (0 < l.length)
theorem digits_l (l : List UInt8) (hl : l.length ≤ 140737488351232) (d : Nat) : ∀ i : Nat, i + d = l.length → Ev (fun k => spec_allDigits.l0 k (ofL l) (i : Int)) ((l.drop i).all dg && decide (0 < l.length)) := by
 have hs := ofL_size l
 induction d with
 | zero =>
  intro i h
  refine Ev.step (fun _ => by rw [spec_allDigits.l0]) (ev_neg (by omega) (ev_now ?_))
  rw [List.drop_of_length_le (by omega), hs]
  simp
 | succ d ih =>
  intro i h
  have hc := bt_ofL l i (by omega)
  refine Ev.step (fun _ => by rw [spec_allDigits.l0, hc, isDigit_f, Option.bind_some, wrap_nat (by omega)]) (ev_pos (by omega) (ev_pos (by omega) ?_))
  rw [List.drop_eq_getElem_cons (by omega), List.all_cons]
  cases e : dg (l[i]'(by omega)) with
  | true => exact ev_t (by simpa using ih (i + 1) (by omega))
  | false => exact ev_f (ev_now (by simp))
theorem digits_ev (l : List UInt8) (hl : l.length ≤ 140737488351232) : Ev (fun k => spec_allDigits.f k (ofL l)) (allD l) := digits_l l hl l.length 0 (by omega)
end Go.Proofs.YtmhlmkefnmdbcaaDoor.Com

namespace Go.Proofs.YtmhlmkefnmdbcaaDoor.Com
open Go.RowKit Go.Proofs.YtmhlmkefnmdbcaaDoor.Z Go.Proofs.YtmhlmkefnmdbcaaDoor.Evs Go.Proofs.YtmhlmkefnmdbcaaDoor.By Go.Proofs.YtmhlmkefnmdbcaaDoorW.PrintWords Go.Proofs.YtmhlmkefnmdbcaaDoorW.PrintLast
set_option linter.unusedVariables false
set_option linter.unusedSimpArgs false

/-- A sign and digits alone. -/
def signed (l : List UInt8) : Bool := match l with
 | [] => false
 | c :: r => (c == 45 || c == 43) && allD r
theorem signed_short (l : List UInt8) (h : ¬ 1 < l.length) : signed l = false := by
 match l, h with
 | [], _ => rfl
 | [c], _ => simp [signed, allD]
 | _ :: _ :: _, h => simp at h
def idK (l : List (List UInt8)) : Bool := l.all fun x => !signed x
theorem rd_map (l : List (List UInt8)) (i : Nat) (h : i < l.length) : rdOf ByteArray.empty (l.map ofL) (i : Int) = ofL (l[i]'h) := by
 rw [rdOf_nat]
 simp [List.getD_eq_getElem?_getD, h]
theorem ident_l (l : List (List UInt8)) (hl : l.length ≤ 100000) (hz : ∀ x ∈ l, x.length ≤ 140737488351232) (d : Nat) : ∀ i : Nat, i + d = l.length → Ev (fun k => spec_IdentifiersKnown.l0 k (l.map ofL) (i : Int)) (idK (l.drop i)) := by
 induction d with
 | zero =>
  intro i h
  refine Ev.step (fun _ => by rw [spec_IdentifiersKnown.l0, List.length_map]) (ev_neg (by omega) (ev_now ?_))
  rw [List.drop_of_length_le (by omega)]
  rfl
 | succ d ih =>
  intro i h
  have hi : i < l.length := by omega
  have hr := rd_map l i hi
  have hlen := hz _ (List.getElem_mem hi)
  have e : l.drop i = l[i] :: l.drop (i + 1) := List.drop_eq_getElem_cons hi
  have hk : idK (l.drop i) = (!signed l[i] && idK (l.drop (i + 1))) := by rw [e]; rfl
  have next := ih (i + 1) (by omega)
  rw [hk]
  refine Ev.step (fun _ => by rw [spec_IdentifiersKnown.l0, List.length_map, hr, ofL_size, wrap_nat (by omega)]) (ev_pos (by omega) (ev_pos (by omega) ?_))
  by_cases h1 : 1 < l[i].length
  ·refine ev_pos (by omega) (ev_pos (by omega) ?_)
   obtain ⟨c, r, hcr⟩ : ∃ c r, l[i] = c :: r := by
    cases hx : l[i] with
    | nil => rw [hx] at h1; simp at h1
    | cons c r => exact ⟨c, r, rfl⟩
   rw [hcr] at hlen h1 ⊢
   have hb : bt (ofL (c :: r)) 0 = (c.toNat : Int) := bt_ofL (c :: r) 0 (by simp)
   have hx : (ofL (c :: r)).extract 1 (c :: r).length = ofL r := by rw [ofL_extract, List.take_of_length_le (Nat.le_refl _)]; rfl
   have hd := digits_ev r (by simp at hlen; omega)
   have c45 : (c.toNat : Int) = 45 ↔ (c == 45) = true := by
    rw [beq_iff_eq]
    exact ⟨fun h => UInt8.toNat_inj.1 (by have : (45 : UInt8).toNat = 45 := rfl; omega), fun h => by rw [h]; rfl⟩
   have c43 : (c.toNat : Int) = 43 ↔ (c == 43) = true := by
    rw [beq_iff_eq]
    exact ⟨fun h => UInt8.toNat_inj.1 (by have : (43 : UInt8).toNat = 43 := rfl; omega), fun h => by rw [h]; rfl⟩
   simp only [hb, hx]
   by_cases h45 : (c == 45) = true
   ·refine ev_pos (c45.2 h45) (ev_pos (by omega) (Ev.bind hd ?_))
    have hsg : signed (c :: r) = allD r := by simp only [signed, h45, Bool.true_or, Bool.true_and]
    rw [hsg]
    cases allD r with
    | true => exact ev_t (ev_now (by simp))
    | false => exact ev_f (by simpa using next)
   ·refine ev_neg (fun h => h45 (c45.1 h)) ?_
    by_cases h43 : (c == 43) = true
    ·refine ev_pos (c43.2 h43) (ev_pos (by omega) (Ev.bind hd ?_))
     have hsg : signed (c :: r) = allD r := by simp only [signed, h43, Bool.or_true, Bool.true_and]
     rw [hsg]
     cases allD r with
     | true => exact ev_t (ev_now (by simp))
     | false => exact ev_f (by simpa using next)
    ·refine ev_neg (fun h => h43 (c43.1 h)) ?_
     have hsg : signed (c :: r) = false := by
      have a : (c == 45) = false := by simpa using h45
      have b : (c == 43) = false := by simpa using h43
      simp only [signed, a, b, Bool.or_false, Bool.false_and]
     rw [hsg]
     simpa using next
  ·refine ev_neg (by omega) ?_
   rw [signed_short _ h1]
   simpa using next
theorem ident_ev (l : List (List UInt8)) (hl : l.length ≤ 100000) (hz : ∀ x ∈ l, x.length ≤ 140737488351232) : Ev (fun k => spec_IdentifiersKnown.f k (l.map ofL)) (idK l) := by
 have := ident_l l hl hz l.length 0 (by omega)
 exact this
end Go.Proofs.YtmhlmkefnmdbcaaDoor.Com

namespace Go.Proofs.YtmhlmkefnmdbcaaDoor.Com
open Go.RowKit Go.Proofs.YtmhlmkefnmdbcaaDoor.Z Go.Proofs.YtmhlmkefnmdbcaaDoor.Evs Go.Proofs.YtmhlmkefnmdbcaaDoor.By Go.Proofs.YtmhlmkefnmdbcaaDoorW.PrintWords Go.Proofs.YtmhlmkefnmdbcaaDoorW.PrintLast
set_option linter.unusedVariables false
set_option linter.unusedSimpArgs false

/-- A number of several digits with a zero ahead. -/
def zeroed0 (l : List UInt8) : Bool := decide (1 < l.length) && l.head? == some 48 && allD l
def segK (l : List (List UInt8)) : Bool := l.all (fun x => !zeroed0 x) && idK l
theorem seg_l (l : List (List UInt8)) (hl : l.length ≤ 100000) (hz : ∀ x ∈ l, x.length ≤ 140737488351232) (d : Nat) : ∀ i : Nat, i + d = l.length → Ev (fun k => spec_RubySegmentsKnown.l0 k (l.map ofL) (i : Int)) ((l.drop i).all (fun x => !zeroed0 x) && idK l) := by
 induction d with
 | zero =>
  intro i h
  refine Ev.step (fun _ => by rw [spec_RubySegmentsKnown.l0, List.length_map]) (ev_neg (by omega) (Ev.bind (ident_ev l hl hz) (ev_now ?_)))
  rw [List.drop_of_length_le (by omega)]
  simp
 | succ d ih =>
  intro i h
  have hi : i < l.length := by omega
  have hr := rd_map l i hi
  have hlen := hz _ (List.getElem_mem hi)
  have e : l.drop i = l[i] :: l.drop (i + 1) := List.drop_eq_getElem_cons hi
  have next := ih (i + 1) (by omega)
  rw [e, List.all_cons]
  refine Ev.step (fun _ => by rw [spec_RubySegmentsKnown.l0, List.length_map, hr, ofL_size, wrap_nat (by omega)]) (ev_pos (by omega) (ev_pos (by omega) ?_))
  by_cases h1 : 1 < l[i].length
  ·refine ev_pos (by omega) (ev_pos (by omega) ?_)
   obtain ⟨c, r, hcr⟩ : ∃ c r, l[i] = c :: r := by
    cases hx : l[i] with
    | nil => rw [hx] at h1; simp at h1
    | cons c r => exact ⟨c, r, rfl⟩
   rw [hcr] at hlen h1 ⊢
   have hb : bt (ofL (c :: r)) 0 = (c.toNat : Int) := bt_ofL (c :: r) 0 (by simp)
   have hd := digits_ev (c :: r) hlen
   have c48 : (c.toNat : Int) = 48 ↔ c = 48 := ⟨fun h => UInt8.toNat_inj.1 (by have : (48 : UInt8).toNat = 48 := rfl; omega), fun h => by rw [h]; rfl⟩
   simp only [hb]
   by_cases h48 : c = 48
   ·refine ev_pos (c48.2 h48) (Ev.bind hd ?_)
    have hsg : zeroed0 (c :: r) = allD (c :: r) := by
     subst h48
     have h2 := decide_eq_true h1
     simp only [zeroed0, List.head?_cons, h2, beq_self_eq_true, Bool.true_and]
    rw [hsg]
    cases allD (c :: r) with
    | true => exact ev_t (ev_now (by simp))
    | false => exact ev_f (by simpa using next)
   ·refine ev_neg (fun h => h48 (c48.1 h)) ?_
    have hsg : zeroed0 (c :: r) = false := by
     have : (some c == some (48 : UInt8)) = false := by simpa using h48
     simp only [zeroed0, List.head?_cons, this, Bool.and_false, Bool.false_and]
    rw [hsg]
    simpa using next
  ·refine ev_neg (by omega) ?_
   have hsg : zeroed0 l[i] = false := by simp only [zeroed0, decide_eq_false h1, Bool.false_and]
   rw [hsg]
   simpa using next
theorem seg_ev (l : List (List UInt8)) (hl : l.length ≤ 100000) (hz : ∀ x ∈ l, x.length ≤ 140737488351232) : Ev (fun k => spec_RubySegmentsKnown.f k (l.map ofL)) (segK l) := seg_l l hl hz l.length 0 (by omega)
end Go.Proofs.YtmhlmkefnmdbcaaDoor.Com

namespace Go.Proofs.YtmhlmkefnmdbcaaDoor.Com
open Go Go.RowKit Go.Proofs.YtmhlmkefnmdbcaaDoor.Z Go.Proofs.YtmhlmkefnmdbcaaDoor.Evs Go.Proofs.YtmhlmkefnmdbcaaDoor.By Go.Proofs.YtmhlmkefnmdbcaaDoorW.PrintWords Go.Proofs.YtmhlmkefnmdbcaaDoorW.PrintLast
set_option linter.unusedVariables false
set_option linter.unusedSimpArgs false

def cmpI (a b : Int) : Int := if a < b then -1 else if b < a then 1 else 0
theorem orderI_f (a b : Int) : spec_orderInts.f a b = some (cmpI a b) := by
 unfold spec_orderInts.f cmpI
 split
 ·rfl
 ·split
  ·rfl
  ·rfl
theorem bless : ∀ a b : List UInt8, Op.bytesLess a b = decide (Lib.compareBytes a b = -1)
 | [], [] => rfl
 | [], _ :: _ => rfl
 | _ :: _, [] => rfl
 | x :: a, y :: b => by
  rw [Op.bytesLess, Lib.compareBytes, bless a b]
  by_cases h : x < y
  ·rw [if_pos h]
   simp [h]
  ·rw [if_neg h]
   by_cases h2 : y < x
   ·rw [if_pos h2]
    have : ¬ x = y := fun e => by subst e; exact h h2
    simp [h, this]
   ·rw [if_neg h2]
    have : x = y := UInt8.toNat_inj.1 (by have h : ¬ x.toNat < y.toNat := h; have h2 : ¬ y.toNat < x.toNat := h2; omega)
    subst this
    simp [h]
theorem cmpB_range : ∀ a b : List UInt8, Lib.compareBytes a b = -1 ∨ Lib.compareBytes a b = 0 ∨ Lib.compareBytes a b = 1
 | [], [] => .inr (.inl rfl)
 | [], _ :: _ => .inl rfl
 | _ :: _, [] => .inr (.inr rfl)
 | x :: a, y :: b => by
  rw [Lib.compareBytes]
  split
  ·exact .inl rfl
  ·split
   ·exact .inr (.inr rfl)
   ·exact cmpB_range a b
theorem cmpB_anti : ∀ a b : List UInt8, Lib.compareBytes b a = -Lib.compareBytes a b
 | [], [] => rfl
 | [], _ :: _ => rfl
 | _ :: _, [] => rfl
 | x :: a, y :: b => by
  rw [Lib.compareBytes, Lib.compareBytes, cmpB_anti a b]
  by_cases h : x < y
  ·have h2 : ¬ y < x := fun h2 => by have h : x.toNat < y.toNat := h; have h2 : y.toNat < x.toNat := h2; omega
   rw [if_pos h, if_neg h2, if_pos h]; rfl
  ·by_cases h2 : y < x
   ·rw [if_pos h2, if_neg h, if_pos h2]
   ·rw [if_neg h2, if_neg h, if_neg h, if_neg h2]
theorem order_f (a b : List UInt8) : spec_order.f (ofL a) (ofL b) = some (Lib.compareBytes a b) := by
 unfold spec_order.f
 rw [toList_ofL, toList_ofL, bless, bless, cmpB_anti a b]
 rcases cmpB_range a b with h | h | h <;> rw [h] <;> rfl
/-- Digits without the zeros ahead. -/
def stripZ (l : List UInt8) : List UInt8 := l.dropWhile (· == 48)
def cmpD (a b : List UInt8) : Int := if (stripZ a).length = (stripZ b).length then Lib.compareBytes (stripZ a) (stripZ b) else cmpI ((stripZ a).length : Int) ((stripZ b).length : Int)
theorem strip_not (c : UInt8) (l : List UInt8) (e : ¬ c = 48) : stripZ (c :: l) = c :: l := by
 rw [stripZ, List.dropWhile_cons, if_neg (by simpa using e)]
theorem ext1 (c : UInt8) (r : List UInt8) : (ofL (c :: r)).extract 1 (ofL (c :: r)).size = ofL r := by
 rw [ofL_size, ofL_extract, List.take_length]
 rfl
theorem onum3 (a b : List UInt8) : Ev (fun k => spec_orderNumbers.j3 k (ofL a) (ofL b)) (if a.length = b.length then Lib.compareBytes a b else cmpI (a.length : Int) (b.length : Int)) := by
 refine Ev.step (fun _ => by rw [spec_orderNumbers.j3, ofL_size, ofL_size, order_f, orderI_f]) ?_
 by_cases h : a.length = b.length
 ·rw [if_pos h]
  exact ev_pos (by omega) (ev_now rfl)
 ·rw [if_neg h]
  exact ev_neg (by omega) (ev_now rfl)
theorem onum1 (a : List UInt8) : ∀ (b : List UInt8), b.length ≤ 140737488351232 → Ev (fun k => spec_orderNumbers.l1 k (ofL a) (ofL b)) (if a.length = (stripZ b).length then Lib.compareBytes a (stripZ b) else cmpI (a.length : Int) ((stripZ b).length : Int))
 | [], _ => Ev.step (fun _ => by rw [spec_orderNumbers.l1]) (ev_neg (by rw [ofL_size]; simp) (onum3 a []))
 | c :: b, h => by
  have hb : bt (ofL (c :: b)) 0 = (c.toNat : Int) := bt_ofL (c :: b) 0 (by simp)
  have hs := ofL_size (c :: b)
  have hl : (c :: b).length = b.length + 1 := rfl
  refine Ev.step (fun _ => by rw [spec_orderNumbers.l1, hb, ext1]) (ev_pos (by omega) (ev_pos (by omega) ?_))
  by_cases e : c = 48
  ·subst e
   refine ev_pos rfl (ev_pos (by omega) ?_)
   have := onum1 a b (by omega)
   rw [show stripZ (48 :: b) = stripZ b from rfl]
   exact this
  ·refine ev_neg (fun h => e (UInt8.toNat_inj.1 (by have : (48 : UInt8).toNat = 48 := rfl; omega))) ?_
   rw [strip_not c b e]
   exact onum3 a (c :: b)
theorem onum0 (b : List UInt8) (hb0 : b.length ≤ 140737488351232) : ∀ (a : List UInt8), a.length ≤ 140737488351232 → Ev (fun k => spec_orderNumbers.l0 k (ofL a) (ofL b)) (cmpD a b)
 | [], _ => Ev.step (fun _ => by rw [spec_orderNumbers.l0]) (ev_neg (by rw [ofL_size]; simp) (Ev.step (fun _ => by rw [spec_orderNumbers.j1]) (onum1 [] b hb0)))
 | c :: a, h => by
  have hb : bt (ofL (c :: a)) 0 = (c.toNat : Int) := bt_ofL (c :: a) 0 (by simp)
  have hs := ofL_size (c :: a)
  have hl : (c :: a).length = a.length + 1 := rfl
  refine Ev.step (fun _ => by rw [spec_orderNumbers.l0, hb, ext1]) (ev_pos (by omega) (ev_pos (by omega) ?_))
  by_cases e : c = 48
  ·subst e
   refine ev_pos rfl (ev_pos (by omega) ?_)
   have := onum0 b hb0 a (by omega)
   rw [cmpD, show stripZ (48 :: a) = stripZ a from rfl]
   exact this
  ·refine ev_neg (fun h => e (UInt8.toNat_inj.1 (by have : (48 : UInt8).toNat = 48 := rfl; omega))) ?_
   rw [cmpD, strip_not c a e]
   exact Ev.step (fun _ => by rw [spec_orderNumbers.j1]) (onum1 (c :: a) b hb0)
theorem orderNumbers_ev (a b : List UInt8) (ha : a.length ≤ 140737488351232) (hb : b.length ≤ 140737488351232) : Ev (fun k => spec_orderNumbers.f k (ofL a) (ofL b)) (cmpD a b) := onum0 b hb a ha
end Go.Proofs.YtmhlmkefnmdbcaaDoor.Com

namespace Go.Proofs.YtmhlmkefnmdbcaaDoor.Com
open Go.RowKit Go.Proofs.YtmhlmkefnmdbcaaDoor.Z Go.Proofs.YtmhlmkefnmdbcaaDoor.Evs Go.Proofs.YtmhlmkefnmdbcaaDoor.By Go.Proofs.YtmhlmkefnmdbcaaDoorW.PrintWords Go.Proofs.YtmhlmkefnmdbcaaDoorW.PrintLast
set_option linter.unusedVariables false
set_option linter.unusedSimpArgs false

theorem canon_false (l : List UInt8) : ∀ pd pd', canonL l false pd = canonL l false pd' := by
 induction l with
 | nil => intro _ _; rfl
 | cons c l ih =>
  intro pd pd'
  by_cases h : c = 46
  ·subst h
   rw [canon_dot, canon_dot, ih pd pd']
  ·rw [canon_one _ _ _ _ h rfl, canon_one _ _ _ _ h rfl]
theorem canon_idem (l : List UInt8) : ∀ cp pd, canonL (canonL l cp pd) cp pd = canonL l cp pd := by
 induction l with
 | nil => intro _ _; rfl
 | cons c l ih =>
  intro cp pd
  by_cases h : c = 46
  ·subst h
   rw [canon_dot, canon_dot, ih]
  ·cases h2 : (cp && (pd != digC c)) with
   | true =>
    rw [canon_two _ _ _ _ h h2, canon_dot, canon_one _ _ _ _ h rfl, ih]
   | false =>
    rw [canon_one _ _ _ _ h h2, canon_one _ _ _ _ h h2, ih]
theorem canon_length (l : List UInt8) : ∀ cp pd, (canonL l cp pd).length ≤ 2 * l.length := by
 induction l with
 | nil => intro _ _; simp [canonL]
 | cons c l ih =>
  intro cp pd
  by_cases h : c = 46
  ·subst h
   rw [canon_dot]
   have := ih false pd
   simp only [List.length_cons]
   omega
  ·have := ih true (digC c)
   cases h2 : (cp && (pd != digC c)) with
   | true =>
    rw [canon_two _ _ _ _ h h2]
    simp only [List.length_cons]
    omega
   | false =>
    rw [canon_one _ _ _ _ h h2]
    simp only [List.length_cons]
    omega
theorem canon_ascii (l : List UInt8) : (∀ c ∈ l, c.toNat < 128) → ∀ cp pd, ∀ c ∈ canonL l cp pd, c.toNat < 128 := by
 induction l with
 | nil => intro _ _ _ c hc; simp [canonL] at hc
 | cons a l ih =>
  intro ha cp pd c hc
  have h0 := ha a (by simp)
  have ih := ih (fun x hx => ha x (by simp [hx]))
  have p46 : (46 : UInt8).toNat < 128 := by decide
  by_cases h : a = 46
  ·subst h
   rw [canon_dot] at hc
   rcases List.mem_cons.1 hc with rfl | hc
   ·exact p46
   ·exact ih _ _ c hc
  ·cases h2 : (cp && (pd != digC a)) with
   | true =>
    rw [canon_two _ _ _ _ h h2] at hc
    rcases List.mem_cons.1 hc with rfl | hc
    ·exact p46
    ·rcases List.mem_cons.1 hc with rfl | hc
     ·exact h0
     ·exact ih _ _ c hc
   | false =>
    rw [canon_one _ _ _ _ h h2] at hc
    rcases List.mem_cons.1 hc with rfl | hc
    ·exact h0
    ·exact ih _ _ c hc
theorem c46 (c : UInt8) : (c.toNat : Int) = 46 ↔ c = 46 := ⟨fun h => UInt8.toNat_inj.1 (by have : (46 : UInt8).toNat = 46 := rfl; omega), fun h => by rw [h]; rfl⟩
/-- What stands ahead of a place. -/
def Prev (l : List UInt8) (i : Nat) (cp pd : Bool) : Prop := (i = 0 ∧ cp = false) ∨ (∃ h : i - 1 < l.length, 0 < i ∧ (l[i - 1]'h = 46 ∧ cp = false ∨ ¬ l[i - 1]'h = 46 ∧ cp = true ∧ pd = dg (l[i - 1]'h)))
theorem canon_l (l : List UInt8) (hl : l.length ≤ 100000) (d : Nat) : ∀ (i : Nat) (A : List UInt8) (cp pd : Bool), i + d = l.length → A.length ≤ 2 * i → Prev l i cp pd →
  Ev (fun k => spec_RubyCanonical.l0 k (ofL l) (numsOf A) (i : Int)) (ofL (A ++ canonL (l.drop i) cp pd)) := by
 have hs := ofL_size l
 induction d with
 | zero =>
  intro i A cp pd h ha hp
  refine Ev.step (fun _ => by rw [spec_RubyCanonical.l0]) (ev_neg (by omega) (ev_now ?_))
  rw [List.drop_of_length_le (by omega), strOf_numsOf]
  simp [canonL]
 | succ d ih =>
  intro i A cp pd h ha hp
  have hi : i < l.length := by omega
  have hc := bt_ofL l i hi
  have e : l.drop i = l[i] :: l.drop (i + 1) := List.drop_eq_getElem_cons hi
  have hn := numsOf_length A
  have hw : wrap64 ((i : Int) + 1) = ((i + 1 : Nat) : Int) := wrap_nat (by omega)
  have hd := isDigit_f l[i]
  have next1 : ∀ pd', dg l[i] = pd' → ¬ l[i] = 46 → (cp && (pd != dg l[i])) = false → Ev (fun k => spec_RubyCanonical.l0 k (ofL l) (numsOf A ++ [(l[i].toNat : Int)]) ((i + 1 : Nat) : Int)) (ofL (A ++ canonL (l.drop i) cp pd)) := by
   intro pd' hpd hne hq
   rw [numsOf_one, numsOf_append]
   refine ev_eq (ih (i + 1) (A ++ [l[i]]) true pd' (by omega) (by simp; omega) (Or.inr ⟨by simpa using hi, by omega, Or.inr ⟨by simpa using hne, rfl, by simp [hpd]⟩⟩)) ?_
   rw [e, canon_one _ _ _ _ hne hq, List.append_assoc]
   rw [← hpd]
   rfl
  rcases hp with ⟨rfl, rfl⟩ | ⟨hj, hi0, hp⟩
  ·refine Ev.step (fun _ => by rw [spec_RubyCanonical.l0, hc, hw]) (ev_pos (by omega) (ev_neg (by omega) (ev_pos (by omega) (ev_pos (by omega) ?_))))
   by_cases h46 : l[0] = 46
   ·rw [numsOf_one, numsOf_append]
    refine ev_eq (ih 1 (A ++ [l[0]]) false pd (by omega) (by simp; omega) (Or.inr ⟨by omega, by omega, Or.inl ⟨h46, rfl⟩⟩)) ?_
    rw [e, h46, canon_dot]
    simp
   ·exact next1 _ rfl h46 rfl
  ·have hb : bt (ofL l) (wrap64 ((i : Int) - 1)) = (l[i - 1].toNat : Int) := by
    rw [wrap_in (by omega) (by omega), show (i : Int) - 1 = ((i - 1 : Nat) : Int) by omega]
    exact bt_ofL l (i - 1) hj
   have hw1 : wrap64 ((i : Int) - 1) = (i : Int) - 1 := wrap_in (by omega) (by omega)
   refine Ev.step (fun _ => by rw [spec_RubyCanonical.l0, hc, hw, hb, hd, isDigit_f, Option.bind_some, Option.bind_some, Option.bind_some]) (ev_pos (by omega) (ev_pos (by omega) (ev_pos (by omega) ?_)))
   by_cases h46 : l[i] = 46
   ·refine ev_pos ((c46 _).2 h46) (ev_pos (by omega) ?_)
    rw [numsOf_one, numsOf_append]
    refine ev_eq (ih (i + 1) (A ++ [l[i]]) false pd (by omega) (by simp; omega) (Or.inr ⟨by simpa using hi, by omega, Or.inl ⟨by simpa using h46, rfl⟩⟩)) ?_
    rw [e, h46, canon_dot]
    simp
   ·refine ev_neg (fun hh => h46 ((c46 _).1 hh)) (ev_pos (by omega) (ev_pos (by omega) ?_))
    rcases hp with ⟨hp, rfl⟩ | ⟨hp, rfl, rfl⟩
    ·refine ev_pos ((c46 _).2 hp) (ev_pos (by omega) ?_)
     exact next1 _ rfl h46 rfl
    ·refine ev_neg (fun hh => hp ((c46 _).1 hh)) ?_
     cases h2 : (dg l[i] != dg l[i - 1]) with
     | true =>
      refine ev_t (ev_pos (by omega) (ev_pos (by rw [List.length_append]; simp; omega) ?_))
      have h3 : (true && (dg l[i - 1] != digC l[i])) = true := by
       rw [Bool.true_and]
       show (dg l[i - 1] != dg l[i]) = true
       rw [← h2]
       cases dg l[i] <;> cases dg l[i - 1] <;> rfl
      have h46n : [(46 : Int)] = numsOf [46] := rfl
      rw [numsOf_one, h46n, numsOf_append, numsOf_append]
      refine ev_eq (ih (i + 1) ((A ++ [46]) ++ [l[i]]) true (dg l[i]) (by omega) (by simp; omega) (Or.inr ⟨by simpa using hi, by omega, Or.inr ⟨by simpa using h46, rfl, by simp⟩⟩)) ?_
      rw [e, canon_two _ _ _ _ h46 h3, List.append_assoc, List.append_assoc]
      rfl
     | false =>
      refine ev_f (ev_pos (by omega) ?_)
      refine next1 _ rfl h46 ?_
      rw [Bool.true_and, ← h2]
      cases dg l[i] <;> cases dg l[i - 1] <;> rfl
theorem canon_ev (l : List UInt8) (hl : l.length ≤ 100000) : Ev (fun k => spec_RubyCanonical.f k (ofL l)) (ofL (canonL l false true)) := by
 have := canon_l l hl l.length 0 [] false true (by omega) (by simp) (Or.inl ⟨rfl, rfl⟩)
 exact this
theorem cutP_sizes (p : UInt8 → Bool) (l : List UInt8) : (cutP p l).length ≤ l.length + 1 ∧ ∀ x ∈ cutP p l, x.length ≤ l.length := by
 induction l with
 | nil => simp [cutP]
 | cons c l ih =>
  unfold cutP
  split
  ·constructor
   ·simp; omega
   ·intro x hx
    rcases List.mem_cons.1 hx with rfl | hx
    ·simp
    ·have := ih.2 x hx
     simp; omega
  ·cases e : cutP p l with
   | nil => exact absurd e (cutP_ne p l)
   | cons y r =>
    rw [e] at ih
    obtain ⟨h1, h2⟩ := ih
    constructor
    ·simp at h1 ⊢; omega
    ·intro x hx
     rcases List.mem_cons.1 hx with rfl | hx
     ·have := h2 y (by simp)
      simp; omega
     ·have := h2 x (by simp [hx])
      simp; omega
/-- The pieces of a version's text. -/
def rbPcs (l : List UInt8) : List (List UInt8) := cutP ptB (canonL l false true)
theorem rubyKnown_ev (l : List UInt8) (hl : l.length ≤ 10000) : ∃ r, Ev (fun k => spec_RubyKnown.f k (ofL l)) r ∧ (r = true → (∀ c ∈ l, c.toNat < 128) ∧ segK (rbPcs l) = true) := by
 obtain ⟨b, hb, ha⟩ := ascii_ev (ofL l) (by rw [ofL_size]; omega)
 cases b with
 | false =>
  refine ⟨false, ?_, by simp⟩
  unfold spec_RubyKnown.f
  exact Ev.bind hb (ev_f (ev_now rfl))
 | true =>
  have hlen := canon_length l false true
  obtain ⟨s1, s2⟩ := cutP_sizes ptB (canonL l false true)
  refine ⟨segK (rbPcs l), ?_, fun hr => ⟨fun c hc => ?_, hr⟩⟩
  ·unfold spec_RubyKnown.f
   refine Ev.bind hb (ev_t (Ev.bind (canon_ev l (by omega)) (Ev.bind (cut_ev _ (by omega) 42) (Ev.bind (seg_ev _ (by omega) ?_) (ev_now rfl)))))
   intro x hx
   have := s2 x hx
   omega
  ·obtain ⟨j, hj, rfl⟩ := List.mem_iff_getElem.1 hc
   exact ha rfl j (by rw [ofL_size]; exact hj)
theorem rbPcs_sizes (l : List UInt8) : (rbPcs l).length ≤ 2 * l.length + 1 ∧ ∀ x ∈ rbPcs l, x.length ≤ 2 * l.length := by
 have hlen := canon_length l false true
 obtain ⟨s1, s2⟩ := cutP_sizes ptB (canonL l false true)
 exact ⟨by unfold rbPcs; omega, fun x hx => by have := s2 x hx; omega⟩
theorem canonF (l : List UInt8) (hl : l.length ≤ 100000) (ha : ∀ c ∈ l, c.toNat < 128) : semantic_canonicalizeRubyGemVersion.f (ofL l) = some (ofL (canonL l false true)) := by
 have h1 : decide (∀ i : Nat, (h : i < (ofL l).size) → ((ofL l)[i]'h).toNat < 128) = true := decide_eq_true fun i h => by
  rw [ofL_get]
  exact ha _ (List.getElem_mem _)
 have h2 : decide ((ofL l).size ≤ 140737488351) = true := decide_eq_true (by rw [ofL_size]; omega)
 unfold semantic_canonicalizeRubyGemVersion.f
 rw [h1, h2]
 rfl
end Go.Proofs.YtmhlmkefnmdbcaaDoor.Com

namespace Go.Proofs.YtmhlmkefnmdbcaaDoor.Com
open Go Go.RowKit Go.Proofs.YtmhlmkefnmdbcaaDoor.Z Go.Proofs.YtmhlmkefnmdbcaaDoor.Evs Go.Proofs.YtmhlmkefnmdbcaaDoor.By Go.Proofs.YtmhlmkefnmdbcaaDoor.Ss Go.Proofs.YtmhlmkefnmdbcaaDoorW.PrintWords Go.Proofs.YtmhlmkefnmdbcaaDoorW.PrintLast
set_option linter.unusedVariables false
set_option linter.unusedSimpArgs false

/-- How many segments stay. -/
def tz (l : List ByteArray) : Nat → Nat
 | 0 => 0
 | n + 1 => if (l.getD n ByteArray.empty).toList = ([48] : List UInt8) then tz l n else n + 1
theorem tz_le (l : List ByteArray) : ∀ n, tz l n ≤ n
 | 0 => Nat.le_refl _
 | n + 1 => by
  unfold tz
  split
  ·exact Nat.le_succ_of_le (tz_le l n)
  ·exact Nat.le_refl _
theorem zeros_l (l : List ByteArray) (hl : l.length ≤ 1000000) : ∀ n : Nat, n ≤ l.length → Ev (fun k => semantic_removeZeros.l0 k l ((n : Int) - 1)) (l.take (tz l n))
 | 0, _ => by
  have h : ((0 : Nat) : Int) - 1 = -1 := by omega
  have hm : mx (-1 : Int) 0 = 0 := by unfold mx; simp
  rw [h]
  refine Ev.step (fun _ => by rw [semantic_removeZeros.l0, hm]) (ev_neg (by omega) (ev_pos (by omega) (ev_pos (by omega) (ev_now ?_))))
  rfl
 | n + 1, hn => by
  have h : ((n + 1 : Nat) : Int) - 1 = (n : Int) := by omega
  have hw : wrap64 ((n : Int) + 1) = ((n + 1 : Nat) : Int) := wrap_nat (by omega)
  have hw2 : wrap64 ((n : Int) - 1) = (n : Int) - 1 := wrap_in (by omega) (by omega)
  have hm : mx ((n + 1 : Nat) : Int) 0 = ((n + 1 : Nat) : Int) := by unfold mx; rw [if_neg (by omega)]
  rw [h]
  unfold tz
  by_cases c : (l.getD n ByteArray.empty).toList = ([48] : List UInt8)
  ·rw [if_pos c]
   exact Ev.step (fun _ => by rw [semantic_removeZeros.l0, rdOf_nat, hw2]) (ev_pos (by omega) (ev_pos (by omega) (ev_pos (by omega) (ev_pos c (zeros_l l hl n (by omega))))))
  ·rw [if_neg c]
   refine Ev.step (fun _ => by rw [semantic_removeZeros.l0, rdOf_nat, hw, hm]) (ev_pos (by omega) (ev_pos (by omega) (ev_pos (by omega) (ev_neg c (ev_pos (by omega) (ev_pos (by omega) (ev_now ?_)))))))
   rfl
theorem zeros_f (l : List ByteArray) (hl : l.length ≤ 1000000) : Ev (fun k => semantic_removeZeros.f k l) (l.take (tz l l.length)) := by
 unfold semantic_removeZeros.f
 rw [wrap_in (by omega) (by omega)]
 exact zeros_l l hl l.length (Nat.le_refl _)
theorem dig_sg {l : List UInt8} (h : allD l = true) : sgN (ofL l) = 0 ∧ sgB (ofL l) = false := by
 cases l with
 | nil => cases h
 | cons c r =>
  have h0 : 0 < (ofL (c :: r)).size := by rw [ofL_size]; simp
  have hg : (ofL (c :: r))[0]'h0 = c := rfl
  have hd : dg c = true := by
   unfold allD at h
   rw [Bool.and_eq_true] at h
   exact List.all_eq_true.1 h.1 c (by simp)
  have h1 : ¬ c = 45 := fun e => by subst e; revert hd; decide
  have h2 : ¬ c = 43 := fun e => by subst e; revert hd; decide
  unfold sgN sgB
  rw [dif_pos h0, dif_pos h0, hg, if_neg (by simp [h1, h2])]
  exact ⟨rfl, beq_eq_false_iff_ne.2 h1⟩
theorem cvt_digits {l : List UInt8} (h : allD l = true) : cvt (ofL l) = some (Bv.decV l) := by
 obtain ⟨h1, h2⟩ := dig_sg h
 have hb := h
 unfold allD at hb
 rw [Bool.and_eq_true] at hb
 have hl : 0 < l.length := of_decide_eq_true hb.2
 unfold cvt
 rw [h1, h2, bl_ofL, List.drop_zero, if_pos ⟨fun e => by rw [e] at hl; simp at hl, hb.1⟩]
 rfl
theorem cvt_other {l : List UInt8} (h : allD l = false) (hs : signed l = false) : cvt (ofL l) = none := by
 refine if_neg ?_
 rw [bl_ofL]
 rintro ⟨h1, h2⟩
 cases l with
 | nil => exact h1 (by simp)
 | cons c r =>
  have h0 : 0 < (ofL (c :: r)).size := by rw [ofL_size]; simp
  have hg : (ofL (c :: r))[0]'h0 = c := rfl
  have hn : sgN (ofL (c :: r)) = if c = 45 ∨ c = 43 then 1 else 0 := by
   unfold sgN
   rw [dif_pos h0, hg]
  rw [hn] at h1 h2
  by_cases hc : c = 45 ∨ c = 43
  ·rw [if_pos hc] at h1 h2
   have e : signed (c :: r) = allD r := by
    have : (c == 45 || c == 43) = true := by
     rcases hc with rfl | rfl <;> rfl
    simp only [signed, this, Bool.true_and]
   rw [e] at hs
   unfold allD at hs
   have h3 : r.all dg = true := h2
   have h4 : 0 < r.length := List.length_pos_iff.2 h1
   rw [h3, decide_eq_true h4] at hs
   cases hs
  ·rw [if_neg hc] at h1 h2
   unfold allD at h
   have h3 : (c :: r).all dg = true := h2
   rw [h3, decide_eq_true (by simp)] at h
   cases h
theorem qB_range : ∀ a b : List UInt8, Lib.compareBytes a b = -1 ∨ Lib.compareBytes a b = 0 ∨ Lib.compareBytes a b = 1
 | [], [] => .inr (.inl rfl)
 | [], _ :: _ => .inl rfl
 | _ :: _, [] => .inr (.inr rfl)
 | x :: a, y :: b => by
  rw [Lib.compareBytes]
  split
  ·exact .inl rfl
  ·split
   ·exact .inr (.inr rfl)
   ·exact qB_range a b
theorem qB_anti : ∀ a b : List UInt8, Lib.compareBytes b a = -Lib.compareBytes a b
 | [], [] => rfl
 | [], _ :: _ => rfl
 | _ :: _, [] => rfl
 | x :: a, y :: b => by
  rw [Lib.compareBytes, Lib.compareBytes, qB_anti a b]
  by_cases h : x < y
  ·have h2 : ¬ y < x := fun h2 => by have h : x.toNat < y.toNat := h; have h2 : y.toNat < x.toNat := h2; omega
   rw [if_pos h, if_neg h2, if_pos h]; rfl
  ·by_cases h2 : y < x
   ·rw [if_pos h2, if_neg h, if_pos h2]
   ·rw [if_neg h2, if_neg h, if_neg h, if_neg h2]
theorem cmpZ_range (a b : Int) : Bn.cmpZ a b = -1 ∨ Bn.cmpZ a b = 0 ∨ Bn.cmpZ a b = 1 := by
 unfold Bn.cmpZ
 split
 ·simp
 ·split <;> simp
theorem cmpZ_anti (a b : Int) : Bn.cmpZ b a = -Bn.cmpZ a b := by
 unfold Bn.cmpZ
 rcases Int.lt_trichotomy a b with h | h | h
 ·rw [if_neg (by omega), if_pos h, if_pos h]
  rfl
 ·rw [if_neg (by omega), if_neg (by omega), if_neg (by omega), if_neg (by omega)]
  rfl
 ·rw [if_pos h, if_neg (by omega), if_pos h]
theorem rbC_range (x y : ByteArray) : rbC x y = -1 ∨ rbC x y = 0 ∨ rbC x y = 1 := by
 unfold rbC
 split
 ·exact cmpZ_range _ _
 ·exact qB_range _ _
 ·simp
 ·simp
theorem rbC_anti (x y : ByteArray) : rbC y x = -rbC x y := by
 unfold rbC
 cases cvt x <;> cases cvt y
 ·exact qB_anti _ _
 ·rfl
 ·rfl
 ·exact cmpZ_anti _ _
theorem rbsC_range : ∀ l r : List ByteArray, rbsC l r = -1 ∨ rbsC l r = 0 ∨ rbsC l r = 1
 | [], [] => .inr (.inl (by rw [rbsC]))
 | x :: l, [] => by
  rw [rbsC]
  split
  ·exact rbsC_range l []
  ·exact rbC_range _ _
 | [], y :: r => by
  rw [rbsC]
  split
  ·exact rbsC_range [] r
  ·exact rbC_range _ _
 | x :: l, y :: r => by
  rw [rbsC]
  split
  ·exact rbsC_range l r
  ·exact rbC_range _ _
theorem rbsC_anti : ∀ l r : List ByteArray, rbsC r l = -rbsC l r
 | [], [] => by rw [rbsC]; rfl
 | x :: l, [] => by
  rw [rbsC, rbsC, rbC_anti x rbZ]
  by_cases h : rbC x rbZ = 0
  ·rw [if_pos h, if_pos (by omega), rbsC_anti l []]
  ·rw [if_neg h, if_neg (by omega)]
 | [], y :: r => by
  rw [rbsC, rbsC, rbC_anti rbZ y]
  by_cases h : rbC rbZ y = 0
  ·rw [if_pos h, if_pos (by omega), rbsC_anti [] r]
  ·rw [if_neg h, if_neg (by omega)]
 | x :: l, y :: r => by
  rw [rbsC, rbsC, rbC_anti x y]
  by_cases h : rbC x y = 0
  ·rw [if_pos h, if_pos (by omega), rbsC_anti l r]
  ·rw [if_neg h, if_neg (by omega)]
/-- A list without its zeros at the end. -/
def trimZ (l : List ByteArray) : List ByteArray := l.take (tz l l.length)
theorem trimZ_sub (l : List ByteArray) : ∀ x ∈ trimZ l, x ∈ l := fun x hx => List.mem_of_mem_take hx
theorem trimZ_len (l : List ByteArray) : (trimZ l).length ≤ l.length := by
 unfold trimZ
 rw [List.length_take]
 omega
/-- The segments of a version's text. -/
def rbSg (ps : List ByteArray) : List ByteArray := trimZ (ps.takeWhile rbN) ++ trimZ (ps.dropWhile rbN)
def rbS (l : List UInt8) : List ByteArray := rbSg ((rbPcs l).map ofL)
theorem rbSg_sub (ps : List ByteArray) : ∀ x ∈ rbSg ps, x ∈ ps := by
 intro x hx
 rcases List.mem_append.1 hx with hx | hx
 ·exact (List.takeWhile_sublist _).subset (trimZ_sub _ x hx)
 ·exact (List.dropWhile_sublist _).subset (trimZ_sub _ x hx)
theorem tw_len (ps : List ByteArray) : (ps.takeWhile rbN).length ≤ ps.length ∧ (ps.dropWhile rbN).length ≤ ps.length := ⟨(List.takeWhile_sublist _).length_le, (List.dropWhile_sublist _).length_le⟩
theorem rbSg_len (ps : List ByteArray) : (rbSg ps).length ≤ 2 * ps.length := by
 have h1 := trimZ_len (ps.takeWhile rbN)
 have h2 := trimZ_len (ps.dropWhile rbN)
 obtain ⟨h3, h4⟩ := tw_len ps
 unfold rbSg
 rw [List.length_append]
 omega
theorem rbS_fit (l : List UInt8) (hl : l.length ≤ 10000) : rbFit ((rbPcs l).map ofL) = true ∧ rbFit (rbS l) = true := by
 obtain ⟨s1, s2⟩ := rbPcs_sizes l
 have h1 : ∀ x ∈ (rbPcs l).map ofL, x.size ≤ 1000000 := by
  intro x hx
  obtain ⟨y, hy, rfl⟩ := List.mem_map.1 hx
  rw [ofL_size]
  have := s2 y hy
  omega
 refine ⟨List.all_eq_true.2 fun x hx => decide_eq_true (h1 x hx), List.all_eq_true.2 fun x hx => decide_eq_true (h1 x (rbSg_sub _ x hx))⟩
theorem canonSegs_ev (l : List UInt8) (hl : l.length ≤ 10000) : Ev (fun k => semantic_canonicalSegments.f k ((rbPcs l).map ofL)) (rbS l) := by
 obtain ⟨s1, s2⟩ := rbPcs_sizes l
 have hm : ((rbPcs l).map ofL).length = (rbPcs l).length := List.length_map ..
 obtain ⟨h3, h4⟩ := tw_len ((rbPcs l).map ofL)
 have hg : semantic_groupSegments.f ((rbPcs l).map ofL) = some (((rbPcs l).map ofL).takeWhile rbN, ((rbPcs l).map ofL).dropWhile rbN) := by
  unfold semantic_groupSegments.f
  rw [(rbS_fit l hl).1, decide_eq_true (by omega)]
  rfl
 have h5 := trimZ_len (((rbPcs l).map ofL).takeWhile rbN)
 have h6 := trimZ_len (((rbPcs l).map ofL).dropWhile rbN)
 unfold semantic_canonicalSegments.f
 rw [hg]
 refine ev_some ?_
 refine Ev.bind (zeros_f _ (by show (List.takeWhile rbN _).length ≤ _; omega)) (Ev.bind (zeros_f _ (by show (List.dropWhile rbN _).length ≤ _; omega)) (ev_pos ?_ (ev_now rfl)))
 show (trimZ (((rbPcs l).map ofL).takeWhile rbN)).length + (trimZ (((rbPcs l).map ofL).dropWhile rbN)).length < _
 omega
theorem splitF (l : List UInt8) (hl : l.length ≤ 10000) : semantic_zzSplit.f (ofL (canonL l false true)) (⟨#[46]⟩ : ByteArray) = some ((rbPcs l).map ofL) := by
 have hlen := canon_length l false true
 unfold semantic_zzSplit.f
 rw [if_pos ⟨by rw [ofL_size]; omega, rfl⟩, bl_ofL]
 rfl
theorem implParse_ev (l : List UInt8) (hl : l.length ≤ 10000) (ha : ∀ c ∈ l, c.toNat < 128) : Ev (fun k => semantic_ParseRubyGemsVersion.f k (ofL l)) (ofL l, rbS l) := by
 unfold semantic_ParseRubyGemsVersion.f
 rw [canonF l (by omega) ha]
 refine ev_some ?_
 show Ev (fun k => (semantic_zzSplit.f (ofL (canonL l false true)) (⟨#[46]⟩ : ByteArray)).bind fun t126 => (semantic_canonicalSegments.f k t126).bind fun t129 => some (ofL l, t129)) _
 rw [splitF l hl]
 refine ev_some ?_
 exact Ev.bind (canonSegs_ev l hl) (ev_now rfl)
theorem rbCompF (o o' : ByteArray) (x y : List ByteArray) (hx : rbFit x = true) (hy : rbFit y = true) : semantic_RubyGemsVersion_compare.f o x o' y = some (rbsC x y) := by
 unfold semantic_RubyGemsVersion_compare.f semantic_compareRubyGemsComponents.f
 rw [hx, hy]
 rfl
theorem implCmp_ev (a b : List UInt8) (ha : a.length ≤ 10000) (hb : b.length ≤ 10000) (ka : ∀ c ∈ a, c.toNat < 128) (kb : ∀ c ∈ b, c.toNat < 128) : Ev (fun k => impl_RubyCompare.f k (ofL a) (ofL b)) (rbsC (rbS a) (rbS b), true) := by
 unfold impl_RubyCompare.f
 refine Ev.bind (implParse_ev a ha ka) (Ev.bind (implParse_ev b hb kb) ?_)
 show Ev (fun k => (semantic_RubyGemsVersion_compare.f (ofL a) (rbS a) (ofL b) (rbS b)).bind fun t => some (t, true)) _
 rw [rbCompF _ _ _ _ (rbS_fit a ha).2 (rbS_fit b hb).2]
 exact ev_now rfl
end Go.Proofs.YtmhlmkefnmdbcaaDoor.Com

namespace Go.Proofs.YtmhlmkefnmdbcaaDoor.Com
open Go Go.RowKit Go.Proofs.YtmhlmkefnmdbcaaDoor.Z Go.Proofs.YtmhlmkefnmdbcaaDoor.Evs Go.Proofs.YtmhlmkefnmdbcaaDoor.By Go.Proofs.YtmhlmkefnmdbcaaDoor.Ss Go.Proofs.YtmhlmkefnmdbcaaDoorW.PrintWords Go.Proofs.YtmhlmkefnmdbcaaDoorW.PrintLast
set_option linter.unusedVariables false
set_option linter.unusedSimpArgs false

theorem trim_l (l : List ByteArray) (hl : l.length ≤ 1000000) : ∀ n : Nat, n ≤ l.length → Ev (fun k => spec_RubyTrim.l0 k l (n : Int)) (l.take (tz l n))
 | 0, _ => by
  refine Ev.step (fun _ => by rw [spec_RubyTrim.l0]) (ev_neg (by omega) (ev_pos (by omega) (ev_pos (by omega) (ev_pos (by simp) (ev_now ?_)))))
  rfl
 | n + 1, hn => by
  have hw2 : wrap64 (((n + 1 : Nat) : Int) - 1) = (n : Int) := (wrap_in (by omega) (by omega)).trans (by omega)
  unfold tz
  by_cases c : (l.getD n ByteArray.empty).toList = ([48] : List UInt8)
  ·rw [if_pos c]
   exact Ev.step (fun _ => by rw [spec_RubyTrim.l0, hw2, rdOf_nat]) (ev_pos (by omega) (ev_pos (by omega) (ev_pos (by omega) (ev_pos c (trim_l l hl n (by omega))))))
  ·rw [if_neg c]
   refine Ev.step (fun _ => by rw [spec_RubyTrim.l0, hw2, rdOf_nat]) (ev_pos (by omega) (ev_pos (by omega) (ev_pos (by omega) (ev_neg c (ev_pos (by omega) (ev_pos (by omega) (ev_pos (by simp; omega) (ev_now ?_))))))))
   rfl
theorem cmpI_Z (a b : Int) : cmpI a b = Bn.cmpZ a b := rfl
theorem cmpD_Z {a b : List UInt8} (ha : allD a = true) (hb : allD b = true) : cmpD a b = Bn.cmpZ (Bv.decV a) (Bv.decV b) := by
 unfold allD at ha hb
 rw [Bool.and_eq_true] at ha hb
 exact Bv.dec_cmp a b ha.1 hb.1
theorem trim_ev (l : List ByteArray) (hl : l.length ≤ 1000000) : Ev (fun k => spec_RubyTrim.f k l) (trimZ l) := trim_l l hl l.length (Nat.le_refl _)
/-- A known list of segments. -/
def KnL (l : List ByteArray) : Prop := l.length ≤ 1000000 ∧ ∀ x ∈ l, x.size ≤ 1000000 ∧ signed (bl x) = false
theorem KnL_rbS (l : List UInt8) (hl : l.length ≤ 10000) (hk : segK (rbPcs l) = true) : KnL (rbS l) := by
 obtain ⟨s1, s2⟩ := rbPcs_sizes l
 have hm : ((rbPcs l).map ofL).length = (rbPcs l).length := List.length_map ..
 have h1 := rbSg_len ((rbPcs l).map ofL)
 refine ⟨by unfold rbS; omega, fun x hx => ?_⟩
 obtain ⟨y, hy, rfl⟩ := List.mem_map.1 (rbSg_sub _ x hx)
 have := s2 y hy
 refine ⟨by rw [ofL_size]; omega, ?_⟩
 rw [bl_ofL]
 unfold segK idK at hk
 rw [Bool.and_eq_true] at hk
 have := List.all_eq_true.1 hk.2 y hy
 simpa using this
theorem signed_Z : signed (bl rbZ) = false := by decide
/-- How two segments compare, as the page has it. -/
def pgR (x y : List UInt8) : Int := if allD x && allD y then cmpD x y else if allD x then 1 else if allD y then -1 else Lib.compareBytes x y
theorem pgR_rbC {x y : List UInt8} (hx : signed x = false) (hy : signed y = false) : rbC (ofL x) (ofL y) = pgR x y := by
 unfold rbC pgR
 cases ha : allD x <;> cases hb : allD y
 ·rw [cvt_other ha hx, cvt_other hb hy]
  rfl
 ·rw [cvt_other ha hx, cvt_digits hb]
  rfl
 ·rw [cvt_digits ha, cvt_other hb hy]
  rfl
 ·rw [cvt_digits ha, cvt_digits hb]
  exact (cmpD_Z ha hb).symm
theorem j3_ev (l r : List ByteArray) (i : Int) (x y : ByteArray) (hx : x.size ≤ 1000000) (hy : y.size ≤ 1000000) (sx : signed (bl x) = false) (sy : signed (bl y) = false) (s : Int) (hs : rbC x y = 0 → Ev (fun k => spec_RubySegments.l0 k l r (wrap64 (i + 1))) s) (hs' : ¬ rbC x y = 0 → s = rbC x y) : Ev (fun k => spec_RubySegments.j3 k l r i x y) s := by
 have hp := pgR_rbC sx sy
 rw [ofL_bl, ofL_bl] at hp
 have hdx := digits_ev (bl x) (by rw [bl_length]; omega)
 have hdy := digits_ev (bl y) (by rw [bl_length]; omega)
 rw [ofL_bl] at hdx hdy
 have hon := orderNumbers_ev (bl x) (bl y) (by rw [bl_length]; omega) (by rw [bl_length]; omega)
 rw [ofL_bl, ofL_bl] at hon
 have hor := order_f (bl x) (bl y)
 rw [ofL_bl, ofL_bl] at hor
 have fin : ∀ (v : Int), rbC x y = v → Ev (fun k => if v = 0 then spec_RubySegments.l0 k l r (wrap64 (i + 1)) else some v) s := by
  intro v hv
  by_cases h0 : v = 0
  ·exact ev_pos h0 (hs (by omega))
  ·exact ev_neg h0 (ev_now (by rw [hs' (by omega), hv]))
 refine Ev.step (fun _ => by rw [spec_RubySegments.j3]) (Ev.bind hdx (Ev.bind hdy ?_))
 unfold pgR at hp
 cases ha : allD (bl x) <;> cases hb : allD (bl y) <;> rw [ha, hb] at hp
 ·refine ev_f (Ev.step (fun _ => by rw [spec_RubySegments.j4, hor, Option.bind_some]) ?_)
  exact ev_f (ev_f (ev_f (fin _ hp)))
 ·refine ev_f (Ev.step (fun _ => by rw [spec_RubySegments.j4]) ?_)
  exact ev_f (ev_f (ev_t (fin _ hp)))
 ·refine ev_t (Ev.step (fun _ => by rw [spec_RubySegments.j4]) ?_)
  exact ev_f (ev_t (fin _ hp))
 ·refine ev_t (Ev.step (fun _ => by rw [spec_RubySegments.j4]) ?_)
  exact ev_t (Ev.bind hon (fin _ hp))
theorem rd_at' (l : List ByteArray) (i : Nat) (h : i < l.length) : rdOf ByteArray.empty l (i : Int) = rbGet l i := by
 rw [rdOf_nat, rbGet_in h, List.getD_eq_getElem?_getD, List.getElem?_eq_getElem h]
 rfl
theorem KnL_get {l : List ByteArray} (h : KnL l) (i : Nat) : (rbGet l i).size ≤ 1000000 ∧ signed (bl (rbGet l i)) = false := by
 by_cases hi : i < l.length
 ·rw [rbGet_in hi]
  exact h.2 _ (List.getElem_mem hi)
 ·rw [rbGet_out (by omega)]
  exact ⟨by decide, signed_Z⟩
theorem segs_l (l r : List ByteArray) (hl : KnL l) (hr : KnL r) (d : Nat) : ∀ i : Nat, i + d = max l.length r.length → Ev (fun k => spec_RubySegments.l0 k l r (i : Int)) (rbsC (l.drop i) (r.drop i)) := by
 have b1 := hl.1
 have b2 := hr.1
 induction d with
 | zero =>
  intro i h
  have h1 : l.length ≤ i := by have := Nat.le_max_left l.length r.length; omega
  have h2 : r.length ≤ i := by have := Nat.le_max_right l.length r.length; omega
  refine Ev.step (fun _ => by rw [spec_RubySegments.l0]) (ev_neg (by omega) ?_)
  have e0 : rbsC [] [] = 0 := by rw [rbsC]
  rw [decide_eq_false (by omega), List.drop_of_length_le h1, List.drop_of_length_le h2, e0]
  exact Ev.step (fun _ => by rw [spec_RubySegments.j1]) (ev_f (ev_now rfl))
 | succ d ih =>
  intro i h
  have hw : wrap64 ((i : Int) + 1) = ((i + 1 : Nat) : Int) := wrap_nat (by omega)
  have next := ih (i + 1) (by omega)
  rw [← hw] at next
  have hst := rbsC_step l r i (by omega)
  have k1 := KnL_get hl i
  have k2 := KnL_get hr i
  have j3 := j3_ev l r (i : Int) (rbGet l i) (rbGet r i) k1.1 k2.1 k1.2 k2.2 (rbsC (l.drop i) (r.drop i)) (fun h0 => by rw [hst, if_pos h0]; exact next) (fun h0 => by rw [hst, if_neg h0])
  have j2 : Ev (fun k => spec_RubySegments.j2 k l r (i : Int) (rbGet l i) (⟨#[48]⟩ : ByteArray)) (rbsC (l.drop i) (r.drop i)) := by
   refine Ev.step (fun _ => by rw [spec_RubySegments.j2]) ?_
   by_cases h2 : i < r.length
   ·rw [rd_at' r i h2]
    exact ev_pos (by omega) (ev_pos (by omega) j3)
   ·refine ev_neg (by omega) ?_
    have e : rbGet r i = (⟨#[48]⟩ : ByteArray) := rbGet_out (by omega)
    rw [e] at j3
    exact j3
  have j1 : Ev (fun k => spec_RubySegments.j1 k l r (i : Int) true) (rbsC (l.drop i) (r.drop i)) := by
   refine Ev.step (fun _ => by rw [spec_RubySegments.j1]) (ev_t ?_)
   by_cases h1 : i < l.length
   ·rw [rd_at' l i h1]
    exact ev_pos (by omega) (ev_pos (by omega) j2)
   ·refine ev_neg (by omega) ?_
    have e : rbGet l i = (⟨#[48]⟩ : ByteArray) := rbGet_out (by omega)
    rw [e] at j2
    exact j2
  refine Ev.step (fun _ => by rw [spec_RubySegments.l0]) ?_
  by_cases h1 : i < l.length
  ·exact ev_pos (by omega) j1
  ·refine ev_neg (by omega) ?_
   rw [decide_eq_true (by omega)]
   exact j1
theorem segs_ev (l r : List ByteArray) (hl : KnL l) (hr : KnL r) : Ev (fun k => spec_RubySegments.f k l r) (rbsC l r) := segs_l l r hl hr (max l.length r.length) 0 (by omega)
end Go.Proofs.YtmhlmkefnmdbcaaDoor.Com

namespace Go.Proofs.YtmhlmkefnmdbcaaDoor.Com
open Go.RowKit Go.Proofs.YtmhlmkefnmdbcaaDoor.Z Go.Proofs.YtmhlmkefnmdbcaaDoor.Evs Go.Proofs.YtmhlmkefnmdbcaaDoorW.PrintWords Go.Proofs.YtmhlmkefnmdbcaaDoorW.PrintLast
set_option linter.unusedVariables false
set_option linter.unusedSimpArgs false

/-- short: an answer; where it is true the list is short and its texts are. -/
theorem short_l (l : List ByteArray) (hl : (l.length : Int) < 9223372036854775807) (d : Nat) : ∀ i : Nat, i + d = l.length →
  ∃ b, Ev (fun k => laws_short.l0 k l l (l.length : Int) (i : Int)) b ∧ (b = true → l.length ≤ 150 ∧ ∀ j, i ≤ j → j < l.length → (l.getD j ByteArray.empty).size ≤ 1500) := by
 induction d with
 | zero =>
  intro i h
  exact ⟨_, Ev.step (fun _ => by rw [laws_short.l0]) (ev_neg (by omega) (Ev.now _)), fun hb => ⟨by simp at hb; omega, fun j h1 h2 => by omega⟩⟩
 | succ d ih =>
  intro i h
  obtain ⟨b, hb, hq⟩ := ih (i + 1) (by omega)
  by_cases c : ((rdOf ByteArray.empty l (i : Int)).size : Int) > 1500
  ·exact ⟨false, Ev.step (fun _ => by rw [laws_short.l0]) (ev_pos (by omega) (ev_pos (by omega) (ev_pos (by omega) (ev_pos c (Ev.now _))))), fun h => by cases h⟩
  ·refine ⟨b, Ev.step (fun _ => by rw [laws_short.l0, wrap_nat (by omega)]) (ev_pos (by omega) (ev_pos (by omega) (ev_pos (by omega) (ev_neg c hb)))), fun h => ⟨(hq h).1, fun j h1 h2 => ?_⟩⟩
   by_cases e : j = i
   ·subst e; rw [rdOf_nat] at c; omega
   ·exact (hq h).2 j (by omega) h2
theorem short_ev (l : List ByteArray) (hl : (l.length : Int) < 9223372036854775807) : ∃ b, Ev (fun k => laws_short.f k l) b ∧ (b = true → l.length ≤ 150 ∧ ∀ j, j < l.length → (l.getD j ByteArray.empty).size ≤ 1500) := by
 obtain ⟨b, hb, hq⟩ := short_l l hl l.length 0 (by omega)
 exact ⟨b, hb, fun h => ⟨(hq h).1, fun j hj => (hq h).2 j (by omega) hj⟩⟩

theorem short2 (a b : ByteArray) : ∃ r, Ev (fun k => laws_short.f k [a, b]) r ∧ (r = true → a.size ≤ 1500 ∧ b.size ≤ 1500) := by
 obtain ⟨r, hr, hq⟩ := short_ev [a, b] (by simp)
 exact ⟨r, hr, fun h => ⟨(hq h).2 0 (by simp), (hq h).2 1 (by simp)⟩⟩
theorem short1 (a : ByteArray) : ∃ r, Ev (fun k => laws_short.f k [a]) r ∧ (r = true → a.size ≤ 1500) := by
 obtain ⟨r, hr, hq⟩ := short_ev [a] (by simp)
 exact ⟨r, hr, fun h => (hq h).2 0 (by simp)⟩
theorem short3 (a b c : ByteArray) : ∃ r, Ev (fun k => laws_short.f k [a, b, c]) r ∧ (r = true → a.size ≤ 1500 ∧ b.size ≤ 1500 ∧ c.size ≤ 1500) := by
 obtain ⟨r, hr, hq⟩ := short_ev [a, b, c] (by simp)
 exact ⟨r, hr, fun h => ⟨(hq h).2 0 (by simp), (hq h).2 1 (by simp), (hq h).2 2 (by simp)⟩⟩
theorem short4 (a b c d : ByteArray) : ∃ r, Ev (fun k => laws_short.f k [a, b, c, d]) r ∧ (r = true → a.size ≤ 1500 ∧ b.size ≤ 1500 ∧ c.size ≤ 1500 ∧ d.size ≤ 1500) := by
 obtain ⟨r, hr, hq⟩ := short_ev [a, b, c, d] (by simp)
 exact ⟨r, hr, fun h => ⟨(hq h).2 0 (by simp), (hq h).2 1 (by simp), (hq h).2 2 (by simp), (hq h).2 3 (by simp)⟩⟩
end Go.Proofs.YtmhlmkefnmdbcaaDoor.Com

namespace Go.Proofs.YtmhlmkefnmdbcaaDoor.Com
open Go.RowKit Go.Proofs.YtmhlmkefnmdbcaaDoor.Z Go.Proofs.YtmhlmkefnmdbcaaDoor.Evs Go.Proofs.YtmhlmkefnmdbcaaDoorW.PrintWords Go.Proofs.YtmhlmkefnmdbcaaDoorW.PrintLast
set_option linter.unusedVariables false
set_option linter.unusedSimpArgs false

theorem fits_l (l : List ByteArray) (hl : (l.length : Int) < 9223372036854775807) (d : Nat) : ∀ i : Nat, i + d = l.length → ∃ b, Ev (fun k => laws_zzFits1.l0 k l (l.length : Int) (i : Int)) b := by
 induction d with
 | zero =>
  intro i h
  refine ⟨true, Ev.step (fun _ => by rw [laws_zzFits1.l0]) (ev_neg (by omega) (Ev.now _))⟩
 | succ d ih =>
  intro i h
  obtain ⟨b, hb⟩ := ih (i + 1) (by omega)
  by_cases c : ((rdOf ByteArray.empty l (i : Int)).size : Int) > 2147483647
  ·exact ⟨false, Ev.step (fun _ => by rw [laws_zzFits1.l0]) (ev_pos (by omega) (ev_pos (by omega) (ev_pos (by omega) (ev_pos c (Ev.now _)))))⟩
  ·exact ⟨b, Ev.step (fun _ => by rw [laws_zzFits1.l0, wrap_nat (by omega)]) (ev_pos (by omega) (ev_pos (by omega) (ev_pos (by omega) (ev_neg c hb))))⟩
theorem fits_ev (l : List ByteArray) (hl : l.length ≤ 9223372036854775807) : ∃ b, Ev (fun k => laws_zzFits1.f k l) b := by
 unfold laws_zzFits1.f
 by_cases c : (l.length : Int) > 2147483647
 ·exact ⟨_, ev_pos c (Ev.now _)⟩
 ·obtain ⟨b, hb⟩ := fits_l l (by omega) l.length 0 (by omega)
  exact ⟨b, ev_neg c hb⟩
end Go.Proofs.YtmhlmkefnmdbcaaDoor.Com

namespace Go.Proofs.YtmhlmkefnmdbcaaDoor.Pure
open Go.RowKit Go.Proofs.YtmhlmkefnmdbcaaDoor.Z Go.Proofs.YtmhlmkefnmdbcaaDoor.Evs Go.Proofs.YtmhlmkefnmdbcaaDoor.By Go.Proofs.YtmhlmkefnmdbcaaDoor.Lx Go.Proofs.YtmhlmkefnmdbcaaDoor.Com Go.Proofs.YtmhlmkefnmdbcaaDoorW.PrintWords Go.Proofs.YtmhlmkefnmdbcaaDoorW.PrintLast
set_option linter.unusedVariables false
set_option linter.unusedSimpArgs false

/-! the order of segments -/
theorem qB_chain (a b c : List UInt8) : Chained (Lib.compareBytes a b) (Lib.compareBytes b c) (Lib.compareBytes a c) := by
 have e : ∀ x y : List UInt8, Lib.compareBytes x y = lex (x.map (·.toNat + 1) ++ 0 :: []) (y.map (·.toNat + 1) ++ 0 :: []) := by
  intro x y
  rw [lex_words]
  by_cases h : Lib.compareBytes x y = 0
  ·rw [if_pos h, h, lex_self]
  ·rw [if_neg h]
 rw [e a b, e b c, e a c]
 exact lex_chained _ _ _
theorem chain_Z (a b c : Int) : Chained (Bn.cmpZ a b) (Bn.cmpZ b c) (Bn.cmpZ a c) := by
 unfold Chained Bn.cmpZ
 split <;> split <;> split <;> (try split) <;> (try split) <;> (try split) <;> omega
theorem rbC_chain (a b c : ByteArray) : Chained (rbC a b) (rbC b c) (rbC a c) := by
 have hq := qB_chain a.data.toList b.data.toList c.data.toList
 unfold rbC
 cases Ss.cvt a <;> cases Ss.cvt b <;> cases Ss.cvt c <;> simp only []
 ·exact hq
 ·unfold Chained; omega
 ·unfold Chained; omega
 ·unfold Chained
  rename_i x y
  rcases cmpZ_range x y with h | h | h <;> rw [h] <;> omega
 ·unfold Chained
  rcases qB_range a.data.toList c.data.toList with h | h | h <;> simp
 ·unfold Chained
  omega
 ·unfold Chained
  rename_i x y
  rcases cmpZ_range x y with h | h | h <;> rw [h] <;> omega
 ·exact chain_Z _ _ _
/-- The comparison of d segments from i on. -/
def rbFrom (l r : List ByteArray) : Nat → Nat → Int
 | 0, _ => 0
 | d + 1, i => if rbC (rbGet l i) (rbGet r i) = 0 then rbFrom l r d (i + 1) else rbC (rbGet l i) (rbGet r i)
theorem rbC_same (x : ByteArray) : rbC x x = 0 := by
 have := rbC_anti x x
 omega
theorem rbFrom_eq (l r : List ByteArray) : ∀ d i, l.length ≤ i + d → r.length ≤ i + d → rbFrom l r d i = rbsC (l.drop i) (r.drop i)
 | 0, i, h1, h2 => by rw [List.drop_of_length_le (by omega), List.drop_of_length_le (by omega), rbsC, rbFrom]
 | d + 1, i, h1, h2 => by
  have ih := rbFrom_eq l r d (i + 1) (by omega) (by omega)
  rw [rbFrom, ih]
  by_cases h : i < l.length ∨ i < r.length
  ·rw [rbsC_step l r i h]
  ·rw [rbGet_out (by omega), rbGet_out (by omega), if_pos (rbC_same _), List.drop_of_length_le (by omega), List.drop_of_length_le (by omega), List.drop_of_length_le (by omega), List.drop_of_length_le (by omega)]
theorem chain_lex {x y z x' y' z' : Int} (h : Chained x y z) (h' : Chained x' y' z') : Chained (if x = 0 then x' else x) (if y = 0 then y' else y) (if z = 0 then z' else z) := by
 unfold Chained at h h' ⊢
 split <;> split <;> split <;> omega
theorem rbFrom_chain (a b c : List ByteArray) : ∀ d i, Chained (rbFrom a b d i) (rbFrom b c d i) (rbFrom a c d i)
 | 0, _ => by
  unfold Chained rbFrom
  omega
 | d + 1, i => chain_lex (rbC_chain (rbGet a i) (rbGet b i) (rbGet c i)) (rbFrom_chain a b c d (i + 1))
theorem rbsC_chain (a b c : List ByteArray) : Chained (rbsC a b) (rbsC b c) (rbsC a c) := by
 have h := rbFrom_chain a b c (a.length + b.length + c.length) 0
 rw [rbFrom_eq a b _ 0 (by omega) (by omega), rbFrom_eq b c _ 0 (by omega) (by omega), rbFrom_eq a c _ 0 (by omega) (by omega)] at h
 exact h
/-! the runs -/
def cls (pd : Bool) (d : UInt8) : Bool := !(d == 46) && (digC d == pd)
/-- What stands behind a run. -/
def rstR : List UInt8 → List (List UInt8)
 | [] => []
 | c :: r => if c = 46 then cutP ptB (canonL r false true) else cutP ptB (canonL (c :: r) false true)
theorem canon_any (l : List UInt8) (pd : Bool) : canonL l false pd = canonL l false true := canon_false l pd true
theorem cut_run : ∀ (l : List UInt8) (pd : Bool), cutP ptB (canonL l true pd) = l.takeWhile (cls pd) :: rstR (l.dropWhile (cls pd))
 | [], pd => rfl
 | c :: l, pd => by
  by_cases h : c = 46
  ·subst h
   have hc : cls pd 46 = false := rfl
   rw [canon_dot, cutP, if_pos (show ptB 46 = true from rfl), canon_any, List.takeWhile_cons, if_neg (by rw [hc]; decide), List.dropWhile_cons, if_neg (by rw [hc]; decide), rstR, if_pos rfl]
  ·have hp : ptB c = false := beq_eq_false_iff_ne.2 h
   have hb : (c == 46) = false := beq_eq_false_iff_ne.2 h
   cases hd : (digC c == pd) with
   | true =>
    have hc : cls pd c = true := by unfold cls; rw [hb, hd]; rfl
    have he : digC c = pd := by simpa using hd
    rw [canon_one _ _ _ _ h (by rw [he]; simp), he, cutP, if_neg (by rw [hp]; decide), cut_run l pd, List.takeWhile_cons, if_pos hc, List.dropWhile_cons, if_pos hc]
   | false =>
    have hc : cls pd c = false := by unfold cls; rw [hb, hd]; rfl
    have he : ¬ digC c = pd := by simpa using hd
    rw [canon_two _ _ _ _ h (by rw [Bool.true_and]; simpa using (fun e => he e.symm)), cutP, if_pos (show ptB 46 = true from rfl), List.takeWhile_cons, if_neg (by rw [hc]; decide), List.dropWhile_cons, if_neg (by rw [hc]; decide), rstR, if_neg h, canon_one _ _ _ _ h rfl]
theorem cut_first (c : UInt8) (l : List UInt8) (h : ¬ c = 46) : cutP ptB (canonL (c :: l) false true) = (c :: l.takeWhile (cls (digC c))) :: rstR (l.dropWhile (cls (digC c))) := by
 have hp : ptB c = false := beq_eq_false_iff_ne.2 h
 rw [canon_one _ _ _ _ h rfl, cutP, if_neg (by rw [hp]; decide), cut_run l (digC c)]
theorem cut_dot (l : List UInt8) : cutP ptB (canonL (46 :: l) false true) = [] :: cutP ptB (canonL l false true) := by
 rw [canon_dot, cutP, if_pos (show ptB 46 = true from rfl)]
def ne (x : List UInt8) : Bool := !x.isEmpty
/-- The pieces that are not empty. -/
def runs (l : List UInt8) : List ByteArray := ((rbPcs l).filter ne).map ofL
theorem runs_dot (l : List UInt8) : runs (46 :: l) = runs l := by
 unfold runs rbPcs
 rw [cut_dot]
 rfl
theorem runs_nil : runs [] = [] := rfl
theorem runs_first (c : UInt8) (l : List UInt8) (h : ¬ c = 46) : runs (c :: l) = ofL (c :: l.takeWhile (cls (digC c))) :: ((rstR (l.dropWhile (cls (digC c)))).filter ne).map ofL := by
 unfold runs rbPcs
 rw [cut_first c l h]
 rfl
theorem rst_runs (l : List UInt8) : ((rstR l).filter ne).map ofL = runs l := by
 cases l with
 | nil => rfl
 | cons c r =>
  rw [rstR]
  by_cases h : c = 46
  ·rw [if_pos h, h, runs_dot]
   rfl
  ·rw [if_neg h]
   rfl
theorem c46' (c : UInt8) : (c.toNat : Int) = 46 ↔ c = 46 := c46 c
/-- The law of the outer loop, at every place behind i. -/
def RunL (l : List UInt8) (i : Nat) : Prop := ∀ acc : List ByteArray, acc.length ≤ i → Ev (fun k => spec_gemRuns.l0 k (ofL l) acc (i : Int)) (acc ++ runs (l.drop i))
theorem run_in (l : List UInt8) (hl : l.length ≤ 100000) (i : Nat) (hi : i < l.length) (h46 : ¬ l[i] = 46) (ih : ∀ j, i < j → j ≤ l.length → RunL l j) (d : Nat) : ∀ (j : Nat) (acc : List ByteArray), j + d = l.length → i < j → acc.length ≤ i →
  Ev (fun k => spec_gemRuns.l1 k (ofL l) acc (i : Int) (j : Int)) (acc ++ (ofL ((l.take j).drop i ++ (l.drop j).takeWhile (cls (digC l[i]))) :: runs ((l.drop j).dropWhile (cls (digC l[i]))))) := by
 have hs := ofL_size l
 have hci := bt_ofL l i hi
 have hdi := isDigit_f l[i]
 have hext : ∀ j : Nat, (ofL l).extract ((i : Int)).toNat ((j : Int)).toNat = ofL ((l.take j).drop i) := fun j => by rw [Int.toNat_natCast, Int.toNat_natCast, ofL_extract]
 have n46 : ¬ ((l[i].toNat : Int) = 46) := fun h => h46 ((c46 _).1 h)
 induction d with
 | zero =>
  intro j acc hj hij ha
  have hq := ih j hij (by omega) (acc ++ [ofL ((l.take j).drop i)]) (by simp; omega)
  refine Ev.step (fun _ => by rw [spec_gemRuns.l1, hci, hext]) (ev_neg (by omega) (ev_pos (by omega) (ev_pos (by omega) (ev_neg n46 (ev_pos (by omega) (ev_pos (by omega) (ev_pos (by omega) ?_)))))))
  refine ev_eq hq ?_
  rw [List.drop_of_length_le (by omega : l.length ≤ j)]
  simp [runs_nil]
 | succ d ihd =>
  intro j acc hj hij ha
  have hjl : j < l.length := by omega
  have hcj := bt_ofL l j hjl
  have hdj := isDigit_f l[j]
  have e : l.drop j = l[j] :: l.drop (j + 1) := List.drop_eq_getElem_cons hjl
  have push : cls (digC l[i]) l[j] = false → Ev (fun k => if (i : Int) ≤ (j : Int) then (if (j : Int) ≤ ((ofL l).size : Int) then (if acc.length < 8796093022208 then spec_gemRuns.l0 k (ofL l) (acc ++ [ofL ((l.take j).drop i)]) (j : Int) else none) else none) else none) (acc ++ (ofL ((l.take j).drop i ++ (l.drop j).takeWhile (cls (digC l[i]))) :: runs ((l.drop j).dropWhile (cls (digC l[i]))))) := by
   intro hc
   have hq := ih j hij (by omega) (acc ++ [ofL ((l.take j).drop i)]) (by simp; omega)
   refine ev_pos (by omega) (ev_pos (by omega) (ev_pos (by omega) (ev_eq hq ?_)))
   rw [e, List.takeWhile_cons, if_neg (by rw [hc]; decide), List.dropWhile_cons, if_neg (by rw [hc]; decide), List.append_nil, List.append_assoc]
   rfl
  refine Ev.step (fun _ => by rw [spec_gemRuns.l1, hci, hcj, hext, hdi, hdj, wrap_nat (i := j) (by omega)]) ?_
  refine ev_pos (by omega) (ev_pos (by omega) (ev_pos (by omega) (ev_neg n46 (ev_pos (by omega) ?_))))
  by_cases hj46 : l[j] = 46
  ·refine ev_pos ((c46 _).2 hj46) (push ?_)
   unfold cls
   rw [hj46]
   rfl
  ·refine ev_neg (fun h => hj46 ((c46 _).1 h)) ?_
   have hb : (l[j] == 46) = false := beq_eq_false_iff_ne.2 hj46
   refine ev_some ?_
   refine ev_some ?_
   cases hd : (dg l[j] == dg l[i]) with
   | true =>
    have hc : cls (digC l[i]) l[j] = true := by
     unfold cls
     rw [hb]
     exact hd
    have hq := ihd (j + 1) acc (by omega) (by omega) ha
    refine ev_t (ev_eq hq ?_)
    have et : (l.take (j + 1)).drop i = (l.take j).drop i ++ [l[j]] := by
     rw [List.take_succ_eq_append_getElem hjl, List.drop_append_of_le_length (by rw [List.length_take]; omega)]
    rw [e, List.takeWhile_cons, if_pos hc, List.dropWhile_cons, if_pos hc, et, List.append_assoc]
    rfl
   | false =>
    refine ev_f (push ?_)
    unfold cls
    rw [hb]
    exact hd
theorem runs_l (l : List UInt8) (hl : l.length ≤ 100000) (d : Nat) : ∀ i, i + d = l.length → RunL l i := by
 induction d using Nat.strongRecOn with
 | ind d ih =>
  intro i hi acc ha
  have hs := ofL_size l
  by_cases h0 : i = l.length
  ·refine Ev.step (fun _ => by rw [spec_gemRuns.l0]) (ev_neg (by omega) (ev_now ?_))
   rw [List.drop_of_length_le (by omega), runs_nil, List.append_nil]
  ·have hil : i < l.length := by omega
   have hih : ∀ j, i < j → j ≤ l.length → RunL l j := fun j h1 h2 => ih (l.length - j) (by omega) j (by omega)
   have hc := bt_ofL l i hil
   have e : l.drop i = l[i] :: l.drop (i + 1) := List.drop_eq_getElem_cons hil
   refine Ev.step (fun _ => by rw [spec_gemRuns.l0, wrap_nat (i := i) (by omega)]) (ev_pos (by omega) ?_)
   by_cases h46 : l[i] = 46
   ·have hq := hih (i + 1) (by omega) (by omega) acc (by omega)
    have hr : runs (l.drop i) = runs (l.drop (i + 1)) := by rw [e, h46, runs_dot]
    rw [hr]
    refine Ev.step (fun _ => by rw [spec_gemRuns.l1, hc]) ?_
    refine ev_ite (fun _ => ?_) (fun _ => ?_)
    ·exact ev_pos (by omega) (ev_pos (by omega) (ev_pos ((c46 _).2 h46) hq))
    ·exact ev_pos (by omega) (ev_pos (by omega) (ev_pos ((c46 _).2 h46) hq))
   ·have hq := run_in l hl i hil h46 hih (l.length - (i + 1)) (i + 1) acc (by omega) (by omega) ha
    refine ev_eq hq ?_
    have et : (l.take (i + 1)).drop i = [l[i]] := by
     rw [List.take_succ_eq_append_getElem hil, List.drop_append_of_le_length (by rw [List.length_take]; omega), List.drop_of_length_le (by rw [List.length_take]; omega)]
     rfl
    rw [e, runs_first _ _ h46, rst_runs, et]
    rfl
theorem runs_ev (l : List UInt8) (hl : l.length ≤ 100000) : Ev (fun k => spec_gemRuns.f k (ofL l)) (runs l) := by
 have := runs_l l hl l.length 0 (by omega) [] (Nat.le_refl _)
 exact this
/-! no piece is empty -/
theorem full_two : ∀ l : List UInt8, (∀ pd, (∀ x ∈ (cutP ptB l).tail, x ≠ []) → ∀ x ∈ (cutP ptB (canonL l true pd)).tail, x ≠ []) ∧ ((∀ x ∈ cutP ptB l, x ≠ []) → ∀ x ∈ cutP ptB (canonL l false true), x ≠ [])
 | [] => ⟨fun pd _ x hx => by simp [canonL, cutP] at hx, fun h => absurd rfl (h [] (by simp [cutP]))⟩
 | c :: l => by
  obtain ⟨iT, iS⟩ := full_two l
  by_cases h : c = 46
  ·subst h
   have e : cutP ptB (46 :: l) = [] :: cutP ptB l := by rw [cutP, if_pos (show ptB 46 = true from rfl)]
   refine ⟨fun pd hx => ?_, fun hx => ?_⟩
   ·rw [e] at hx
    rw [canon_dot, canon_any, cutP, if_pos (show ptB 46 = true from rfl)]
    exact iS hx
   ·exact absurd rfl (hx [] (by rw [e]; simp))
  ·have hp : ptB c = false := beq_eq_false_iff_ne.2 h
   have tl : ∀ X : List UInt8, (cutP ptB (c :: X)).tail = (cutP ptB X).tail ∧ ∀ x ∈ cutP ptB (c :: X), x ≠ [] ∨ x ∈ (cutP ptB X).tail := by
    intro X
    rw [cutP, if_neg (by rw [hp]; decide)]
    cases e : cutP ptB X with
    | nil => exact absurd e (cutP_ne ptB X)
    | cons y r =>
     refine ⟨rfl, fun x hx => ?_⟩
     rcases List.mem_cons.1 hx with rfl | hx
     ·exact .inl (by simp)
     ·exact .inr hx
   refine ⟨fun pd hx => ?_, fun hx => ?_⟩
   ·rw [(tl l).1] at hx
    cases hd : (true && (pd != digC c)) with
    | true =>
     rw [canon_two _ _ _ _ h hd, cutP, if_pos (show ptB 46 = true from rfl)]
     intro x hm
     rcases (tl _).2 x hm with h1 | h1
     ·exact h1
     ·exact iT _ hx x h1
    | false =>
     rw [canon_one _ _ _ _ h hd, (tl _).1]
     exact iT _ hx
   ·have hx2 : ∀ x ∈ (cutP ptB l).tail, x ≠ [] := fun x hm => hx x (by rw [← (tl l).1] at hm; exact List.mem_of_mem_tail hm)
    rw [canon_one _ _ _ _ h rfl]
    intro x hm
    rcases (tl _).2 x hm with h1 | h1
    ·exact h1
    ·exact iT _ hx2 x h1
theorem runs_full (l : List UInt8) (h : ∀ x ∈ cutP ptB l, x ≠ []) : runs l = (rbPcs l).map ofL := by
 unfold runs
 congr 1
 rw [List.filter_eq_self]
 intro x hx
 have := (full_two l).2 h x hx
 unfold ne
 cases x with
 | nil => exact absurd rfl this
 | cons a b => rfl
/-! the first numbers without their zeros -/
theorem rbN_allD {x : List UInt8} (h : signed x = false) : rbN (ofL x) = allD x := by
 unfold rbN
 cases ha : allD x with
 | true => rw [cvt_digits ha]; rfl
 | false => rw [cvt_other ha h]; rfl
theorem first_l1 (p : List ByteArray) (hp : p.length ≤ 1000000) (K : Nat) (hK : K ≤ p.length) : ∀ n : Nat, n ≤ K → Ev (fun k => spec_gemFirst.l1 k p (K : Int) (n : Int)) (p.take (tz p n) ++ p.drop K)
 | 0, _ => by
  refine Ev.step (fun _ => by rw [spec_gemFirst.l1]) (ev_neg (by omega) (ev_pos (by omega) (ev_pos (by omega) (ev_pos (by simp) ?_))))
  refine ev_some ?_
  refine ev_pos (by omega) (ev_pos (by omega) ?_)
  have h1 : (p.drop K).length ≤ 1000000 := by rw [List.length_drop]; omega
  rw [show ((K : Int)).toNat = K from Int.toNat_natCast K]
  exact ev_pos (by show 0 + _ < _; omega) (ev_now rfl)
 | n + 1, hn => by
  have hw : wrap64 (((n + 1 : Nat) : Int) - 1) = (n : Int) := (wrap_in (by omega) (by omega)).trans (by omega)
  unfold tz
  by_cases c : (p.getD n ByteArray.empty).toList = ([48] : List UInt8)
  ·rw [if_pos c]
   exact Ev.step (fun _ => by rw [spec_gemFirst.l1, hw, rdOf_nat]) (ev_pos (by omega) (ev_pos (by omega) (ev_pos (by omega) (ev_pos c (first_l1 p hp K hK n (by omega))))))
  ·rw [if_neg c]
   have h1 : (p.drop K).length ≤ 1000000 := by rw [List.length_drop]; omega
   have h2 : (p.take (n + 1)).length ≤ 1000000 := by rw [List.length_take]; omega
   refine Ev.step (fun _ => by rw [spec_gemFirst.l1, hw, rdOf_nat]) (ev_pos (by omega) (ev_pos (by omega) (ev_pos (by omega) (ev_neg c (ev_pos (by omega) (ev_pos (by omega) ?_))))))
   rw [Int.toNat_natCast]
   refine ev_pos (by show 0 + _ < _; omega) ?_
   refine ev_some ?_
   refine ev_pos (by omega) (ev_pos (by omega) ?_)
   rw [Int.toNat_natCast]
   exact ev_pos (by show ([] ++ p.take (n + 1)).length + _ < _; rw [List.nil_append]; omega) (ev_now rfl)
theorem tz_take (p : List ByteArray) (K : Nat) : ∀ n, n ≤ K → K ≤ p.length → tz (p.take K) n = tz p n
 | 0, _, _ => rfl
 | n + 1, h, hK => by
  have e : (p.take K).getD n ByteArray.empty = p.getD n ByteArray.empty := by
   rw [List.getD_eq_getElem?_getD, List.getD_eq_getElem?_getD, List.getElem?_take, if_pos (by omega)]
  rw [tz, tz, e, tz_take p K n (by omega) hK]
theorem first_l0 (q : List (List UInt8)) (hq : q.length ≤ 1000000) (hz : ∀ x ∈ q, x.length ≤ 100000 ∧ signed x = false) (d : Nat) : ∀ i : Nat, i + d = q.length → (∀ x ∈ (q.map ofL).take i, rbN x = true) → Ev (fun k => spec_gemFirst.l0 k (q.map ofL) (i : Int)) (trimZ ((q.map ofL).takeWhile rbN) ++ (q.map ofL).dropWhile rbN) := by
 have hm : (q.map ofL).length = q.length := List.length_map ..
 have fin : ∀ i : Nat, i ≤ q.length → (q.map ofL).takeWhile rbN = (q.map ofL).take i → (q.map ofL).dropWhile rbN = (q.map ofL).drop i → Ev (fun k => spec_gemFirst.j1 k (q.map ofL) (i : Int)) (trimZ ((q.map ofL).takeWhile rbN) ++ (q.map ofL).dropWhile rbN) := by
  intro i hi e1 e2
  have h := first_l1 (q.map ofL) (by omega) i (by omega) i (Nat.le_refl _)
  refine Ev.step (fun _ => by rw [spec_gemFirst.j1]) (ev_eq h ?_)
  rw [e1, e2]
  have hl : ((q.map ofL).take i).length = i := by rw [List.length_take]; omega
  have ht := tz_le (q.map ofL) i
  congr 1
  unfold trimZ
  rw [hl, tz_take _ _ _ (Nat.le_refl _) (by omega), List.take_take, Nat.min_eq_left ht]
 induction d with
 | zero =>
  intro i h ha
  rw [List.take_of_length_le (by omega)] at ha
  have e1 : (q.map ofL).takeWhile rbN = (q.map ofL).take i := by
   rw [List.take_of_length_le (by omega)]
   have := List.takeWhile_append_of_pos (l₂ := []) ha
   simpa using this
  have e2 : (q.map ofL).dropWhile rbN = (q.map ofL).drop i := by
   rw [List.drop_of_length_le (by omega)]
   have := List.dropWhile_append_of_pos (l₂ := []) ha
   simpa using this
  exact Ev.step (fun _ => by rw [spec_gemFirst.l0]) (ev_neg (by omega) (fin i (by omega) e1 e2))
 | succ d ih =>
  intro i h ha
  have hi : i < q.length := by omega
  have hr := rd_map q i hi
  have hzi := hz _ (List.getElem_mem hi)
  have hd := digits_ev q[i] (by omega)
  rw [← rbN_allD hzi.2] at hd
  have e : (q.map ofL).drop i = ofL q[i] :: (q.map ofL).drop (i + 1) := by
   rw [List.drop_eq_getElem_cons (by omega), List.getElem_map]
  refine Ev.step (fun _ => by rw [spec_gemFirst.l0, hr, wrap_nat (i := i) (by omega)]) (ev_pos (by omega) (ev_pos (by omega) (Ev.bind hd ?_)))
  cases hb : rbN (ofL q[i]) with
  | true =>
   refine ev_t (ih (i + 1) (by omega) ?_)
   intro x hx
   rw [List.take_succ_eq_append_getElem (by omega)] at hx
   rcases List.mem_append.1 hx with hx | hx
   ·exact ha x hx
   ·have : x = ofL q[i] := by simpa using hx
    rw [this]
    exact hb
  | false =>
   have hs := List.take_append_drop i (q.map ofL)
   refine ev_f (fin i (by omega) ?_ ?_)
   ·conv => lhs; rw [← hs]
    rw [List.takeWhile_append_of_pos ha, e, List.takeWhile_cons, if_neg (by rw [hb]; decide), List.append_nil]
   ·conv => lhs; rw [← hs]
    rw [List.dropWhile_append_of_pos ha, e, List.dropWhile_cons, if_neg (by rw [hb]; decide)]
/-! zeros at the end -/
theorem toL_Z (x : ByteArray) : x.toList = ([48] : List UInt8) ↔ x = rbZ := by
 have hz : rbZ.toList = ([48] : List UInt8) := by rw [show rbZ = ofL [48] from rfl, toList_ofL]
 exact ⟨fun h => toList_inj (h.trans hz.symm), fun h => by rw [h, hz]⟩
theorem rbN_Z : rbN rbZ = true := by
 rw [show rbZ = ofL [48] from rfl, rbN_allD (by decide)]
 decide
theorem tz_pre (P Y : List ByteArray) : ∀ n, n ≤ P.length → tz (P ++ Y) n = tz P n
 | 0, _ => rfl
 | n + 1, h => by
  have e : (P ++ Y).getD n ByteArray.empty = P.getD n ByteArray.empty := by
   rw [List.getD_eq_getElem?_getD, List.getD_eq_getElem?_getD, List.getElem?_append_left (by omega)]
  rw [tz, tz, e, tz_pre P Y n (by omega)]
theorem tz_succ (l : List ByteArray) (n : Nat) : tz l (n + 1) = if (l.getD n ByteArray.empty).toList = ([48] : List UInt8) then tz l n else n + 1 := rfl
theorem trimZ_cons (x : ByteArray) (l : List ByteArray) : trimZ (x :: l) = if trimZ l = [] then (if x = rbZ then [] else [x]) else x :: trimZ l := by
 have key : ∀ n, n ≤ l.length → tz (x :: l) (n + 1) = if tz l n = 0 then (if x = rbZ then 0 else 1) else tz l n + 1 := by
  intro n
  induction n with
  | zero =>
   intro _
   have hg : (x :: l).getD 0 ByteArray.empty = x := rfl
   rw [tz_succ (x :: l) 0, hg, show tz (x :: l) 0 = 0 from rfl, show tz l 0 = 0 from rfl, if_pos (rfl : (0 : Nat) = 0)]
   by_cases h : x = rbZ
   ·rw [if_pos ((toL_Z x).2 h), if_pos h]
   ·rw [if_neg (fun hh => h ((toL_Z x).1 hh)), if_neg h]
  | succ n ih =>
   intro hn
   have hg : (x :: l).getD (n + 1) ByteArray.empty = l.getD n ByteArray.empty := rfl
   rw [tz_succ (x :: l) (n + 1), hg, tz_succ l n]
   by_cases h : (l.getD n ByteArray.empty).toList = ([48] : List UInt8)
   ·rw [if_pos h, if_pos h]
    exact ih (by omega)
   ·rw [if_neg h, if_neg h, if_neg (by omega)]
 have hk := key l.length (Nat.le_refl _)
 have ht := tz_le l l.length
 have hnil : trimZ l = [] ↔ tz l l.length = 0 := by
  unfold trimZ
  constructor
  ·intro h
   have h2 : min (tz l l.length) l.length = 0 := by
    rw [← List.length_take]
    exact congrArg List.length h
   omega
  ·intro h
   rw [h, List.take_zero]
 have hu : trimZ (x :: l) = (x :: l).take (tz (x :: l) (l.length + 1)) := rfl
 rw [hu, hk]
 by_cases h : tz l l.length = 0
 ·rw [if_pos h, if_pos (hnil.2 h)]
  by_cases hx : x = rbZ
  ·rw [if_pos hx, if_pos hx, List.take_zero]
  ·rw [if_neg hx, if_neg hx]
   rfl
 ·rw [if_neg h, if_neg (fun hh => h (hnil.1 hh)), List.take_succ_cons]
  rfl
theorem trimZ_two : ∀ l : List ByteArray, trimZ (trimZ l) = trimZ l
 | [] => rfl
 | x :: l => by
  have ih := trimZ_two l
  rw [trimZ_cons]
  by_cases h : trimZ l = []
  ·rw [if_pos h]
   by_cases hx : x = rbZ
   ·rw [if_pos hx]
    rfl
   ·rw [if_neg hx, trimZ_cons, show trimZ [] = [] from rfl, if_pos rfl, if_neg hx]
  ·rw [if_neg h, trimZ_cons, ih, if_neg h]
theorem trimZ_app (Y : List ByteArray) (h : trimZ Y ≠ []) : ∀ X : List ByteArray, trimZ (X ++ Y) = X ++ trimZ Y
 | [] => rfl
 | x :: X => by
  have ih := trimZ_app Y h X
  have hn : ¬ X ++ trimZ Y = [] := fun e => h (List.append_eq_nil_iff.1 e).2
  rw [List.cons_append, trimZ_cons, ih, if_neg hn]
  rfl
theorem trim_first (p : List ByteArray) : trimZ (trimZ (p.takeWhile rbN) ++ p.dropWhile rbN) = rbSg p := by
 unfold rbSg
 cases e : p.dropWhile rbN with
 | nil =>
  rw [List.append_nil, trimZ_two, show trimZ [] = [] from rfl, List.append_nil]
 | cons y r =>
  have hy : rbN y = false := by
   have := List.head?_dropWhile_not rbN p
   rw [e] at this
   simpa using this
  refine trimZ_app (y :: r) ?_ _
  rw [trimZ_cons]
  split
  ·rw [if_neg (fun hz => by rw [hz, rbN_Z] at hy; cases hy)]
   simp
  ·simp
theorem gemCmp_ev (a b : List UInt8) (ha : a.length ≤ 10000) (hb : b.length ≤ 10000) (fa : ∀ x ∈ cutP ptB a, x ≠ []) (fb : ∀ x ∈ cutP ptB b, x ≠ []) (ka : segK (rbPcs a) = true) (kb : segK (rbPcs b) = true) : Ev (fun k => spec_GemCompare.f k (ofL a) (ofL b)) (rbsC (rbS a) (rbS b)) := by
 have one : ∀ l : List UInt8, l.length ≤ 10000 → (∀ x ∈ cutP ptB l, x ≠ []) → segK (rbPcs l) = true → (Ev (fun k => spec_gemFirst.f k ((rbPcs l).map ofL)) (trimZ (((rbPcs l).map ofL).takeWhile rbN) ++ ((rbPcs l).map ofL).dropWhile rbN)) ∧ (trimZ (((rbPcs l).map ofL).takeWhile rbN) ++ ((rbPcs l).map ofL).dropWhile rbN).length ≤ 1000000 := by
  intro l hl hf hk
  obtain ⟨s1, s2⟩ := rbPcs_sizes l
  have hm : ((rbPcs l).map ofL).length = (rbPcs l).length := List.length_map ..
  unfold segK idK at hk
  rw [Bool.and_eq_true] at hk
  constructor
  ·exact first_l0 (rbPcs l) (by omega) (fun x hx => ⟨by have := s2 x hx; omega, by simpa using List.all_eq_true.1 hk.2 x hx⟩) (rbPcs l).length 0 (by omega) (by simp)
  ·obtain ⟨h3, h4⟩ := tw_len ((rbPcs l).map ofL)
   have h5 := trimZ_len (((rbPcs l).map ofL).takeWhile rbN)
   rw [List.length_append]
   omega
 obtain ⟨a1, a2⟩ := one a ha fa ka
 obtain ⟨b1, b2⟩ := one b hb fb kb
 have ra := runs_ev a (by omega)
 have rb := runs_ev b (by omega)
 rw [runs_full a fa] at ra
 rw [runs_full b fb] at rb
 have ta := trim_ev _ a2
 have tb := trim_ev _ b2
 rw [trim_first] at ta tb
 unfold spec_GemCompare.f
 exact Ev.bind ra (Ev.bind a1 (Ev.bind ta (Ev.bind rb (Ev.bind b1 (Ev.bind tb (Ev.bind (segs_ev _ _ (KnL_rbS a ha ka) (KnL_rbS b hb kb)) (ev_now rfl)))))))
/-! which texts are versions -/
theorem letter_ex (c : UInt8) : ∃ r, spec_isLetter.f (c.toNat : Int) = some r := by
 unfold spec_isLetter.f
 repeat' split
 all_goals exact ⟨_, rfl⟩
theorem valid_l (l : List UInt8) (hl : l.length ≤ 10000) (q : List (List UInt8)) (hq : q.length ≤ 100000) (h0 : 0 < q.length) (hz : ∀ x ∈ q, x.length ≤ 100000) (d : Nat) : ∀ i : Nat, i + d = q.length → (∀ x ∈ q.take i, x ≠ []) → ∃ r, Ev (fun k => spec_GemValid.l0 k (ofL l) (q.map ofL) (i : Int)) r ∧ (r = true → (∀ x ∈ q, x ≠ []) ∧ (∀ c ∈ l, c.toNat < 128) ∧ segK (rbPcs l) = true) := by
 have hm : (q.map ofL).length = q.length := List.length_map ..
 induction d with
 | zero =>
  intro i hi ha
  rw [List.take_of_length_le (by omega)] at ha
  have hr : rdOf ByteArray.empty (q.map ofL) 0 = ofL q[0] := rd_map q 0 h0
  have hd := digits_ev q[0] (by have := hz _ (List.getElem_mem h0); omega)
  obtain ⟨r, e, k⟩ := rubyKnown_ev l hl
  cases hb : allD q[0] with
  | false =>
   rw [hb] at hd
   refine ⟨false, ?_, by simp⟩
   refine Ev.step (fun _ => by rw [spec_GemValid.l0, hr]) ?_
   refine ev_neg (by omega) (ev_pos (by omega) (Ev.bind hd ?_))
   exact ev_f (ev_now rfl)
  | true =>
   rw [hb] at hd
   refine ⟨r, ?_, fun h => ⟨ha, k h⟩⟩
   refine Ev.step (fun _ => by rw [spec_GemValid.l0, hr]) ?_
   refine ev_neg (by omega) (ev_pos (by omega) (Ev.bind hd ?_))
   exact ev_t (Ev.bind e (ev_now rfl))
 | succ d ih =>
  intro i hi ha
  have hil : i < q.length := by omega
  have hr := rd_map q i hil
  have hsz := hz _ (List.getElem_mem hil)
  have hos := ofL_size q[i]
  have inner : ∀ (e j : Nat), j + e = q[i].length → ∃ r, Ev (fun k => spec_GemValid.l1 k (ofL l) (q.map ofL) (i : Int) (j : Int)) r ∧ (r = true → (∀ x ∈ q, x ≠ []) ∧ (∀ c ∈ l, c.toNat < 128) ∧ segK (rbPcs l) = true) := by
   intro e
   induction e with
   | zero =>
    intro j hj
    by_cases hn : q[i] = []
    ·refine ⟨false, Ev.step (fun _ => by rw [spec_GemValid.l1, hr]) (ev_pos (by omega) (ev_pos (by omega) (ev_neg (by omega) (ev_pos (by rw [toList_ofL]; exact hn) (ev_now rfl))))), by simp⟩
    ·obtain ⟨r, h1, h2⟩ := ih (i + 1) (by omega) (fun x hx => by
      rw [List.take_succ_eq_append_getElem hil] at hx
      rcases List.mem_append.1 hx with hx | hx
      ·exact ha x hx
      ·have : x = q[i] := by simpa using hx
       rw [this]
       exact hn)
     refine ⟨r, Ev.step (fun _ => by rw [spec_GemValid.l1, hr, wrap_nat (i := i) (by omega)]) (ev_pos (by omega) (ev_pos (by omega) (ev_neg (by omega) (ev_neg (by rw [toList_ofL]; exact hn) h1)))), h2⟩
   | succ e ihe =>
    intro j hj
    have hjl : j < q[i].length := by omega
    have hc := bt_ofL q[i] j hjl
    have hd := isDigit_f (q[i][j])
    obtain ⟨b, hb⟩ := letter_ex (q[i][j])
    obtain ⟨r, h1, h2⟩ := ihe (j + 1) (by omega)
    cases hg : dg (q[i][j]) with
    | true =>
     rw [hg] at hd
     refine ⟨r, Ev.step (fun _ => by rw [spec_GemValid.l1, hr, hc, hd, wrap_nat (i := j) (by omega)]) (ev_pos (by omega) (ev_pos (by omega) (ev_pos (by omega) (ev_pos (by omega) ?_)))), h2⟩
     refine ev_some ?_
     exact ev_t h1
    | false =>
     rw [hg] at hd
     cases b with
     | true =>
      refine ⟨r, Ev.step (fun _ => by rw [spec_GemValid.l1, hr, hc, hd, hb, wrap_nat (i := j) (by omega)]) (ev_pos (by omega) (ev_pos (by omega) (ev_pos (by omega) (ev_pos (by omega) ?_)))), h2⟩
      refine ev_some ?_
      refine ev_f ?_
      refine ev_some ?_
      exact ev_t h1
     | false =>
      refine ⟨false, Ev.step (fun _ => by rw [spec_GemValid.l1, hr, hc, hd, hb]) (ev_pos (by omega) (ev_pos (by omega) (ev_pos (by omega) (ev_pos (by omega) ?_)))), by simp⟩
      refine ev_some ?_
      refine ev_f ?_
      refine ev_some ?_
      exact ev_f (ev_now rfl)
  obtain ⟨r, h1, h2⟩ := inner q[i].length 0 (by omega)
  refine ⟨r, Ev.step (fun _ => by rw [spec_GemValid.l0]) ?_, h2⟩
  exact ev_pos (by omega) h1
theorem valid_ev (l : List UInt8) (hl : l.length ≤ 10000) : ∃ r, Ev (fun k => spec_GemValid.f k (ofL l)) r ∧ (r = true → (∀ x ∈ cutP ptB l, x ≠ []) ∧ (∀ c ∈ l, c.toNat < 128) ∧ segK (rbPcs l) = true) := by
 obtain ⟨s1, s2⟩ := cutP_sizes ptB l
 have h0 : 0 < (cutP ptB l).length := List.length_pos_iff.2 (cutP_ne ptB l)
 obtain ⟨r, h1, h2⟩ := valid_l l hl (cutP ptB l) (by omega) h0 (fun x hx => by have := s2 x hx; omega) (cutP ptB l).length 0 (by omega) (by simp)
 refine ⟨r, ?_, h2⟩
 unfold spec_GemValid.f
 exact Ev.bind (cut_ev l (by omega) 42) h1
/-! sorting -/
def gOK (s : ByteArray) : Prop := s.size ≤ 1500 ∧ (∀ x ∈ cutP ptB (bl s), x ≠ []) ∧ (∀ c ∈ bl s, c.toNat < 128) ∧ segK (rbPcs (bl s)) = true
def gV (s : ByteArray) : List ByteArray := rbS (bl s)
def gLe (a b : ByteArray) : Prop := rbsC (gV a) (gV b) ≤ 0
def srt (l : List ByteArray) : Prop := l.Pairwise gLe ∧ ∀ s ∈ l, gOK s
theorem gLe_trans {a b c : ByteArray} (h1 : gLe a b) (h2 : gLe b c) : gLe a c := ((rbsC_chain (gV a) (gV b) (gV c)).1 h1 h2).1
theorem gLe_turn {a b : ByteArray} (h : 0 < rbsC (gV a) (gV b)) : gLe b a := by
 unfold gLe
 rw [rbsC_anti (gV a) (gV b)]
 omega
theorem srt_ins {l : List ByteArray} {s : ByteArray} (k : Nat) (hs : gOK s) (hl : srt l) (h1 : ∀ x ∈ l.take k, gLe x s) (h2 : ∀ (h : k < l.length), 0 < rbsC (gV l[k]) (gV s)) : srt (l.take k ++ ([s] ++ l.drop k)) := by
 have hp := hl.1
 rw [← List.take_append_drop k l] at hp
 obtain ⟨p1, p2, p3⟩ := List.pairwise_append.1 hp
 constructor
 ·refine List.pairwise_append.2 ⟨p1, List.pairwise_cons.2 ⟨?_, p2⟩, ?_⟩
  ·intro y hy
   have hy : y ∈ l.drop k := hy
   by_cases hk : k < l.length
   ·have hq := gLe_turn (h2 hk)
    rw [List.drop_eq_getElem_cons hk] at hy p2
    rcases List.mem_cons.1 hy with rfl | hy
    ·exact hq
    ·exact gLe_trans hq ((List.pairwise_cons.1 p2).1 y hy)
   ·rw [List.drop_of_length_le (by omega)] at hy
    simp at hy
  ·intro x hx y hy
   rcases List.mem_cons.1 hy with rfl | hy
   ·exact h1 x hx
   ·exact p3 x hx y hy
 ·intro x hx
  rcases List.mem_append.1 hx with hx | hx
  ·exact hl.2 x (List.mem_of_mem_take hx)
  ·rcases List.mem_cons.1 hx with rfl | hx
   ·exact hs
   ·exact hl.2 x (List.mem_of_mem_drop hx)
theorem cmp_ev {a b : ByteArray} (ha : gOK a) (hb : gOK b) : Ev (fun k => impl_RubyCompare.f k a b) (rbsC (gV a) (gV b), true) := by
 have h1 := ha.1
 have h2 := hb.1
 have := implCmp_ev (bl a) (bl b) (by rw [bl_length]; omega) (by rw [bl_length]; omega) ha.2.2.1 hb.2.2.1
 rw [ofL_bl, ofL_bl] at this
 exact this
theorem gem_ev {a b : ByteArray} (ha : gOK a) (hb : gOK b) : Ev (fun k => spec_GemCompare.f k a b) (rbsC (gV a) (gV b)) := by
 have h1 := ha.1
 have h2 := hb.1
 have := gemCmp_ev (bl a) (bl b) (by rw [bl_length]; omega) (by rw [bl_length]; omega) ha.2.1 hb.2.1 ha.2.2.2 hb.2.2.2
 rw [ofL_bl, ofL_bl] at this
 exact this
theorem rd_in (l : List ByteArray) (i : Nat) (h : i < l.length) : rdOf ByteArray.empty l (i : Int) = l[i] := by
 rw [rdOf_nat, List.getD_eq_getElem?_getD, List.getElem?_eq_getElem h]
 rfl
theorem put_ev {F : Nat → List ByteArray → Option Bool} (out : List ByteArray) (s : ByteArray) (k : Nat) (hl : out.length ≤ 100) (h : Ev (fun n => F n (out.take k ++ ([s] ++ out.drop k))) true) :
  Ev (fun n => (some (out.take ((k : Int)).toNat : List ByteArray)).bind fun y186 => (some (([s] : List ByteArray) : List ByteArray)).bind fun y190 => (some (out.drop ((k : Int)).toNat : List ByteArray)).bind fun y193 => (if y190.length + y193.length < 8796093022208 then ((some (y190 ++ y193 : List ByteArray)).bind fun y197 => (if 0 < y197.length then (if y186.length + y197.length < 8796093022208 then (F n (y186 ++ y197)) else (none)) else (none))) else (none))) true := by
 rw [Int.toNat_natCast]
 have h1 : (out.drop k).length ≤ 100 := by rw [List.length_drop]; omega
 have h2 : (out.take k).length ≤ 100 := by rw [List.length_take]; omega
 have h3 : ([s] ++ out.drop k).length ≤ 101 := by simp; omega
 refine ev_some (ev_some (ev_some (ev_pos (by simp; omega) (ev_some (ev_pos (by simp) (ev_pos (by omega) h))))))
theorem l2_ev (src : List ByteArray) (len i : Int) (out : List ByteArray) (s : ByteArray) (hs : gOK s) (ho : srt out) (hl : out.length ≤ 100) (next : ∀ out', srt out' → out'.length = out.length + 1 → Ev (fun k => laws_FnGemSorted.l1 k out' src len (wrap64 (i + 1))) true) (d : Nat) :
  ∀ k, k + d = out.length → (∀ x ∈ out.take k, gLe x s) → Ev (fun n => laws_FnGemSorted.l2 n out s (k : Int) src len i) true := by
 induction d with
 | zero =>
  intro k h h1
  have hn : ([s] ++ out.drop k).length = 1 := by rw [List.drop_of_length_le (by omega)]; rfl
  have hI := srt_ins k hs ho h1 (fun hk => absurd hk (by omega))
  have hN := next _ hI (by rw [List.length_append, hn, List.length_take]; omega)
  refine Ev.step (fun _ => by rw [laws_FnGemSorted.l2]) (ev_neg (by omega) (ev_pos (by omega) (ev_pos (by omega) ?_)))
  exact put_ev (F := fun n y => laws_FnGemSorted.l1 n y src len (wrap64 (i + 1))) out s k hl hN
 | succ d ih =>
  intro k h h1
  have hk : k < out.length := by omega
  have hf := cmp_ev (ho.2 _ (List.getElem_mem hk)) hs
  refine Ev.step (fun _ => by rw [laws_FnGemSorted.l2, rd_in out k hk, wrap_nat (i := k) (by omega)]) ?_
  refine ev_pos (by omega) (ev_pos (by omega) (Ev.bind hf ?_))
  refine ev_pos rfl ?_
  by_cases hc : rbsC (gV out[k]) (gV s) > 0
  ·refine ev_pos hc (ev_pos (by omega) ?_)
   have hn : ([s] ++ out.drop k).length = out.length - k + 1 := by simp
   have hI := srt_ins k hs ho h1 (fun _ => hc)
   have hN := next _ hI (by rw [List.length_append, hn, List.length_take]; omega)
   exact put_ev (F := fun n y => laws_FnGemSorted.l1 n y src len (wrap64 (i + 1))) out s k hl hN
  ·refine ev_neg hc (ih (k + 1) (by omega) ?_)
   intro x hx
   rw [List.take_succ_eq_append_getElem hk] at hx
   rcases List.mem_append.1 hx with hx | hx
   ·exact h1 x hx
   ·have : x = out[k] := by simpa using hx
    subst this
    show rbsC _ _ ≤ 0
    omega
theorem l4_ev (out : List ByteArray) (ho : srt out) (hl : out.length ≤ 100) (len : Int) (i : Nat) (hi : i < out.length) (next : Ev (fun k => laws_FnGemSorted.l3 k out len (wrap64 ((i : Int) + 1))) true) (d : Nat) :
  ∀ j, j + d = out.length → i < j → Ev (fun k => laws_FnGemSorted.l4 k out (i : Int) (j : Int) len (i : Int)) true := by
 induction d with
 | zero =>
  intro j h hj
  exact Ev.step (fun _ => by rw [laws_FnGemSorted.l4]) (ev_neg (by omega) next)
 | succ d ih =>
  intro j h hj
  have hjl : j < out.length := by omega
  have a1 := ho.2 _ (List.getElem_mem hi)
  have a2 := ho.2 _ (List.getElem_mem hjl)
  have hc := gem_ev a1 a2
  have hle : rbsC (gV out[i]) (gV out[j]) ≤ 0 := List.pairwise_iff_getElem.1 ho.1 i j hi hjl hj
  refine Ev.step (fun _ => by rw [laws_FnGemSorted.l4, rd_in out i hi, rd_in out j hjl, wrap_nat (i := j) (by omega)]) ?_
  exact ev_pos (by omega) (ev_pos (by omega) (ev_pos (by omega) (ev_pos (by omega) (Ev.bind hc (ev_neg (by omega) (ih (j + 1) (by omega) (by omega)))))))
theorem l3_ev (out : List ByteArray) (ho : srt out) (hl : out.length ≤ 100) (d : Nat) : ∀ i, i + d = out.length → Ev (fun k => laws_FnGemSorted.l3 k out (out.length : Int) (i : Int)) true := by
 induction d with
 | zero =>
  intro i h
  exact Ev.step (fun _ => by rw [laws_FnGemSorted.l3]) (ev_neg (by omega) (ev_now rfl))
 | succ d ih =>
  intro i h
  have hw : wrap64 ((i : Int) + 1) = ((i + 1 : Nat) : Int) := wrap_nat (by omega)
  have hn := ih (i + 1) (by omega)
  rw [← hw] at hn
  have := l4_ev out ho hl (out.length : Int) i (by omega) hn (out.length - (i + 1)) (i + 1) (by omega) (by omega)
  exact Ev.step (fun _ => by rw [laws_FnGemSorted.l3, hw]) (ev_pos (by omega) this)
theorem l1_ev (src : List ByteArray) (hs : ∀ s ∈ src, gOK s) (hl : src.length ≤ 50) (d : Nat) : ∀ i out, i + d = src.length → srt out → out.length = i → Ev (fun k => laws_FnGemSorted.l1 k out src (src.length : Int) (i : Int)) true := by
 induction d with
 | zero =>
  intro i out h ho hn
  have h3 := l3_ev out ho (by omega) out.length 0 (by omega)
  refine Ev.step (fun _ => by rw [laws_FnGemSorted.l1]) ?_
  exact ev_neg (by omega) h3
 | succ d ih =>
  intro i out h ho hn
  have hi : i < src.length := by omega
  have hw : wrap64 ((i : Int) + 1) = ((i + 1 : Nat) : Int) := wrap_nat (by omega)
  have := l2_ev src (src.length : Int) (i : Int) out src[i] (hs _ (List.getElem_mem hi)) ho (by omega) (fun out' h1 h2 => by rw [hw]; exact ih (i + 1) out' (by omega) h1 (by omega)) out.length 0 (by omega) (fun x hx => by simp at hx)
  refine Ev.step (fun _ => by rw [laws_FnGemSorted.l1, rd_in src i hi]) ?_
  exact ev_pos (by omega) (ev_pos (by omega) (ev_pos (by omega) this))
theorem l0_ev (l : List ByteArray) (hl : l.length ≤ 50) (hz : ∀ s ∈ l, s.size ≤ 1500) (d : Nat) : ∀ i, i + d = l.length → (∀ s ∈ l.take i, gOK s) → Ev (fun k => laws_FnGemSorted.l0 k l l (l.length : Int) (i : Int)) true := by
 induction d with
 | zero =>
  intro i h h1
  rw [List.take_of_length_le (by omega)] at h1
  have h3 := l1_ev l h1 hl l.length 0 [] (by omega) ⟨List.Pairwise.nil, fun s hs => by simp at hs⟩ rfl
  refine Ev.step (fun _ => by rw [laws_FnGemSorted.l0]) ?_
  exact ev_neg (by omega) h3
 | succ d ih =>
  intro i h h1
  have hi : i < l.length := by omega
  have hsz := hz _ (List.getElem_mem hi)
  obtain ⟨r, e, k⟩ := valid_ev (bl l[i]) (by rw [bl_length]; omega)
  rw [ofL_bl] at e
  refine Ev.step (fun _ => by rw [laws_FnGemSorted.l0, rd_in l i hi, wrap_nat (by omega)]) (ev_pos (by omega) (ev_pos (by omega) (ev_pos (by omega) (Ev.bind e ?_))))
  cases r with
  | false => exact ev_f (ev_now rfl)
  | true =>
   refine ev_t (ih (i + 1) (by omega) ?_)
   intro s hs
   rw [List.take_succ_eq_append_getElem hi] at hs
   rcases List.mem_append.1 hs with hs | hs
   ·exact h1 s hs
   ·have : s = l[i] := by simpa using hs
    rw [this]
    exact ⟨hsz, k rfl⟩
theorem FnGemSorted : laws_FnGemSorted.Pure := by
 intro l h0
 refine Ev.rounds ?_
 unfold laws_FnGemSorted.f
 have skip : Ev (fun k => laws_FnGemSorted.j0 k l true) true := Ev.step (fun _ => by rw [laws_FnGemSorted.j0]) (ev_t (ev_now rfl))
 obtain ⟨b, hb⟩ := fits_ev l h0
 refine Ev.bind hb ?_
 cases b with
 | false => exact ev_f (ev_now rfl)
 | true =>
  refine ev_t (ev_ite (fun _ => skip) (fun hl => ?_))
  obtain ⟨r, hr, hq⟩ := short_ev l (by omega)
  refine Ev.bind hr ?_
  cases r with
  | false => exact skip
  | true =>
   have hs := (hq rfl).2
   refine Ev.step (fun _ => by rw [laws_FnGemSorted.j0]) ?_
   refine ev_neg (by decide) ?_
   refine l0_ev l (by omega) (fun s hs' => ?_) l.length 0 (by omega) (fun s hs => by simp at hs)
   obtain ⟨j, hj, rfl⟩ := List.mem_iff_getElem.1 hs'
   have := hs j hj
   rw [List.getD_eq_getElem?_getD, List.getElem?_eq_getElem hj] at this
   exact this
end Go.Proofs.YtmhlmkefnmdbcaaDoor.Pure

namespace Go.Proofs.YtmhlmkefnmdbcaaDoor.fnGemSorted
open Go.ChangeShapes Go.WideShapes Go.ChangeAt Go.RowKit Go.Proofs.YtmhlmkefnmdbcaaDoor.Op Go.Proofs.YtmhlmkefnmdbcaaDoor.Z Go.Proofs.YtmhlmkefnmdbcaaDoorW.PrintWords
open Go.ChangeMaps (open_string shut_string)
set_option linter.unusedVariables false
set_option linter.unusedSimpArgs false
theorem own : ownKnob Tryd.prog.godebug = none := by kernel_rfl
theorem laidOut : laidOutB Tryd.prog = true := by kernel_rfl
noncomputable def low (os : Os) : Nat := (World.settled Tryd.prog os).heap.size
def put (h : Array Obj) (g : Nat) (cs : Array Value) : Array Obj := h.modify g fun
 | .cells _ t frozen => .cells cs t frozen
 | o => o
/-- A world for the witness: the listed variables hold what their initialisers lay. -/
noncomputable def laidWorld (os : Os) : World :=
 let w0 := World.holding Tryd.prog os ⟨#[(.cells #[.string ⟨#[69, 79, 70]⟩] 178), (.cells #[.string ⟨#[110, 117, 109, 98, 101, 114, 32, 104, 97, 115, 32, 110, 111, 32, 100, 105, 103, 105, 116, 115]⟩] 178), (.cells #[.string ⟨#[39, 95, 39, 32, 109, 117, 115, 116, 32, 115, 101, 112, 97, 114, 97, 116, 101, 32, 115, 117, 99, 99, 101, 115, 115, 105, 118, 101, 32, 100, 105, 103, 105, 116, 115]⟩] 178), (.cells #[.string ⟨#[105, 110, 118, 97, 108, 105, 100, 32, 118, 101, 114, 115, 105, 111, 110]⟩] 178), (.cells #[.string ⟨#[118, 101, 114, 115, 105, 111, 110, 32, 105, 115, 32, 110, 111, 116, 32, 111, 102, 32, 116, 104, 101, 32, 115, 97, 109, 101, 32, 101, 99, 111, 115, 121, 115, 116, 101, 109]⟩] 178)], #[], []⟩
 { w0 with heap := put (put (put (put (put (w0.heap) 2 #[.iface 163 (.pointer (some ⟨low os + 0, 0, none⟩))]) 5 #[.iface 163 (.pointer (some ⟨low os + 1, 0, none⟩))]) 4 #[.iface 163 (.pointer (some ⟨low os + 2, 0, none⟩))]) 0 #[.iface 163 (.pointer (some ⟨low os + 3, 0, none⟩))]) 1 #[.iface 163 (.pointer (some ⟨low os + 4, 0, none⟩))] }
set_option maxRecDepth 100000 in
theorem laid_met (os : Os) : laidMet Tryd.prog Rows.fnGemSortedRow.laid ((laidWorld os).forCall (fun _ _ => 0) ⟨#[], #[.slice none 0 0], []⟩).memory :=
 laidMet_of_run3 8 (by kernel_rfl) (by kernel_rfl) (by kernel_rfl)
set_option maxRecDepth 100000 in
theorem reads (os : Os) {H : Type} (enc : TypeId × Value → H) : DataW.whole enc Tryd.prog ((laidWorld os).forCall (fun _ _ => 0) ⟨#[], #[.slice none 0 0], []⟩).memory Tryd.f7.params.toList Rows.fnGemSortedSpec.vars false #[.slice none 0 0].toList 8 = some ([.nil], [], []) := by kernel_rfl
set_option maxRecDepth 100000 in
theorem lifted (os : Os) (started : os.Started) (H : Type) (enc : TypeId × Value → H) (F : Stop.Interp) :
  ReturnsInHanded {} Tryd.checked os 7 .any ((OpenSpec.ofChange Rows.fnGemSortedSpec).preRow enc Tryd.prog Tryd.f7 Rows.fnGemSortedRow.domain false Rows.fnGemSortedRow.laid) (((OpenSpec.ofChange Rows.fnGemSortedSpec).at F).post enc Tryd.prog Tryd.f7 false true false false) := by
 refine returnsInHanded_of_row (C := Tryd.checked) (s := OpenSpec.ofChange Rows.fnGemSortedSpec) own started (by kernel_rfl) Tryd.func7
  (witness_row_atRef (enc := enc) (C := Tryd.checked) false (laidWorld os) #[.slice none 0 0] rfl (by kernel_rfl) (by kernel_rfl) (by kernel_rfl)
   (OpenSpec.preRow_of_cond 8 (reads os enc) (by kernel_rfl) (fun k hk => by cases hk) (by kernel_rfl) (laid_met os))) ?_
 intro W base args ds gs before hval0 hW hcnd hk0 hsz0 hL hSh hho
 have hsz : (DataW.weightsEach Tryd.prog (Tryd.f7.params.toList ++ Rows.fnGemSortedSpec.plain.varTypes Tryd.prog) (ds ++ gs)).all (· ≤ reachBytes) = true := hsz0
 have hval : ∀ (j : Nat) t v, Tryd.f7.params[j]? = some t → args[j]? = some v → Value.okWide Tryd.prog W .any base t v := hval0
 have hW' := hW
 obtain ⟨p, q, hA0, hV, rfl, hfz, hnd⟩ := hW
 have hA : DataW.TrodAll enc Tryd.prog W 0 (fun _ => true) true Tryd.f7.params.toList args.toList ds p := hA0
 rw [Tryd.params7] at hA hval hsz
 obtain ⟨v0, vs0, d0, ds0, p0, q0, hargs, rfl, rfl, h0, r0⟩ := trodAll_cons hA
 obtain ⟨rfl, rfl, rfl⟩ := trodAll_nil r0
 obtain rfl : args = #[v0] := by cases args; simp_all
 obtain ⟨rfl, rfl⟩ := trodVars_none hV
 obtain ⟨A0, n0, c0, rfl⟩ := okWide_slice Tryd.underlying28 (hval 0 28 v0 rfl rfl)
 have k0 := h0
 have lt0 : ∀ x ∈ p0, x.block < W.heap.size := by obtain ⟨m, hm⟩ := k0; exact DataW.trod_lt m _ _ _ hm
 obtain ⟨l0, rfl, hc0, hr0, hm0⟩ := open_slice (Opens.slice Tryd.underlying28 (by kernel_rfl) (Opens.string Tryd.underlying9)) h0
 clear hA0 hval0 hsz0 hsz
 refine (laws_FnGemSorted.walk Pure.FnGemSorted A0 c0 l0 W hm0 hr0 hc0 (Gw.gw_of (l := Rows.fnGemSortedRow.laid) hL (List.Mem.head _) (List.Mem.tail _ (List.Mem.head _)) (List.Mem.tail _ (List.Mem.tail _ (List.Mem.tail _ (List.Mem.head _)))))).mono fun e W' ⟨he, bel⟩ => ?_
 subst he
 exact ⟨_, rfl, _, _, _, [], _, [], hW', trodAll_mk1 (shut_bool Tryd.underlying4 _), (trodAll_cons_mk (Below.trod laidOut (by kernel_rfl) (of_decide_eq_true (by kernel_rfl)) k0 bel lt0) trodAll_mk0), rfl, bel.frame _, fun h => by cases h⟩
theorem said : Rows.FnGemSortedSaid :=
 OpenClaim.holds_of_cond 7 Tryd.f7 rfl rfl rfl rfl rfl rfl rfl ⟨rfl, rfl, rfl, rfl, rfl⟩ rfl rfl rfl rfl rfl (by kernel_rfl) Tryd.func7 (by kernel_rfl)
  (of_decide_eq_true (by kernel_rfl)) (by unfold Func.isWrapper; first | (rw [if_pos (by decide +kernel)]; kernel_rfl) | (rw [if_neg (by decide +kernel)]; exact ⟨rfl, rfl⟩))
  (fun os started H enc _ F => by rw [OpenClaim.pre_eq_preRow]; exact lifted os started H enc F)
theorem plain (f : FuncId) (fn : Func) (hf : Tryd.pinned.checked.prog.funcNamed "pub-seniority/laws.FnGemSorted" = some f) (hfn : Tryd.pinned.checked.prog.funcs[f]? = some fn) :
  true = Tryd.pinned.checked.prog.looks [] ∧ ∀ (j : Nat) t, fn.params[j]? = some t → Tryd.pinned.checked.prog.wantsStandIn t = false := by
 obtain rfl : f = 7 := Option.some.inj ((show Tryd.prog.funcNamed "pub-seniority/laws.FnGemSorted" = some 7 by kernel_rfl).symm.trans hf) |>.symm
 obtain rfl : fn = Tryd.f7 := (Option.some.inj (Tryd.func7.symm.trans hfn)).symm
 refine ⟨by kernel_rfl, fun j t ht => ?_⟩
 rw [Tryd.params7] at ht
 have h2 : ([28] : List TypeId).all (fun t => !Tryd.prog.wantsStandIn t) = true := by kernel_rfl
 have h3 := List.all_eq_true.1 h2 t (by have := Array.mem_of_getElem? ht; simpa using this)
 exact (show Tryd.prog.wantsStandIn t = false from by simpa using h3)
theorem proved : Rows.FnGemSortedCardSaid :=
 Claim7.holds_tied_plain_at .later [] _ _ _ _ said (fun _ h => by cases h) (by kernel_rfl) (fun _ h => by cases h) fnGemSorted_row_tie rfl ⟨rfl, rfl⟩ (by kernel_rfl) rfl plain (by kernel_rfl)
#print axioms proved
end Go.Proofs.YtmhlmkefnmdbcaaDoor.fnGemSorted
namespace Go.Proofs.YtmhlmkefnmdbcaaDoor
/-- The card, under a short name, for the claim. -/
theorem fnGemSorted_holds : Rows.FnGemSortedCardSaid := fnGemSorted.proved
end Go.Proofs.YtmhlmkefnmdbcaaDoor
