/- Zeros behind a release change nothing, for all versions of which the guards speak. -/
import Derived.Test.YtipfmkfpaglkkaaGreatDoorZ2
import Derived.Test.YtipfmkfpaglkkaaGreatDoorZ7
import Derived.Test.YtipfmkfpaglkkaaGreatDoorZ15
import Derived.Test.YtipfmkfpaglkkaaGreatDoorBy
import Derived.Test.YtipfmkfpaglkkaaGreatDoorBn
import Derived.Test.YtipfmkfpaglkkaaGreatDoorZ4
import Derived.Test.YtipfmkfpaglkkaaGreatDoorEv
import Derived.Test.YtipfmkfpaglkkaaGreatDoorZ3
import Derived.Test.YtipfmkfpaglkkaaGreatDoorZ5
import Derived.Test.YtipfmkfpaglkkaaGreatDoorZ6
import Derived.Test.YtipfmkfpaglkkaaGreatDoorZ9
import Derived.Test.YtipfmkfpaglkkaaGreatDoorZ13
import Derived.Test.YtipfmkfpaglkkaaGreatDoorZ16
import Derived.Lib.Bytealg
import Derived.Test.YtipfmkfpaglkkaaGreatDoorZ12
import Derived.Test.YtipfmkfpaglkkaaGreatDoorZ14
import Derived.Test.YtipfmkfpaglkkaaGreatDoorZ17
import Derived.Test.YtipfmkfpaglkkaaGreatDoorBv
import Derived.Test.YtipfmkfpaglkkaaGreatDoorRows
import Derived.Test.YtipfmkfpaglkkaaGreatDoorOp
import Derived.Test.YtipfmkfpaglkkaaGreatDoorCards
import Derived.Test.YtipfmkfpaglkkaaGreatDoorTie
import Derived.Test.YtipfmkfpaglkkaaGreatDoorGl
import Derived.Deep.DeepHandedRow
import Derived.Deep.DeepWitnessRowRef
import Derived.Lay
import Derived.WalkKit
import Derived.ProofKit
import Derived.OpenShut
import Derived.ShutString
import Derived.ChangeOld
import Derived.Below
import Derived.SizedLaws
namespace Go.Proofs.YtipfmkfpaglkkaaGreatDoor.Com
open Go.RowKit Go.Proofs.YtipfmkfpaglkkaaGreatDoor.Z Go.Proofs.YtipfmkfpaglkkaaGreatDoor.Evs Go.Proofs.YtipfmkfpaglkkaaGreatDoor.By Go.Proofs.YtipfmkfpaglkkaaGreatDoorW.PrintWords Go.Proofs.YtipfmkfpaglkkaaGreatDoorW.PrintLast
set_option linter.unusedVariables false
set_option linter.unusedSimpArgs false

def tidyL (l : List UInt8) : List UInt8 := l.dropWhile (· == 0)
theorem isEmpty_ofL (l : List UInt8) : (ofL l).toList.isEmpty = l.isEmpty := by rw [toList_ofL]
theorem tidy_l (neg : Bool) (n : Nat) : ∀ l : List UInt8, l.length = n → n ≤ 140737488351232 → Ev (fun k => spec_numTidy.l0 k neg (ofL l)) (neg && !(tidyL l).isEmpty, ofL (tidyL l)) := by
 induction n with
 | zero =>
  intro l h hl
  have : l = [] := List.length_eq_zero_iff.1 h
  subst this
  refine Ev.step (fun _ => by rw [spec_numTidy.l0]) (ev_neg (by rw [ofL_size]; simp) ?_)
  cases neg with
  | true => exact ev_t (ev_now (by rw [isEmpty_ofL]; rfl))
  | false => exact ev_f (ev_now rfl)
 | succ n ih =>
  intro l h hl
  obtain ⟨c, r, rfl⟩ : ∃ c r, l = c :: r := by
   cases l with
   | nil => simp at h
   | cons c r => exact ⟨c, r, rfl⟩
  have hb : bt (ofL (c :: r)) 0 = (c.toNat : Int) := bt_ofL (c :: r) 0 (by simp)
  have hs := ofL_size (c :: r)
  have hx : (ofL (c :: r)).extract 1 (ofL (c :: r)).size = ofL r := by rw [hs, ofL_extract, List.take_of_length_le (Nat.le_refl _)]; rfl
  refine Ev.step (fun _ => by rw [spec_numTidy.l0, hb, hx]) (ev_pos (by omega) (ev_pos (by omega) ?_))
  by_cases h0 : c = 0
  ·subst h0
   refine ev_pos rfl (ev_pos (by omega) ?_)
   exact ih r (by simpa using h) (by omega)
  ·have hne : ¬ (c.toNat : Int) = 0 := fun hh => h0 (UInt8.toNat_inj.1 (show c.toNat = (0 : UInt8).toNat by have : (0 : UInt8).toNat = 0 := rfl; omega))
   have ht : tidyL (c :: r) = c :: r := by
    unfold tidyL
    rw [List.dropWhile_cons, if_neg (by simpa using h0)]
   rw [ht]
   refine ev_neg hne ?_
   cases neg with
   | true => exact ev_t (ev_now (by rw [isEmpty_ofL]; rfl))
   | false => exact ev_f (ev_now rfl)
theorem tidy_ev (neg : Bool) (l : List UInt8) (hl : l.length ≤ 140737488351232) : Ev (fun k => spec_numTidy.f k neg (ofL l)) (neg && !(tidyL l).isEmpty, ofL (tidyL l)) := tidy_l neg l.length l rfl hl
/-- A number as it must be written. -/
def okN (neg : Bool) (l : List UInt8) : Bool := (neg && !(tidyL l).isEmpty) == neg && tidyL l == l
theorem intOK_ev (neg : Bool) (l : List UInt8) (hl : l.length ≤ 140737488351232) : Ev (fun k => spec_IntOK.f k neg (ofL l)) (okN neg l) := by
 unfold spec_IntOK.f
 refine Ev.bind (tidy_ev neg l hl) (ev_now ?_)
 simp only [toList_ofL]
 rfl
end Go.Proofs.YtipfmkfpaglkkaaGreatDoor.Com

namespace Go.Proofs.YtipfmkfpaglkkaaGreatDoor.Com
open Go.RowKit Go.Proofs.YtipfmkfpaglkkaaGreatDoor.Z Go.Proofs.YtipfmkfpaglkkaaGreatDoor.Evs Go.Proofs.YtipfmkfpaglkkaaGreatDoorW.PrintWords Go.Proofs.YtipfmkfpaglkkaaGreatDoorW.PrintLast
set_option linter.unusedVariables false
set_option linter.unusedSimpArgs false

/-- short: an answer; where it is true the list is short and its texts are. -/
theorem short_l (l : List ByteArray) (hl : (l.length : Int) < 9223372036854775807) (d : Nat) : ∀ i : Nat, i + d = l.length →
  ∃ b, Ev (fun k => laws_short.l0 k l l (l.length : Int) (i : Int)) b ∧ (b = true → l.length ≤ 150 ∧ ∀ j, i ≤ j → j < l.length → (l.getD j ByteArray.empty).size ≤ 1500) := by
 induction d with
 | zero =>
  intro i h
  exact ⟨_, Ev.step (fun _ => by rw [laws_short.l0]) (ev_neg (by omega) (Ev.now _)), fun hb => ⟨by simp at hb; omega, fun j h1 h2 => by omega⟩⟩
 | succ d ih =>
  intro i h
  obtain ⟨b, hb, hq⟩ := ih (i + 1) (by omega)
  by_cases c : ((rdOf ByteArray.empty l (i : Int)).size : Int) > 1500
  ·exact ⟨false, Ev.step (fun _ => by rw [laws_short.l0]) (ev_pos (by omega) (ev_pos (by omega) (ev_pos (by omega) (ev_pos c (Ev.now _))))), fun h => by cases h⟩
  ·refine ⟨b, Ev.step (fun _ => by rw [laws_short.l0, wrap_nat (by omega)]) (ev_pos (by omega) (ev_pos (by omega) (ev_pos (by omega) (ev_neg c hb)))), fun h => ⟨(hq h).1, fun j h1 h2 => ?_⟩⟩
   by_cases e : j = i
   ·subst e; rw [rdOf_nat] at c; omega
   ·exact (hq h).2 j (by omega) h2
theorem short_ev (l : List ByteArray) (hl : (l.length : Int) < 9223372036854775807) : ∃ b, Ev (fun k => laws_short.f k l) b ∧ (b = true → l.length ≤ 150 ∧ ∀ j, j < l.length → (l.getD j ByteArray.empty).size ≤ 1500) := by
 obtain ⟨b, hb, hq⟩ := short_l l hl l.length 0 (by omega)
 exact ⟨b, hb, fun h => ⟨(hq h).1, fun j hj => (hq h).2 j (by omega) hj⟩⟩

end Go.Proofs.YtipfmkfpaglkkaaGreatDoor.Com

namespace Go.Proofs.YtipfmkfpaglkkaaGreatDoor.Com
open Go.RowKit Go.Proofs.YtipfmkfpaglkkaaGreatDoor.Z Go.Proofs.YtipfmkfpaglkkaaGreatDoor.Evs Go.Proofs.YtipfmkfpaglkkaaGreatDoorW.PrintWords Go.Proofs.YtipfmkfpaglkkaaGreatDoorW.PrintLast
set_option linter.unusedVariables false
set_option linter.unusedSimpArgs false

/-- Ascii: an answer; where it is true every byte is below 128. -/
theorem ascii_l (s : ByteArray) (hs : s.size ≤ 140737488351232) (d : Nat) : ∀ i : Nat, i + d = s.size → ∃ r, Ev (fun k => spec_Ascii.l0 k s (i : Int)) r ∧ (r = true → ∀ j : Nat, i ≤ j → (h : j < s.size) → (s[j]'h).toNat < 128) := by
 induction d with
 | zero => intro i h; exact ⟨true, Ev.step (fun _ => by rw [spec_Ascii.l0]) (ev_neg (by omega) (Ev.now _)), fun _ j h1 h2 => by omega⟩
 | succ d ih =>
  intro i h
  obtain ⟨r, hr, hq⟩ := ih (i + 1) (by omega)
  have hb := bt_nat s i (by omega)
  by_cases c : bt s (i : Int) > 127
  ·exact ⟨false, Ev.step (fun _ => by rw [spec_Ascii.l0]) (ev_pos (by omega) (ev_pos (by omega) (ev_pos c (Ev.now _)))), fun h => by cases h⟩
  ·refine ⟨r, Ev.step (fun _ => by rw [spec_Ascii.l0, wrap_nat (by omega)]) (ev_pos (by omega) (ev_pos (by omega) (ev_neg c hr))), fun h j h1 h2 => ?_⟩
   by_cases e : j = i
   ·subst e; omega
   ·exact hq h j (by omega) h2
end Go.Proofs.YtipfmkfpaglkkaaGreatDoor.Com

namespace Go.Proofs.YtipfmkfpaglkkaaGreatDoor.Com
open Go.RowKit Go.Proofs.YtipfmkfpaglkkaaGreatDoor.Z Go.Proofs.YtipfmkfpaglkkaaGreatDoor.Evs Go.Proofs.YtipfmkfpaglkkaaGreatDoor.By Go.Proofs.YtipfmkfpaglkkaaGreatDoorW.PrintWords Go.Proofs.YtipfmkfpaglkkaaGreatDoorW.PrintLast
set_option linter.unusedVariables false
set_option linter.unusedSimpArgs false

theorem isDigit_f (c : UInt8) : spec_isDigit.f (c.toNat : Int) = some (dg c) := by
 unfold spec_isDigit.f dg
 by_cases h : (c.toNat : Int) ≥ 48
 ·rw [if_pos h]
  congr 1
  rw [Bool.eq_iff_iff, decide_eq_true_eq, decide_eq_true_eq]
  omega
 ·rw [if_neg h]
  congr 1
  symm
  rw [decide_eq_false_iff_not]
  omega
/-- Digits alone, one at least. -/
def allD (l : List UInt8) : Bool := l.all dg && decide (0 < l.length)
theorem digits_l (l : List UInt8) (hl : l.length ≤ 140737488351232) (d : Nat) : ∀ i : Nat, i + d = l.length → Ev (fun k => spec_allDigits.l0 k (ofL l) (i : Int)) ((l.drop i).all dg && decide (0 < l.length)) := by
 have hs := ofL_size l
 induction d with
 | zero =>
  intro i h
  refine Ev.step (fun _ => by rw [spec_allDigits.l0]) (ev_neg (by omega) (ev_now ?_))
  rw [List.drop_of_length_le (by omega), hs]
  simp
 | succ d ih =>
  intro i h
  have hc := bt_ofL l i (by omega)
  refine Ev.step (fun _ => by rw [spec_allDigits.l0, hc, isDigit_f, Option.bind_some, wrap_nat (by omega)]) (ev_pos (by omega) (ev_pos (by omega) ?_))
  rw [List.drop_eq_getElem_cons (by omega), List.all_cons]
  cases e : dg (l[i]'(by omega)) with
  | true => exact ev_t (by simpa using ih (i + 1) (by omega))
  | false => exact ev_f (ev_now (by simp))
theorem digits_ev (l : List UInt8) (hl : l.length ≤ 140737488351232) : Ev (fun k => spec_allDigits.f k (ofL l)) (allD l) := digits_l l hl l.length 0 (by omega)
end Go.Proofs.YtipfmkfpaglkkaaGreatDoor.Com

namespace Go.Proofs.YtipfmkfpaglkkaaGreatDoor.Com
open Go.RowKit Go.Proofs.YtipfmkfpaglkkaaGreatDoor.Z Go.Proofs.YtipfmkfpaglkkaaGreatDoor.Evs Go.Proofs.YtipfmkfpaglkkaaGreatDoor.By Go.Proofs.YtipfmkfpaglkkaaGreatDoorW.PrintWords Go.Proofs.YtipfmkfpaglkkaaGreatDoorW.PrintLast
set_option linter.unusedVariables false
set_option linter.unusedSimpArgs false

/-- A sign and digits alone. -/
def signed (l : List UInt8) : Bool := match l with
 | [] => false
 | c :: r => (c == 45 || c == 43) && allD r
theorem signed_short (l : List UInt8) (h : ¬ 1 < l.length) : signed l = false := by
 match l, h with
 | [], _ => rfl
 | [c], _ => simp [signed, allD]
 | _ :: _ :: _, h => simp at h
def idK (l : List (List UInt8)) : Bool := l.all fun x => !signed x
theorem rd_map (l : List (List UInt8)) (i : Nat) (h : i < l.length) : rdOf ByteArray.empty (l.map ofL) (i : Int) = ofL (l[i]'h) := by
 rw [rdOf_nat]
 simp [List.getD_eq_getElem?_getD, h]
theorem ident_l (l : List (List UInt8)) (hl : l.length ≤ 4000000000) (hz : ∀ x ∈ l, x.length ≤ 140737488351232) (d : Nat) : ∀ i : Nat, i + d = l.length → Ev (fun k => spec_IdentifiersKnown.l0 k (l.map ofL) (i : Int)) (idK (l.drop i)) := by
 induction d with
 | zero =>
  intro i h
  refine Ev.step (fun _ => by rw [spec_IdentifiersKnown.l0, List.length_map]) (ev_neg (by omega) (ev_now ?_))
  rw [List.drop_of_length_le (by omega)]
  rfl
 | succ d ih =>
  intro i h
  have hi : i < l.length := by omega
  have hr := rd_map l i hi
  have hlen := hz _ (List.getElem_mem hi)
  have e : l.drop i = l[i] :: l.drop (i + 1) := List.drop_eq_getElem_cons hi
  have hk : idK (l.drop i) = (!signed l[i] && idK (l.drop (i + 1))) := by rw [e]; rfl
  have next := ih (i + 1) (by omega)
  rw [hk]
  refine Ev.step (fun _ => by rw [spec_IdentifiersKnown.l0, List.length_map, hr, ofL_size, wrap_nat (by omega)]) (ev_pos (by omega) (ev_pos (by omega) ?_))
  by_cases h1 : 1 < l[i].length
  ·refine ev_pos (by omega) (ev_pos (by omega) ?_)
   obtain ⟨c, r, hcr⟩ : ∃ c r, l[i] = c :: r := by
    cases hx : l[i] with
    | nil => rw [hx] at h1; simp at h1
    | cons c r => exact ⟨c, r, rfl⟩
   rw [hcr] at hlen h1 ⊢
   have hb : bt (ofL (c :: r)) 0 = (c.toNat : Int) := bt_ofL (c :: r) 0 (by simp)
   have hx : (ofL (c :: r)).extract 1 (c :: r).length = ofL r := by rw [ofL_extract, List.take_of_length_le (Nat.le_refl _)]; rfl
   have hd := digits_ev r (by simp at hlen; omega)
   have c45 : (c.toNat : Int) = 45 ↔ (c == 45) = true := by
    rw [beq_iff_eq]
    exact ⟨fun h => UInt8.toNat_inj.1 (by have : (45 : UInt8).toNat = 45 := rfl; omega), fun h => by rw [h]; rfl⟩
   have c43 : (c.toNat : Int) = 43 ↔ (c == 43) = true := by
    rw [beq_iff_eq]
    exact ⟨fun h => UInt8.toNat_inj.1 (by have : (43 : UInt8).toNat = 43 := rfl; omega), fun h => by rw [h]; rfl⟩
   simp only [hb, hx]
   by_cases h45 : (c == 45) = true
   ·refine ev_pos (c45.2 h45) (ev_pos (by omega) (Ev.bind hd ?_))
    have hsg : signed (c :: r) = allD r := by simp only [signed, h45, Bool.true_or, Bool.true_and]
    rw [hsg]
    cases allD r with
    | true => exact ev_t (ev_now (by simp))
    | false => exact ev_f (by simpa using next)
   ·refine ev_neg (fun h => h45 (c45.1 h)) ?_
    by_cases h43 : (c == 43) = true
    ·refine ev_pos (c43.2 h43) (ev_pos (by omega) (Ev.bind hd ?_))
     have hsg : signed (c :: r) = allD r := by simp only [signed, h43, Bool.or_true, Bool.true_and]
     rw [hsg]
     cases allD r with
     | true => exact ev_t (ev_now (by simp))
     | false => exact ev_f (by simpa using next)
    ·refine ev_neg (fun h => h43 (c43.1 h)) ?_
     have hsg : signed (c :: r) = false := by
      have a : (c == 45) = false := by simpa using h45
      have b : (c == 43) = false := by simpa using h43
      simp only [signed, a, b, Bool.or_false, Bool.false_and]
     rw [hsg]
     simpa using next
  ·refine ev_neg (by omega) ?_
   rw [signed_short _ h1]
   simpa using next
theorem ident_ev (l : List (List UInt8)) (hl : l.length ≤ 4000000000) (hz : ∀ x ∈ l, x.length ≤ 140737488351232) : Ev (fun k => spec_IdentifiersKnown.f k (l.map ofL)) (idK l) := by
 have := ident_l l hl hz l.length 0 (by omega)
 exact this
end Go.Proofs.YtipfmkfpaglkkaaGreatDoor.Com

namespace Go.Proofs.YtipfmkfpaglkkaaGreatDoor.Py
open Go Go.RowKit Go.Proofs.YtipfmkfpaglkkaaGreatDoor.Z Go.Proofs.YtipfmkfpaglkkaaGreatDoor.Evs Go.Proofs.YtipfmkfpaglkkaaGreatDoor.By Go.Proofs.YtipfmkfpaglkkaaGreatDoor.Com Go.Proofs.YtipfmkfpaglkkaaGreatDoorW.PrintWords Go.Proofs.YtipfmkfpaglkkaaGreatDoorW.PrintLast
set_option linter.unusedVariables false
set_option linter.unusedSimpArgs false
abbrev XI : Type := S23
abbrev XP : Type := S29
/-- An answer; where it is yes, P holds. -/
def EvB (f : Nat → Option Bool) (P : Prop) : Prop := ∃ b, Ev f b ∧ (b = true → P)
theorem EvB.no {P : Prop} : EvB (fun _ => some false) P := ⟨false, Ev.now _, fun h => by cases h⟩
theorem EvB.yes {P : Prop} (h : P) : EvB (fun _ => some true) P := ⟨true, Ev.now _, fun _ => h⟩
theorem EvB.is {b : Bool} {P : Prop} (h : b = true → P) : EvB (fun _ => some b) P := ⟨b, Ev.now _, h⟩
theorem EvB.imp {f : Nat → Option Bool} {P Q : Prop} (h : EvB f P) (k : P → Q) : EvB f Q := by
 obtain ⟨b, h1, h2⟩ := h
 exact ⟨b, h1, fun hb => k (h2 hb)⟩
theorem EvB.step {f g : Nat → Option Bool} {P : Prop} (e : ∀ k, f (k + 1) = g k) (h : EvB g P) : EvB f P := by
 obtain ⟨b, h1, h2⟩ := h
 exact ⟨b, Ev.step e h1, h2⟩
theorem EvB.pos {c : Prop} [Decidable c] {f g : Nat → Option Bool} {P : Prop} (h : c) (k : EvB f P) : EvB (fun n => if c then f n else g n) P := by
 obtain ⟨b, h1, h2⟩ := k
 exact ⟨b, ev_pos h h1, h2⟩
theorem EvB.neg {c : Prop} [Decidable c] {f g : Nat → Option Bool} {P : Prop} (h : ¬ c) (k : EvB g P) : EvB (fun n => if c then f n else g n) P := by
 obtain ⟨b, h1, h2⟩ := k
 exact ⟨b, ev_neg h h1, h2⟩
theorem EvB.and {f g : Nat → Option Bool} {P Q : Prop} (h : EvB f P) (k : P → EvB g Q) : EvB (fun n => (f n).bind fun t => if t = true then g n else some false) (P ∧ Q) := by
 obtain ⟨b, h1, h2⟩ := h
 cases b with
 | false => exact ⟨false, Ev.bind h1 (ev_f (Ev.now _)), fun hh => by cases hh⟩
 | true =>
  obtain ⟨c, k1, k2⟩ := k (h2 rfl)
  exact ⟨c, Ev.bind h1 (ev_t k1), fun hh => ⟨h2 rfl, k2 hh⟩⟩
theorem EvB.last {f : Nat → Option Bool} {P : Prop} (h : EvB f P) : EvB (fun n => (f n).bind fun t => some t) P := by
 obtain ⟨b, h1, h2⟩ := h
 exact ⟨b, Ev.bind h1 (Ev.now _), h2⟩
theorem EvB.ev {f : Nat → Option Bool} {b : Bool} {P : Prop} (h : Ev f b) (k : b = true → P) : EvB f P := ⟨b, h, k⟩
theorem rdI_at (l : List XI) (i : Nat) (hi : i < l.length) : rd_T23 l (i : Int) = l[i] := by
 unfold rd_T23
 rw [Int.toNat_natCast, List.getD_eq_getElem?_getD, List.getElem?_eq_getElem hi]
 rfl
theorem rdS_at (l : List ByteArray) (i : Nat) (hi : i < l.length) : rdOf ByteArray.empty l (i : Int) = l[i] := by
 rw [rdOf_nat, List.getD_eq_getElem?_getD, List.getElem?_eq_getElem hi]
 rfl
abbrev MX : Nat := 2147483647
theorem fit3 (n : Bool) (m : ByteArray) : EvB (fun _ => laws_zzFits3.f n m) (m.size ≤ MX) := by
 unfold laws_zzFits3.f
 by_cases c : (m.size : Int) > 2147483647
 ·exact EvB.pos c EvB.no
 ·exact EvB.neg c (EvB.yes (by show m.size ≤ 2147483647; omega))
theorem fit13 (h : Bool) (l : ByteArray) (n : Bool) (m : ByteArray) : EvB (fun _ => laws_zzFits13.f h l n m) (l.size ≤ MX ∧ m.size ≤ MX) := by
 unfold laws_zzFits13.f
 by_cases c : (l.size : Int) > 2147483647
 ·exact EvB.pos c EvB.no
 ·exact EvB.neg c ((EvB.and (fit3 n m) fun h => EvB.yes trivial).imp fun hh => ⟨by show l.size ≤ 2147483647; omega, hh.1⟩)
theorem fit2_l (l : List XI) (hl : l.length ≤ MX) (d : Nat) : ∀ i : Nat, i + d = l.length → EvB (fun k => laws_zzFits2.l0 k l (l.length : Int) (i : Int)) (∀ x ∈ l.drop i, x.f1.size ≤ MX) := by
 have hl : l.length ≤ 2147483647 := hl
 induction d with
 | zero =>
  intro i h
  refine EvB.step (fun _ => by rw [laws_zzFits2.l0]) (EvB.neg (by omega) (EvB.yes fun x hx => ?_))
  rw [List.drop_of_length_le (by omega)] at hx
  cases hx
 | succ d ih =>
  intro i h
  have hi : i < l.length := by omega
  have e : l.drop i = l[i] :: l.drop (i + 1) := List.drop_eq_getElem_cons hi
  have hw : wrap64 ((i : Int) + 1) = ((i + 1 : Nat) : Int) := wrap_nat (by omega)
  refine EvB.step (fun _ => by rw [laws_zzFits2.l0, rdI_at l i hi, hw]) ?_
  refine EvB.pos (by omega) (EvB.pos (by omega) (EvB.pos (by omega) ?_))
  refine (EvB.and (fit3 _ _) fun _ => ih (i + 1) (by omega)).imp fun hh x hx => ?_
  rw [e] at hx
  rcases List.mem_cons.1 hx with rfl | hx
  ·exact hh.1
  ·exact hh.2 x hx
theorem fit2 (l : List XI) : EvB (fun k => laws_zzFits2.f k l) (l.length ≤ MX ∧ ∀ x ∈ l, x.f1.size ≤ MX) := by
 unfold laws_zzFits2.f
 by_cases c : (l.length : Int) > 2147483647
 ·exact EvB.pos c EvB.no
 ·have hl : l.length ≤ 2147483647 := by omega
  exact EvB.neg c ((fit2_l l hl l.length 0 (by omega)).imp fun hh => ⟨hl, hh⟩)
theorem fit1_l (l : List ByteArray) (hl : l.length ≤ MX) (d : Nat) : ∀ i : Nat, i + d = l.length → EvB (fun k => laws_zzFits1.l0 k l (l.length : Int) (i : Int)) (∀ x ∈ l.drop i, x.size ≤ MX) := by
 have hl : l.length ≤ 2147483647 := hl
 induction d with
 | zero =>
  intro i h
  refine EvB.step (fun _ => by rw [laws_zzFits1.l0]) (EvB.neg (by omega) (EvB.yes fun x hx => ?_))
  rw [List.drop_of_length_le (by omega)] at hx
  cases hx
 | succ d ih =>
  intro i h
  have hi : i < l.length := by omega
  have e : l.drop i = l[i] :: l.drop (i + 1) := List.drop_eq_getElem_cons hi
  have hw : wrap64 ((i : Int) + 1) = ((i + 1 : Nat) : Int) := wrap_nat (by omega)
  refine EvB.step (fun _ => by rw [laws_zzFits1.l0, rdS_at l i hi, hw]) ?_
  refine EvB.pos (by omega) (EvB.pos (by omega) (EvB.pos (by omega) ?_))
  by_cases c : (l[i].size : Int) > 2147483647
  ·exact EvB.pos c EvB.no
  ·refine EvB.neg c ((ih (i + 1) (by omega)).imp fun hh x hx => ?_)
   rw [e] at hx
   rcases List.mem_cons.1 hx with rfl | hx
   ·show _ ≤ 2147483647
    omega
   ·exact hh x hx
theorem fit1 (l : List ByteArray) : EvB (fun k => laws_zzFits1.f k l) (l.length ≤ MX ∧ ∀ x ∈ l, x.size ≤ MX) := by
 unfold laws_zzFits1.f
 by_cases c : (l.length : Int) > 2147483647
 ·exact EvB.pos c EvB.no
 ·have hl : l.length ≤ 2147483647 := by omega
  exact EvB.neg c ((fit1_l l hl l.length 0 (by omega)).imp fun hh => ⟨hl, hh⟩)
/-- What zzFits12 gives. -/
structure Fit (x : XP) : Prop where
 e : x.f0.f1.size ≤ MX
 r : x.f1.length ≤ MX ∧ ∀ y ∈ x.f1, y.f1.size ≤ MX
 p : x.f2.f1.size ≤ MX ∧ x.f2.f2.f1.size ≤ MX
 q : x.f3.f1.size ≤ MX ∧ x.f3.f2.f1.size ≤ MX
 d : x.f4.f1.size ≤ MX ∧ x.f4.f2.f1.size ≤ MX
 l : x.f5.length ≤ MX ∧ ∀ y ∈ x.f5, y.size ≤ MX
 g : x.f6.length ≤ MX ∧ ∀ y ∈ x.f6, y.size ≤ MX
theorem fit12 (x : XP) : EvB (fun k => laws_zzFits12.f k x.f0.f0 x.f0.f1 x.f1 x.f2.f0 x.f2.f1 x.f2.f2.f0 x.f2.f2.f1 x.f3.f0 x.f3.f1 x.f3.f2.f0 x.f3.f2.f1 x.f4.f0 x.f4.f1 x.f4.f2.f0 x.f4.f2.f1 x.f5 x.f6) (Fit x) := by
 unfold laws_zzFits12.f
 refine (EvB.and (fit3 _ _) fun _ => EvB.and (fit2 _) fun _ => EvB.and (fit13 _ _ _ _) fun _ => EvB.and (fit13 _ _ _ _) fun _ => EvB.and (fit13 _ _ _ _) fun _ => EvB.and (fit1 _) fun _ => EvB.and (fit1 _) fun _ => EvB.yes trivial).imp ?_
 rintro ⟨h1, h2, h3, h4, h5, h6, h7, _⟩
 exact ⟨h1, h2, h3, h4, h5, h6, h7⟩
theorem intOK (n : Bool) (m : ByteArray) (hm : m.size ≤ MX) : EvB (fun k => spec_IntOK.f k n m) (okN n (bl m) = true) := by
 have hm : m.size ≤ 2147483647 := hm
 have := intOK_ev n (bl m) (by rw [bl_length]; omega)
 rw [ofL_bl] at this
 exact EvB.ev this fun h => h
theorem intsOK_l (l : List XI) (hl : l.length ≤ MX) (hs : ∀ x ∈ l, x.f1.size ≤ MX) (d : Nat) : ∀ i : Nat, i + d = l.length → EvB (fun k => spec_IntsOK.l0 k l (i : Int)) True := by
 have hl : l.length ≤ 2147483647 := hl
 induction d with
 | zero =>
  intro i h
  exact EvB.step (fun _ => by rw [spec_IntsOK.l0]) (EvB.neg (by omega) (EvB.yes trivial))
 | succ d ih =>
  intro i h
  have hi : i < l.length := by omega
  have hw : wrap64 ((i : Int) + 1) = ((i + 1 : Nat) : Int) := wrap_nat (by omega)
  refine EvB.step (fun _ => by rw [spec_IntsOK.l0, rdI_at l i hi, hw]) ?_
  exact EvB.pos (by omega) (EvB.pos (by omega) ((EvB.and (intOK _ _ (hs _ (List.getElem_mem hi))) fun _ => ih (i + 1) (by omega)).imp fun _ => trivial))
theorem ascii (s : ByteArray) (hs : s.size ≤ MX) : EvB (fun k => spec_Ascii.f k s) True := by
 have hs : s.size ≤ 2147483647 := hs
 obtain ⟨r, hr, _⟩ := ascii_l s (by omega) s.size 0 (by omega)
 exact EvB.ev (by unfold spec_Ascii.f; exact hr) fun _ => trivial
theorem letterOK (h : Bool) (l : ByteArray) (n : Bool) (m : ByteArray) (hl : l.size ≤ MX) (hm : m.size ≤ MX) : EvB (fun k => spec_pypiLetterOK.f k h l n m) (h = true → 0 < l.size) := by
 unfold spec_pypiLetterOK.f
 refine (EvB.and (intOK n m hm) fun _ => ?_).imp fun hh => hh.2
 cases n with
 | true => exact EvB.pos rfl EvB.no
 | false =>
  refine EvB.neg (by decide) ((EvB.and (ascii l hl) fun _ => ?_).imp fun hh => hh.2)
  cases h with
  | false => exact EvB.neg (by decide) (EvB.yes fun hh => by cases hh)
  | true =>
   refine EvB.pos rfl (EvB.is fun hh _ => ?_)
   rw [toList_bl] at hh
   rw [← bl_length]
   cases hb : bl l with
   | nil => rw [hb] at hh; cases hh
   | cons c r => simp
theorem ids (l : List ByteArray) (hl : l.length ≤ MX) (hs : ∀ x ∈ l, x.size ≤ MX) : EvB (fun k => spec_IdentifiersKnown.f k l) (idK (l.map bl) = true) := by
 have hl : l.length ≤ 2147483647 := hl
 have h := ident_ev (l.map bl) (by rw [List.length_map]; omega) (fun x hx => by
  obtain ⟨y, hy, rfl⟩ := List.mem_map.1 hx
  have : y.size ≤ 2147483647 := hs y hy
  rw [bl_length]
  omega)
 rw [List.map_map, show (ofL ∘ bl) = id from rfl, List.map_id] at h
 exact EvB.ev h fun h => h
/-- What is known of a version beyond its sizes. -/
structure Knw (x : XP) : Prop where
 p : x.f2.f0 = true → 0 < x.f2.f1.size
 i : idK (x.f5.map bl) = true
 n : x.f5 ≠ []
section
variable (x : XP) (hf : Fit x)
include hf
theorem known_l2 (hn : x.f5 ≠ []) (d : Nat) : ∀ i : Nat, i + d = x.f6.length → EvB (fun k => spec_PyPIKnown.l2 k (i : Int) x.f0.f0 x.f0.f1 x.f1 x.f2.f0 x.f2.f1 x.f2.f2.f0 x.f2.f2.f1 x.f3.f0 x.f3.f1 x.f3.f2.f0 x.f3.f2.f1 x.f4.f0 x.f4.f1 x.f4.f2.f0 x.f4.f2.f1 x.f5 x.f6) (Knw x) := by
 have hl : x.f6.length ≤ 2147483647 := hf.g.1
 induction d with
 | zero =>
  intro i h
  refine EvB.step (fun _ => by rw [spec_PyPIKnown.l2]) (EvB.neg (by omega) ?_)
  refine (EvB.and (letterOK _ _ _ _ hf.p.1 hf.p.2) fun _ => EvB.and (letterOK _ _ _ _ hf.q.1 hf.q.2) fun _ => EvB.and (letterOK _ _ _ _ hf.d.1 hf.d.2) fun _ => EvB.last (ids _ hf.l.1 hf.l.2)).imp ?_
  rintro ⟨h1, h2, h3, h4⟩
  exact ⟨h1, h4, hn⟩
 | succ d ih =>
  intro i h
  have hi : i < x.f6.length := by omega
  have hw : wrap64 ((i : Int) + 1) = ((i + 1 : Nat) : Int) := wrap_nat (by omega)
  refine EvB.step (fun _ => by rw [spec_PyPIKnown.l2, rdS_at _ i hi, hw]) ?_
  exact EvB.pos (by omega) (EvB.pos (by omega) ((EvB.and (ascii _ (hf.g.2 _ (List.getElem_mem hi))) fun _ => ih (i + 1) (by omega)).imp fun hh => hh.2))
theorem known_l1 (hn : x.f5 ≠ []) (d : Nat) : ∀ i : Nat, i + d = x.f5.length → EvB (fun k => spec_PyPIKnown.l1 k (i : Int) x.f0.f0 x.f0.f1 x.f1 x.f2.f0 x.f2.f1 x.f2.f2.f0 x.f2.f2.f1 x.f3.f0 x.f3.f1 x.f3.f2.f0 x.f3.f2.f1 x.f4.f0 x.f4.f1 x.f4.f2.f0 x.f4.f2.f1 x.f5 x.f6) (Knw x) := by
 have hl : x.f5.length ≤ 2147483647 := hf.l.1
 induction d with
 | zero =>
  intro i h
  refine EvB.step (fun _ => by rw [spec_PyPIKnown.l1]) ?_
  exact EvB.neg (by omega) (known_l2 x hf hn x.f6.length 0 (by omega))
 | succ d ih =>
  intro i h
  have hi : i < x.f5.length := by omega
  have hw : wrap64 ((i : Int) + 1) = ((i + 1 : Nat) : Int) := wrap_nat (by omega)
  refine EvB.step (fun _ => by rw [spec_PyPIKnown.l1, rdS_at _ i hi, hw]) ?_
  exact EvB.pos (by omega) (EvB.pos (by omega) ((EvB.and (ascii _ (hf.l.2 _ (List.getElem_mem hi))) fun _ => ih (i + 1) (by omega)).imp fun hh => hh.2))
theorem known_l0 (hn : x.f5 ≠ []) (d : Nat) : ∀ i : Nat, i + d = x.f1.length → EvB (fun k => spec_PyPIKnown.l0 k (i : Int) x.f0.f0 x.f0.f1 x.f1 x.f2.f0 x.f2.f1 x.f2.f2.f0 x.f2.f2.f1 x.f3.f0 x.f3.f1 x.f3.f2.f0 x.f3.f2.f1 x.f4.f0 x.f4.f1 x.f4.f2.f0 x.f4.f2.f1 x.f5 x.f6) (Knw x) := by
 have hl : x.f1.length ≤ 2147483647 := hf.r.1
 induction d with
 | zero =>
  intro i h
  refine EvB.step (fun _ => by rw [spec_PyPIKnown.l0]) ?_
  exact EvB.neg (by omega) (known_l1 x hf hn x.f5.length 0 (by omega))
 | succ d ih =>
  intro i h
  have hi : i < x.f1.length := by omega
  have hw : wrap64 ((i : Int) + 1) = ((i + 1 : Nat) : Int) := wrap_nat (by omega)
  refine EvB.step (fun _ => by rw [spec_PyPIKnown.l0, rdI_at _ i hi, hw]) ?_
  refine EvB.pos (by omega) (EvB.pos (by omega) ?_)
  by_cases hg : (x.f1[i]).f0 = true
  ·exact EvB.pos hg EvB.no
  ·exact EvB.neg hg (ih (i + 1) (by omega))
theorem known_j (b : Bool) (hb : b = false → x.f5 ≠ []) : EvB (fun k => spec_PyPIKnown.j0 k b x.f0.f0 x.f0.f1 x.f1 x.f2.f0 x.f2.f1 x.f2.f2.f0 x.f2.f2.f1 x.f3.f0 x.f3.f1 x.f3.f2.f0 x.f3.f2.f1 x.f4.f0 x.f4.f1 x.f4.f2.f0 x.f4.f2.f1 x.f5 x.f6) (Knw x) := by
 refine EvB.step (fun _ => by rw [spec_PyPIKnown.j0]) ?_
 cases b with
 | true => exact EvB.pos rfl EvB.no
 | false => exact EvB.neg (by decide) (known_l0 x hf (hb rfl) x.f1.length 0 (by omega))
theorem known : EvB (fun k => spec_PyPIKnown.f k x.f0.f0 x.f0.f1 x.f1 x.f2.f0 x.f2.f1 x.f2.f2.f0 x.f2.f2.f1 x.f3.f0 x.f3.f1 x.f3.f2.f0 x.f3.f2.f1 x.f4.f0 x.f4.f1 x.f4.f2.f0 x.f4.f2.f1 x.f5 x.f6) (Knw x) := by
 have no := known_j x hf true (fun h => by cases h)
 unfold spec_PyPIKnown.f
 obtain ⟨b, h1, _⟩ := intOK x.f0.f0 x.f0.f1 hf.e
 obtain ⟨r, n1, n2⟩ := no
 cases b with
 | false => exact ⟨r, Ev.bind h1 (ev_f n1), n2⟩
 | true =>
  obtain ⟨c, k1, _⟩ := intsOK_l x.f1 hf.r.1 hf.r.2 x.f1.length 0 (by omega)
  have k1 : Ev (fun k => spec_IntsOK.f k x.f1) c := k1
  cases c with
  | false => exact ⟨r, Ev.bind h1 (ev_t (Ev.bind k1 (ev_f n1))), n2⟩
  | true =>
   by_cases hg : x.f0.f0 = true
   ·exact ⟨r, Ev.bind h1 (ev_t (Ev.bind k1 (ev_t (ev_pos hg n1)))), n2⟩
   ·obtain ⟨s, m1, m2⟩ := known_j x hf ((x.f5.length : Int) == 0) (fun h hh => by rw [hh] at h; cases h)
    exact ⟨s, Ev.bind h1 (ev_t (Ev.bind k1 (ev_t (ev_neg hg m1)))), m2⟩
end
theorem numbs_l (l : List XI) (hl : l.length ≤ MX) (hs : ∀ x ∈ l, x.f1.size ≤ MX) (d : Nat) : ∀ i : Nat, i + d = l.length → EvB (fun k => laws_numbers.l0 k l l (l.length : Int) (i : Int)) (l.length ≤ 150 ∧ ∀ x ∈ l.drop i, x.f1.size ≤ 1500) := by
 have hl : l.length ≤ 2147483647 := hl
 induction d with
 | zero =>
  intro i h
  refine EvB.step (fun _ => by rw [laws_numbers.l0]) (EvB.neg (by omega) (EvB.is fun hb => ⟨by have := of_decide_eq_true hb; omega, fun x hx => ?_⟩))
  rw [List.drop_of_length_le (by omega)] at hx
  cases hx
 | succ d ih =>
  intro i h
  have hi : i < l.length := by omega
  have e : l.drop i = l[i] :: l.drop (i + 1) := List.drop_eq_getElem_cons hi
  have hw : wrap64 ((i : Int) + 1) = ((i + 1 : Nat) : Int) := wrap_nat (by omega)
  refine EvB.step (fun _ => by rw [laws_numbers.l0, rdI_at l i hi, hw]) ?_
  refine EvB.pos (by omega) (EvB.pos (by omega) (EvB.pos (by omega) ((EvB.and (intOK _ _ (hs _ (List.getElem_mem hi))) fun _ => ?_).imp fun hh => hh.2)))
  by_cases c : ((l[i]).f1.size : Int) > 1500
  ·exact EvB.pos c EvB.no
  ·refine EvB.neg c ((ih (i + 1) (by omega)).imp fun hh => ⟨hh.1, fun x hx => ?_⟩)
   rw [e] at hx
   rcases List.mem_cons.1 hx with rfl | hx
   ·omega
   ·exact hh.2 x hx
theorem numbs (l : List XI) (hl : l.length ≤ MX) (hs : ∀ x ∈ l, x.f1.size ≤ MX) : EvB (fun k => laws_numbers.f k l) (l.length ≤ 150 ∧ ∀ x ∈ l, x.f1.size ≤ 1500) := numbs_l l hl hs l.length 0 (by omega)
theorem shorts (l : List ByteArray) (hl : l.length ≤ MX) : EvB (fun k => laws_short.f k l) (l.length ≤ 150 ∧ ∀ x ∈ l, x.size ≤ 1500) := by
 have hl : l.length ≤ 2147483647 := hl
 obtain ⟨b, h1, h2⟩ := short_ev l (by omega)
 refine ⟨b, h1, fun hb => ⟨(h2 hb).1, fun x hx => ?_⟩⟩
 obtain ⟨j, hj, rfl⟩ := List.getElem_of_mem hx
 have := (h2 hb).2 j hj
 rwa [List.getD_eq_getElem?_getD, List.getElem?_eq_getElem hj, Option.getD_some] at this
/-- A version of which the laws speak. -/
structure GoodV (x : XP) : Prop where
 e : x.f0.f1.size ≤ 1500
 r : x.f1.length ≤ 150 ∧ ∀ y ∈ x.f1, y.f1.size ≤ 1500
 p : x.f2.f2.f1.size ≤ 1500
 q : x.f3.f2.f1.size ≤ 1500
 d : x.f4.f2.f1.size ≤ 1500
 l : x.f5.length ≤ 150 ∧ ∀ y ∈ x.f5, y.size ≤ 1500
 g : x.f6.length ≤ 150 ∧ ∀ y ∈ x.f6, y.size ≤ 1500
 k : Knw x
theorem okOne (x : XP) (hf : Fit x) : EvB (fun k => plOk' k x) (GoodV x) := by
 unfold plOk' plOk
 refine (EvB.and (known x hf) fun _ => EvB.and (numbs _ hf.r.1 hf.r.2) fun _ => EvB.and (numbs _ (by show 4 ≤ 2147483647; decide) ?_) fun _ => EvB.and (shorts _ hf.l.1) fun _ => EvB.and (shorts _ hf.g.1) fun _ => shorts _ (by show 3 ≤ 2147483647; decide)).imp ?_
 ·intro y hy
  simp only [List.mem_cons, List.not_mem_nil, or_false] at hy
  rcases hy with rfl | rfl | rfl | rfl
  ·exact hf.e
  ·exact hf.p.2
  ·exact hf.q.2
  ·exact hf.d.2
 ·rintro ⟨h1, h2, h3, h4, h5, _⟩
  exact ⟨h3.2 _ (by simp), h2, h3.2 ⟨x.f2.f2.f0, x.f2.f2.f1⟩ (by simp), h3.2 ⟨x.f3.f2.f0, x.f3.f2.f1⟩ (by simp), h3.2 ⟨x.f4.f2.f0, x.f4.f2.f1⟩ (by simp), h4, h5, h1⟩
theorem okAll : ∀ l : List XP, (∀ x ∈ l, Fit x) → EvB (fun k => laws_pypi.f k l) (∀ x ∈ l, GoodV x)
 | [], _ => EvB.yes fun x hx => by cases hx
 | x :: l, h => by
  refine (EvB.and (okOne x (h x (by simp))) fun _ => okAll l fun y hy => h y (by simp [hy])).imp fun hh y hy => ?_
  rcases List.mem_cons.1 hy with rfl | hy
  ·exact hh.1
  ·exact hh.2 y hy
def czI (x : XI) : S60 := ⟨x.f0, x.f1⟩
theorem bigs_l (l : List XI) (hl : l.length ≤ 1000000) (d : Nat) : ∀ (i : Nat) (acc : List S60), i + d = l.length → acc.length = i → Ev (fun k => impl_bigs.l0 k acc l (l.length : Int) (i : Int)) (acc ++ (l.drop i).map czI) := by
 induction d with
 | zero =>
  intro i acc h ha
  refine Ev.step (fun _ => by rw [impl_bigs.l0]) (ev_neg (by omega) (ev_now ?_))
  rw [List.drop_of_length_le (by omega), List.map_nil, List.append_nil]
 | succ d ih =>
  intro i acc h ha
  have hi : i < l.length := by omega
  have e : l.drop i = l[i] :: l.drop (i + 1) := List.drop_eq_getElem_cons hi
  have hw : wrap64 ((i : Int) + 1) = ((i + 1 : Nat) : Int) := wrap_nat (by omega)
  have hn := ih (i + 1) (acc ++ [czI l[i]]) (by omega) (by simp; omega)
  refine Ev.step (fun _ => by rw [impl_bigs.l0, rdI_at l i hi, hw]) ?_
  refine ev_pos (by omega) (ev_pos (by omega) (ev_pos (by omega) (ev_pos (by omega) (ev_eq hn ?_))))
  rw [e, List.map_cons, List.append_assoc]
  rfl
theorem bigs_ev (l : List XI) (hl : l.length ≤ 1000000) : Ev (fun k => impl_bigs.f k l) (l.map czI) := by
 have := bigs_l l hl l.length 0 [] (by omega) rfl
 unfold impl_bigs.f
 refine ev_eq this ?_
 rw [List.drop_zero, List.nil_append]
end Go.Proofs.YtipfmkfpaglkkaaGreatDoor.Py

namespace Go.Proofs.YtipfmkfpaglkkaaGreatDoor.Py
open Go Go.RowKit Go.Proofs.YtipfmkfpaglkkaaGreatDoor.Z Go.Proofs.YtipfmkfpaglkkaaGreatDoor.Evs Go.Proofs.YtipfmkfpaglkkaaGreatDoor.By Go.Proofs.YtipfmkfpaglkkaaGreatDoor.Com Go.Proofs.YtipfmkfpaglkkaaGreatDoorW.PrintWords Go.Proofs.YtipfmkfpaglkkaaGreatDoorW.PrintLast
set_option linter.unusedVariables false
set_option linter.unusedSimpArgs false
def zvX (x : XI) : Int := zval x.f0 x.f1
/-- A version's parts by their values. -/
def pvX (x : XP) : PV := ⟨zval x.f0.f0 x.f0.f1, (x.f1.map czI).map zvS, x.f2.f1, lzO x.f2.f0 x.f2.f2.f0 x.f2.f2.f1, x.f3.f1, lzO x.f3.f0 x.f3.f2.f0 x.f3.f2.f1, x.f4.f1, lzO x.f4.f0 x.f4.f2.f0 x.f4.f2.f1, x.f5, x.f6⟩
theorem fitX {x : XP} (h : GoodV x) : pyFit x.f0.f1 x.f2.f2.f1 x.f3.f2.f1 x.f4.f2.f1 (x.f1.map czI) = true := by
 have h1 := h.e
 have h2 := h.p
 have h3 := h.q
 have h4 := h.d
 have h5 := h.r.1
 unfold pyFit
 rw [Bool.and_eq_true, Bool.and_eq_true, Bool.and_eq_true, Bool.and_eq_true, Bool.and_eq_true, decide_eq_true_eq, decide_eq_true_eq, decide_eq_true_eq, decide_eq_true_eq, decide_eq_true_eq, List.all_eq_true, List.length_map]
 refine ⟨by omega, by omega, by omega, by omega, by omega, fun y hy => ?_⟩
 obtain ⟨z, hz, rfl⟩ := List.mem_map.1 hy
 have : z.f1.size ≤ 1500 := h.r.2 z hz
 exact decide_eq_true (by show z.f1.size ≤ 1000000; omega)
/-- Where a version's pre-release stands. -/
def plc (x : XP) : Int := if x.f2.f0 = true then 0 else if x.f3.f0 = true then 1 else if x.f4.f0 = true then -1 else 1
theorem plc_m (x : XP) : trickM (pvX x) = decide (plc x = -1) ∧ ((pvX x).pn = none ↔ plc x ≠ 0) := by
 unfold trickM pvX plc lzO
 cases x.f2.f0 <;> cases x.f3.f0 <;> cases x.f4.f0 <;> simp
theorem plc_cases (x : XP) : plc x = 0 ∧ x.f2.f0 = true ∨ plc x = 1 ∨ plc x = -1 := by
 unfold plc
 split
 ·exact .inl ⟨rfl, by assumption⟩
 ·split
  ·exact .inr (.inl rfl)
  ·split
   ·exact .inr (.inr rfl)
   ·exact .inr (.inl rfl)
/-- The answer. -/
def preV (x y : XP) : Int := if plc x = 0 ∧ plc y = 0 then (if Bn.cmpZ (pyHd x.f2.f1) (pyHd y.f2.f1) = 0 then Bn.cmpZ (zvX x.f2.f2) (zvX y.f2.f2) else Bn.cmpZ (pyHd x.f2.f1) (pyHd y.f2.f1)) else Bn.cmpZ (plc x) (plc y)
theorem preV_turn (x y : XP) : preV y x = -preV x y ∧ -1 ≤ preV x y ∧ preV x y ≤ 1 := by
 have ct : ∀ a b : Int, Bn.cmpZ b a = -Bn.cmpZ a b := by intro a b; unfold Bn.cmpZ; (repeat' split) <;> omega
 have cr : ∀ a b : Int, -1 ≤ Bn.cmpZ a b ∧ Bn.cmpZ a b ≤ 1 := by intro a b; unfold Bn.cmpZ; (repeat' split) <;> omega
 unfold preV
 by_cases h : plc x = 0 ∧ plc y = 0
 ·rw [if_pos h, if_pos ⟨h.2, h.1⟩, ct (pyHd x.f2.f1), ct (zvX x.f2.f2)]
  by_cases h2 : Bn.cmpZ (pyHd x.f2.f1) (pyHd y.f2.f1) = 0
  ·rw [if_pos h2, if_pos (by omega)]
   exact ⟨rfl, cr _ _⟩
  ·rw [if_neg h2, if_neg (by omega)]
   exact ⟨rfl, cr _ _⟩
 ·rw [if_neg h, if_neg (fun e => h ⟨e.2, e.1⟩), ct (plc x)]
  exact ⟨rfl, cr _ _⟩
theorem preM_v (x y : XP) (hx : GoodV x) (hy : GoodV y) : preM (pvX x) (pvX y) = some (preV x y) := by
 have e1 := plc_m x
 have e2 := plc_m y
 have i1 : trickM (pvX x) = true ↔ plc x = -1 := by rw [e1.1, decide_eq_true_eq]
 have i2 : trickM (pvX y) = true ↔ plc y = -1 := by rw [e2.1, decide_eq_true_eq]
 unfold preM preV
 simp only [i1, i2, e1.2, e2.2]
 have c1 := plc_cases x
 have c2 := plc_cases y
 rcases c1 with ⟨c1, p1⟩ | c1 | c1 <;> rcases c2 with ⟨c2, p2⟩ | c2 | c2
 ·have s1 : 0 < x.f2.f1.size := hx.k.p p1
  have s2 : 0 < y.f2.f1.size := hy.k.p p2
  have n1 : (pvX x).pn = some (zvX x.f2.f2) := if_pos p1
  have n2 : (pvX y).pn = some (zvX y.f2.f2) := if_pos p2
  rw [n1, n2, c1, c2]
  show (if (0 : Int) = -1 then _ else _) = _
  rw [if_neg (by decide), if_neg (by decide), if_neg (by decide), if_neg (by decide)]
  show (if x.f2.f1.size = 0 ∨ y.f2.f1.size = 0 then none else if pyHd y.f2.f1 < pyHd x.f2.f1 then some 1 else if pyHd x.f2.f1 < pyHd y.f2.f1 then some (-1) else some (Bn.cmpZ (zvX x.f2.f2) (zvX y.f2.f2))) = _
  rw [if_neg (by omega)]
  generalize pyHd x.f2.f1 = p
  generalize pyHd y.f2.f1 = q
  rcases Int.lt_trichotomy p q with h | h | h
  ·have e : Bn.cmpZ p q = -1 := if_pos h
   rw [e, if_neg (by omega : ¬ q < p), if_pos h]
   simp
  ·subst h
   have e : Bn.cmpZ p p = 0 := by unfold Bn.cmpZ; rw [if_neg (by omega), if_neg (by omega)]
   rw [e, if_neg (by omega : ¬ p < p)]
   simp
  ·have e : Bn.cmpZ p q = 1 := by unfold Bn.cmpZ; rw [if_neg (by omega), if_pos h]
   rw [e, if_pos h]
   simp
 all_goals
  rw [c1, c2]
  simp [Bn.cmpZ]
end Go.Proofs.YtipfmkfpaglkkaaGreatDoor.Py

namespace Go.Proofs.YtipfmkfpaglkkaaGreatDoor.Com
open Go Go.RowKit Go.Proofs.YtipfmkfpaglkkaaGreatDoor.Z Go.Proofs.YtipfmkfpaglkkaaGreatDoor.Evs Go.Proofs.YtipfmkfpaglkkaaGreatDoor.By Go.Proofs.YtipfmkfpaglkkaaGreatDoorW.PrintWords Go.Proofs.YtipfmkfpaglkkaaGreatDoorW.PrintLast
set_option linter.unusedVariables false
set_option linter.unusedSimpArgs false

theorem cmpB_range : ∀ a b : List UInt8, Lib.compareBytes a b = -1 ∨ Lib.compareBytes a b = 0 ∨ Lib.compareBytes a b = 1
 | [], [] => .inr (.inl rfl)
 | [], _ :: _ => .inl rfl
 | _ :: _, [] => .inr (.inr rfl)
 | x :: a, y :: b => by
  rw [Lib.compareBytes]
  split
  ·exact .inl rfl
  ·split
   ·exact .inr (.inr rfl)
   ·exact cmpB_range a b
theorem cmpB_anti : ∀ a b : List UInt8, Lib.compareBytes b a = -Lib.compareBytes a b
 | [], [] => rfl
 | [], _ :: _ => rfl
 | _ :: _, [] => rfl
 | x :: a, y :: b => by
  rw [Lib.compareBytes, Lib.compareBytes, cmpB_anti a b]
  by_cases h : x < y
  ·have h2 : ¬ y < x := fun h2 => by have h : x.toNat < y.toNat := h; have h2 : y.toNat < x.toNat := h2; omega
   rw [if_pos h, if_neg h2, if_pos h]; rfl
  ·by_cases h2 : y < x
   ·rw [if_pos h2, if_neg h, if_pos h2]
   ·rw [if_neg h2, if_neg h, if_neg h, if_neg h2]
end Go.Proofs.YtipfmkfpaglkkaaGreatDoor.Com

namespace Go.Proofs.YtipfmkfpaglkkaaGreatDoor.Py
open Go Go.RowKit Go.Proofs.YtipfmkfpaglkkaaGreatDoor.Z Go.Proofs.YtipfmkfpaglkkaaGreatDoor.Evs Go.Proofs.YtipfmkfpaglkkaaGreatDoor.By Go.Proofs.YtipfmkfpaglkkaaGreatDoor.Com Go.Proofs.YtipfmkfpaglkkaaGreatDoor.Ss Go.Proofs.YtipfmkfpaglkkaaGreatDoorW.PrintWords Go.Proofs.YtipfmkfpaglkkaaGreatDoorW.PrintLast
set_option linter.unusedVariables false
set_option linter.unusedSimpArgs false
theorem zR (a b : Int) : -1 ≤ Bn.cmpZ a b ∧ Bn.cmpZ a b ≤ 1 := by unfold Bn.cmpZ; (repeat' split) <;> omega
theorem zA (a b : Int) : Bn.cmpZ b a = -Bn.cmpZ a b := by unfold Bn.cmpZ; (repeat' split) <;> omega
theorem bR (a b : List UInt8) : -1 ≤ Lib.compareBytes a b ∧ Lib.compareBytes a b ≤ 1 := by rcases cmpB_range a b with h | h | h <;> rw [h] <;> decide
theorem segR (x y : ByteArray) : pySegC y x = -pySegC x y ∧ -1 ≤ pySegC x y ∧ pySegC x y ≤ 1 := by
 unfold pySegC
 cases cvt x <;> cases cvt y
 ·exact ⟨cmpB_anti _ _, bR _ _⟩
 ·exact ⟨rfl, (show (-1 : Int) ≤ -1 by decide), (show (-1 : Int) ≤ 1 by decide)⟩
 ·exact ⟨rfl, (show (-1 : Int) ≤ 1 by decide), (show (1 : Int) ≤ 1 by decide)⟩
 ·exact ⟨zA _ _, zR _ _⟩
theorem locR : ∀ l r : List ByteArray, pyLocC r l = -pyLocC l r ∧ -1 ≤ pyLocC l r ∧ pyLocC l r ≤ 1
 | [], [] => ⟨rfl, by decide, by decide⟩
 | _ :: _, [] => ⟨rfl, (show (-1 : Int) ≤ 1 by decide), (show (1 : Int) ≤ 1 by decide)⟩
 | [], _ :: _ => ⟨rfl, (show (-1 : Int) ≤ -1 by decide), (show (-1 : Int) ≤ 1 by decide)⟩
 | x :: l, y :: r => by
  obtain ⟨a1, a2, a3⟩ := segR x y
  have ih := locR l r
  rw [pyLocC, pyLocC, a1]
  by_cases h : pySegC x y = 0
  ·rw [if_pos h, if_pos (by omega)]
   exact ih
  ·rw [if_neg h, if_neg (by omega)]
   by_cases h2 : 0 < pySegC x y
   ·rw [if_pos h2, if_neg (by omega)]
    decide
   ·rw [if_neg h2, if_pos (by omega)]
    decide
theorem join_flat (l : List (List UInt8)) : Lib.join l [] = l.flatten := by
 cases l with
 | nil => rfl
 | cons x r =>
  rw [Lib.join_cons, List.flatten_cons]
  unfold Lib.joinTail
  simp
theorem legR (l r : List ByteArray) : pyLegC r l = -pyLegC l r ∧ -1 ≤ pyLegC l r ∧ pyLegC l r ≤ 1 := by
 unfold pyLegC
 by_cases ea : l = [] <;> by_cases eb : r = []
 ·rw [if_pos ea, if_pos eb, if_pos ea, if_pos eb]
  decide
 ·rw [if_neg eb, if_pos ea, if_pos ea, if_neg eb]
  decide
 ·rw [if_pos eb, if_neg ea, if_neg ea, if_pos eb]
  decide
 ·rw [if_neg eb, if_neg ea, if_neg ea, if_neg eb]
  exact ⟨cmpB_anti _ _, bR _ _⟩
theorem postR (a b : Option Int) : pyPostC b a = -pyPostC a b ∧ -1 ≤ pyPostC a b ∧ pyPostC a b ≤ 1 := by
 cases a <;> cases b
 ·exact ⟨rfl, by decide, by decide⟩
 ·exact ⟨rfl, (show (-1 : Int) ≤ -1 by decide), (show (-1 : Int) ≤ 1 by decide)⟩
 ·exact ⟨rfl, (show (-1 : Int) ≤ 1 by decide), (show (1 : Int) ≤ 1 by decide)⟩
 ·exact ⟨zA _ _, zR _ _⟩
theorem devR (a b : Option Int) : pyDevC b a = -pyDevC a b ∧ -1 ≤ pyDevC a b ∧ pyDevC a b ≤ 1 := by
 cases a <;> cases b
 ·exact ⟨rfl, by decide, by decide⟩
 ·exact ⟨rfl, (show (-1 : Int) ≤ 1 by decide), (show (1 : Int) ≤ 1 by decide)⟩
 ·exact ⟨rfl, (show (-1 : Int) ≤ -1 by decide), (show (-1 : Int) ≤ 1 by decide)⟩
 ·exact ⟨zA _ _, zR _ _⟩
theorem fromR (a b : List Int) : ∀ d i, cmpFrom b a d i = -cmpFrom a b d i ∧ -1 ≤ cmpFrom a b d i ∧ cmpFrom a b d i ≤ 1
 | 0, _ => ⟨rfl, (show (-1 : Int) ≤ 0 by decide), (show (0 : Int) ≤ 1 by decide)⟩
 | d + 1, i => by
  rw [cmpFrom, cmpFrom, zA (nth a i) (nth b i)]
  by_cases h : Bn.cmpZ (nth a i) (nth b i) = 0
  ·rw [if_pos h, if_pos (by omega)]
   exact fromR a b d (i + 1)
  ·rw [if_neg h, if_neg (by omega)]
   exact ⟨rfl, zR _ _⟩
theorem listsR (a b : List Int) : cmpLists b a = -cmpLists a b ∧ -1 ≤ cmpLists a b ∧ cmpLists a b ≤ 1 := by
 have h := fromR a b (max a.length b.length) 0
 rw [← cmpLists] at h
 rw [cmpLists, Nat.max_comm]
 exact h
theorem nthX_at (l : List XI) (i : Nat) (h : i < l.length) : nth (l.map zvX) i = zvX l[i] := by
 rw [nth, List.getD_eq_getElem?_getD, List.getElem?_map, List.getElem?_eq_getElem h]
 rfl
theorem nthX_out (l : List Int) (i : Nat) (h : l.length ≤ i) : nth l i = 0 := by
 rw [nth, List.getD_eq_getElem?_getD, List.getElem?_eq_none h]
 rfl
def zeroX : XI := ⟨false, ⟨#[]⟩⟩
theorem relX (x : XP) : (pvX x).rel = x.f1.map zvX := by
 show (x.f1.map czI).map zvS = _
 rw [List.map_map]
 rfl
/-- The seven comparisons of two versions. -/
def cs7 (x y : XP) : List Int := [pyLegC x.f6 y.f6, Bn.cmpZ (zvX x.f0) (zvX y.f0), cmpLists (x.f1.map zvX) (y.f1.map zvX), preV x y, pyPostC (pvX x).qn (pvX y).qn, pyDevC (pvX x).dn (pvX y).dn, pyLocC x.f5 y.f5]
def cmpV (x y : XP) : Int := pyChain (cs7 x y)
theorem chainR : ∀ l r : List Int, l.length = r.length → (∀ i, (h : i < l.length) → (h' : i < r.length) → r[i] = -l[i] ∧ -1 ≤ l[i] ∧ l[i] ≤ 1) → pyChain r = -pyChain l ∧ -1 ≤ pyChain l ∧ pyChain l ≤ 1
 | [], [], _, _ => ⟨rfl, by decide, by decide⟩
 | a :: l, b :: r, hl, h => by
  have h0 := h 0 (by simp) (by simp)
  have e : b = -a ∧ -1 ≤ a ∧ a ≤ 1 := h0
  have ih := chainR l r (by simpa using hl) (fun i h1 h2 => h (i + 1) (by simpa using h1) (by simpa using h2))
  rw [pyChain, pyChain]
  by_cases ha : a = 0
  ·rw [if_pos ha, if_pos (by omega)]
   exact ih
  ·rw [if_neg ha, if_neg (by omega)]
   exact e
 | [], _ :: _, hl, _ => by simp at hl
 | _ :: _, [], hl, _ => by simp at hl
theorem cmpV_turn (x y : XP) : cmpV y x = -cmpV x y ∧ -1 ≤ cmpV x y ∧ cmpV x y ≤ 1 := by
 refine chainR (cs7 x y) (cs7 y x) rfl fun i h h' => ?_
 have h : i < 7 := h
 match i, h with
 | 0, _ => exact legR _ _
 | 1, _ => exact ⟨zA _ _, zR _ _⟩
 | 2, _ => exact listsR _ _
 | 3, _ => exact preV_turn x y
 | 4, _ => exact postR _ _
 | 5, _ => exact devR _ _
 | 6, _ => exact locR _ _
 | n + 7, h => omega
theorem fitSX {x : XP} (h : GoodV x) : pyFitS (pvX x) = true := by
 unfold pyFitS
 rw [Bool.and_eq_true, Bool.and_eq_true, List.all_eq_true, decide_eq_true_eq, decide_eq_true_eq]
 refine ⟨fun s hs => decide_eq_true (by have := h.l.2 s hs; omega), (by have := h.g.1; show x.f6.length ≤ 1000; omega), ?_⟩
 show (Lib.join (x.f6.map (·.data.toList)) []).length ≤ 100000000
 rw [join_flat]
 have key : ∀ m : List ByteArray, (∀ s ∈ m, s.size ≤ 1500) → ((m.map (·.data.toList)).flatten).length ≤ m.length * 1500 := by
  intro m
  induction m with
  | nil => intro _; simp
  | cons s m ih =>
   intro hm
   have h1 : s.data.toList.length ≤ 1500 := by have := hm s (by simp); rw [← bl_length] at this; exact this
   have h2 := ih fun t ht => hm t (by simp [ht])
   rw [List.map_cons, List.flatten_cons, List.length_append, List.length_cons]
   omega
 have := key x.f6 h.g.2
 have := h.g.1
 omega
theorem pyM_v (x y : XP) (hx : GoodV x) (hy : GoodV y) : pyM (pvX x) (pvX y) = some (cmpV x y) := by
 have hp := preM_v x y hx hy
 unfold pyM pyPreO
 rw [if_pos (by rw [fitSX hx, fitSX hy]; rfl), hp, relX, relX]
 unfold cmpV cs7
 show (if pyLegC x.f6 y.f6 = 0 ∧ Bn.cmpZ (zvX x.f0) (zvX y.f0) = 0 ∧ cmpLists (x.f1.map zvX) (y.f1.map zvX) = 0 then some (preV x y) else some 0).bind (fun p => some (pyChain [pyLegC x.f6 y.f6, Bn.cmpZ (zvX x.f0) (zvX y.f0), cmpLists (x.f1.map zvX) (y.f1.map zvX), p, pyPostC (pvX x).qn (pvX y).qn, pyDevC (pvX x).dn (pvX y).dn, pyLocC x.f5 y.f5])) = _
 by_cases h : pyLegC x.f6 y.f6 = 0 ∧ Bn.cmpZ (zvX x.f0) (zvX y.f0) = 0 ∧ cmpLists (x.f1.map zvX) (y.f1.map zvX) = 0
 ·rw [if_pos h]
  rfl
 ·rw [if_neg h, Option.bind_some]
  congr 1
  simp only [pyChain]
  by_cases h1 : pyLegC x.f6 y.f6 = 0
  ·by_cases h2 : Bn.cmpZ (zvX x.f0) (zvX y.f0) = 0
   ·have h3 : ¬ cmpLists (x.f1.map zvX) (y.f1.map zvX) = 0 := fun h3 => h ⟨h1, h2, h3⟩
    rw [if_neg h3, if_neg h3]
   ·rw [if_neg h2, if_neg h2]
  ·rw [if_neg h1, if_neg h1]
theorem impl_cmp (x y : XP) (hx : GoodV x) (hy : GoodV y) : Ev (fun k => impl_PyPICompare.f k x.f0.f0 x.f0.f1 x.f1 x.f2.f0 x.f2.f1 x.f2.f2.f0 x.f2.f2.f1 x.f3.f0 x.f3.f1 x.f3.f2.f0 x.f3.f2.f1 x.f4.f0 x.f4.f1 x.f4.f2.f0 x.f4.f2.f1 x.f5 x.f6 y.f0.f0 y.f0.f1 y.f1 y.f2.f0 y.f2.f1 y.f2.f2.f0 y.f2.f2.f1 y.f3.f0 y.f3.f1 y.f3.f2.f0 y.f3.f2.f1 y.f4.f0 y.f4.f1 y.f4.f2.f0 y.f4.f2.f1 y.f5 y.f6) (cmpV x y) := by
 unfold impl_PyPICompare.f
 refine Ev.bind (bigs_ev x.f1 (by have := hx.r.1; omega)) (Ev.bind (bigs_ev y.f1 (by have := hy.r.1; omega)) ?_)
 refine ev_pos (by rw [fitX hx, fitX hy]; rfl) ?_
 have h : pyM (pvX x) (pvX y) = some (cmpV x y) := pyM_v x y hx hy
 exact ev_const h
end Go.Proofs.YtipfmkfpaglkkaaGreatDoor.Py

namespace Go.Proofs.YtipfmkfpaglkkaaGreatDoor.Py
open Go Go.RowKit Go.Proofs.YtipfmkfpaglkkaaGreatDoor.Z Go.Proofs.YtipfmkfpaglkkaaGreatDoor.Evs Go.Proofs.YtipfmkfpaglkkaaGreatDoor.By Go.Proofs.YtipfmkfpaglkkaaGreatDoor.Com Go.Proofs.YtipfmkfpaglkkaaGreatDoor.Ss Go.Proofs.YtipfmkfpaglkkaaGreatDoorW.PrintWords Go.Proofs.YtipfmkfpaglkkaaGreatDoorW.PrintLast
set_option linter.unusedVariables false
set_option linter.unusedSimpArgs false
theorem pyM_g (x y : XP) (fx : pyFitS (pvX x) = true) (fy : pyFitS (pvX y) = true) (hp : preM (pvX x) (pvX y) = some (preV x y)) : pyM (pvX x) (pvX y) = some (cmpV x y) := by
 unfold pyM pyPreO
 rw [if_pos (by rw [fx, fy]; rfl), hp, relX, relX]
 unfold cmpV cs7
 show (if pyLegC x.f6 y.f6 = 0 ∧ Bn.cmpZ (zvX x.f0) (zvX y.f0) = 0 ∧ cmpLists (x.f1.map zvX) (y.f1.map zvX) = 0 then some (preV x y) else some 0).bind (fun p => some (pyChain [pyLegC x.f6 y.f6, Bn.cmpZ (zvX x.f0) (zvX y.f0), cmpLists (x.f1.map zvX) (y.f1.map zvX), p, pyPostC (pvX x).qn (pvX y).qn, pyDevC (pvX x).dn (pvX y).dn, pyLocC x.f5 y.f5])) = _
 by_cases h : pyLegC x.f6 y.f6 = 0 ∧ Bn.cmpZ (zvX x.f0) (zvX y.f0) = 0 ∧ cmpLists (x.f1.map zvX) (y.f1.map zvX) = 0
 ·rw [if_pos h]
  rfl
 ·rw [if_neg h, Option.bind_some]
  congr 1
  simp only [pyChain]
  by_cases h1 : pyLegC x.f6 y.f6 = 0
  ·by_cases h2 : Bn.cmpZ (zvX x.f0) (zvX y.f0) = 0
   ·have h3 : ¬ cmpLists (x.f1.map zvX) (y.f1.map zvX) = 0 := fun h3 => h ⟨h1, h2, h3⟩
    rw [if_neg h3, if_neg h3]
   ·rw [if_neg h2, if_neg h2]
  ·rw [if_neg h1, if_neg h1]
/-- A version with zeros behind its release. -/
def fillX (x : XP) (n : Nat) : XP := ⟨x.f0, x.f1 ++ List.replicate n zeroX, x.f2, x.f3, x.f4, x.f5, x.f6⟩
theorem impl_fill (x y : XP) (n : Nat) (hn : n ≤ 255) (hx : GoodV x) (hy : GoodV y) : Ev (fun k => impl_PyPICompare.f k x.f0.f0 x.f0.f1 (x.f1 ++ List.replicate n zeroX) x.f2.f0 x.f2.f1 x.f2.f2.f0 x.f2.f2.f1 x.f3.f0 x.f3.f1 x.f3.f2.f0 x.f3.f2.f1 x.f4.f0 x.f4.f1 x.f4.f2.f0 x.f4.f2.f1 x.f5 x.f6 y.f0.f0 y.f0.f1 y.f1 y.f2.f0 y.f2.f1 y.f2.f2.f0 y.f2.f2.f1 y.f3.f0 y.f3.f1 y.f3.f2.f0 y.f3.f2.f1 y.f4.f0 y.f4.f1 y.f4.f2.f0 y.f4.f2.f1 y.f5 y.f6) (cmpV (fillX x n) y) := by
 unfold impl_PyPICompare.f
 have hl : (x.f1 ++ List.replicate n zeroX).length ≤ 1000 := by
  rw [List.length_append, List.length_replicate]
  have := hx.r.1
  omega
 refine Ev.bind (bigs_ev (x.f1 ++ List.replicate n zeroX) (by omega)) (Ev.bind (bigs_ev y.f1 (by have := hy.r.1; omega)) ?_)
 have fx : pyFit x.f0.f1 x.f2.f2.f1 x.f3.f2.f1 x.f4.f2.f1 ((x.f1 ++ List.replicate n zeroX).map czI) = true := by
  have h1 := hx.e
  have h2 := hx.p
  have h3 := hx.q
  have h4 := hx.d
  unfold pyFit
  rw [Bool.and_eq_true, Bool.and_eq_true, Bool.and_eq_true, Bool.and_eq_true, Bool.and_eq_true, decide_eq_true_eq, decide_eq_true_eq, decide_eq_true_eq, decide_eq_true_eq, decide_eq_true_eq, List.all_eq_true, List.length_map]
  refine ⟨by omega, by omega, by omega, by omega, by omega, fun y hy => ?_⟩
  obtain ⟨z, hz, rfl⟩ := List.mem_map.1 hy
  rcases List.mem_append.1 hz with hz | hz
  ·have : z.f1.size ≤ 1500 := hx.r.2 z hz
   exact decide_eq_true (by show z.f1.size ≤ 1000000; omega)
  ·rw [(List.mem_replicate.1 hz).2]
   decide
 refine ev_pos (by rw [fx, fitX hy]; rfl) ?_
 have h : pyM (pvX (fillX x n)) (pvX y) = some (cmpV (fillX x n) y) := pyM_g (fillX x n) y (fitSX (x := x) hx) (fitSX hy) (preM_v x y hx hy)
 exact ev_const h
theorem nth_fill (l : List XI) (n i : Nat) : nth ((l ++ List.replicate n zeroX).map zvX) i = nth (l.map zvX) i := by
 by_cases h : i < l.length
 ·rw [nthX_at _ i (by rw [List.length_append]; omega), nthX_at l i h, List.getElem_append_left h]
 ·rw [nthX_out (l.map zvX) i (by rw [List.length_map]; omega)]
  by_cases h2 : i < (l ++ List.replicate n zeroX).length
  ·rw [nthX_at _ i h2, List.getElem_append_right (by omega), List.getElem_replicate]
   rfl
  ·exact nthX_out _ i (by rw [List.length_map]; omega)
theorem from_congr {a a' b : List Int} (h : ∀ j, nth a j = nth a' j) : ∀ d i, cmpFrom a b d i = cmpFrom a' b d i
 | 0, _ => rfl
 | d + 1, i => by rw [cmpFrom, cmpFrom, h, from_congr h d (i + 1)]
theorem from_out {a b : List Int} : ∀ d i, a.length ≤ i → b.length ≤ i → cmpFrom a b d i = 0
 | 0, _, _, _ => rfl
 | d + 1, i, h1, h2 => by
  rw [cmpFrom, nthX_out a i h1, nthX_out b i h2, if_pos (by decide)]
  exact from_out d (i + 1) (by omega) (by omega)
theorem from_more {a b : List Int} (e : Nat) : ∀ d i, a.length ≤ i + d → b.length ≤ i + d → cmpFrom a b (d + e) i = cmpFrom a b d i
 | 0, i, h1, h2 => by rw [Nat.zero_add]; exact from_out e i h1 h2
 | d + 1, i, h1, h2 => by
  rw [show d + 1 + e = (d + e) + 1 by omega, cmpFrom, cmpFrom, from_more e d (i + 1) (by omega) (by omega)]
theorem lists_fill (l : List XI) (b : List Int) (n : Nat) : cmpLists ((l ++ List.replicate n zeroX).map zvX) b = cmpLists (l.map zvX) b := by
 unfold cmpLists
 rw [from_congr (nth_fill l n)]
 have e : max ((l ++ List.replicate n zeroX).map zvX).length b.length = max (l.map zvX).length b.length + (max ((l ++ List.replicate n zeroX).map zvX).length b.length - max (l.map zvX).length b.length) := by
  rw [List.length_map, List.length_map, List.length_append]
  omega
 rw [e]
 exact from_more _ _ 0 (by omega) (by omega)
theorem cmpV_fill (x y : XP) (n : Nat) : cmpV (fillX x n) y = cmpV x y := by
 unfold cmpV cs7
 have e : cmpLists ((fillX x n).f1.map zvX) (y.f1.map zvX) = cmpLists (x.f1.map zvX) (y.f1.map zvX) := lists_fill x.f1 _ n
 rw [e]
 rfl
theorem cmpV_self (x : XP) : cmpV x x = 0 := by
 have := (cmpV_turn x x).1
 omega
theorem awake_cmp : Ev (fun k => impl_PyPICompare.f k false (⟨#[]⟩ : ByteArray) [(⟨false, ⟨#[1]⟩⟩ : XI)] false (⟨#[]⟩ : ByteArray) false (⟨#[]⟩ : ByteArray) false (⟨#[]⟩ : ByteArray) false (⟨#[]⟩ : ByteArray) false (⟨#[]⟩ : ByteArray) false (⟨#[]⟩ : ByteArray) [(⟨#[]⟩ : ByteArray)] [] false (⟨#[]⟩ : ByteArray) [(⟨false, ⟨#[2]⟩⟩ : XI)] false (⟨#[]⟩ : ByteArray) false (⟨#[]⟩ : ByteArray) false (⟨#[]⟩ : ByteArray) false (⟨#[]⟩ : ByteArray) false (⟨#[]⟩ : ByteArray) false (⟨#[]⟩ : ByteArray) [(⟨#[]⟩ : ByteArray)] []) (-1) := by
 unfold impl_PyPICompare.f
 refine Ev.bind (bigs_ev [(⟨false, ⟨#[1]⟩⟩ : XI)] (by decide)) (Ev.bind (bigs_ev [(⟨false, ⟨#[2]⟩⟩ : XI)] (by decide)) ?_)
 refine ev_pos (by decide) ?_
 refine ev_const ?_
 unfold pyM pyPreO
 rw [if_pos (by decide), if_neg (by decide)]
 decide
theorem awake_loc : impl_PyPILocal.f [(⟨#[97]⟩ : ByteArray)] [(⟨#[98]⟩ : ByteArray)] = some (-1) := by
 unfold impl_PyPILocal.f
 rw [if_pos (by decide)]
 decide
end Go.Proofs.YtipfmkfpaglkkaaGreatDoor.Py

namespace Go.Proofs.YtipfmkfpaglkkaaGreatDoor.Pure
open Go Go.RowKit Go.Proofs.YtipfmkfpaglkkaaGreatDoor.Z Go.Proofs.YtipfmkfpaglkkaaGreatDoor.Gw Go.Proofs.YtipfmkfpaglkkaaGreatDoor.Evs Go.Proofs.YtipfmkfpaglkkaaGreatDoor.By Go.Proofs.YtipfmkfpaglkkaaGreatDoor.Com Go.Proofs.YtipfmkfpaglkkaaGreatDoor.Py Go.Proofs.YtipfmkfpaglkkaaGreatDoorW.PrintWords Go.Proofs.YtipfmkfpaglkkaaGreatDoorW.PrintLast
set_option linter.unusedVariables false
set_option linter.unusedSimpArgs false
theorem awake : Ev (fun k => py_awk k) true := by
 unfold py_awk
 refine Ev.bind awake_cmp (ev_pos rfl ?_)
 exact ev_const (by rw [awake_loc]; rfl)
theorem law (x y : XP) (n : Nat) (hn : n ≤ 255) : Ev (fun k => laws_FnPyPIFilled.f k x.f0.f0 x.f0.f1 x.f1 x.f2.f0 x.f2.f1 x.f2.f2.f0 x.f2.f2.f1 x.f3.f0 x.f3.f1 x.f3.f2.f0 x.f3.f2.f1 x.f4.f0 x.f4.f1 x.f4.f2.f0 x.f4.f2.f1 x.f5 x.f6 y.f0.f0 y.f0.f1 y.f1 y.f2.f0 y.f2.f1 y.f2.f2.f0 y.f2.f2.f1 y.f3.f0 y.f3.f1 y.f3.f2.f0 y.f3.f2.f1 y.f4.f0 y.f4.f1 y.f4.f2.f0 y.f4.f2.f1 y.f5 y.f6 (n : Int)) true := by
 unfold laws_FnPyPIFilled.f
 rw [Int.toNat_natCast]
 obtain ⟨a, a1, a2⟩ := fit12 x
 refine Ev.bind a1 ?_
 cases a with
 | false => exact ev_f (ev_now rfl)
 | true =>
  obtain ⟨b, b1, b2⟩ := fit12 y
  refine ev_t (Ev.bind b1 ?_)
  cases b with
  | false => exact ev_f (ev_now rfl)
  | true =>
   obtain ⟨c, c1, c2⟩ := okAll [x, y] (fun z hz => by
    simp only [List.mem_cons, List.not_mem_nil, or_false] at hz
    rcases hz with rfl | rfl
    ·exact a2 rfl
    ·exact b2 rfl)
   refine ev_t (Ev.bind c1 ?_)
   cases c with
   | false => exact ev_f (ev_now rfl)
   | true =>
    have hx : GoodV x := c2 rfl x (by simp)
    have hy : GoodV y := c2 rfl y (by simp)
    have e1 := impl_fill x x n hn hx hx
    rw [cmpV_fill, cmpV_self] at e1
    have e2 := impl_fill x y n hn hx hy
    rw [cmpV_fill] at e2
    refine ev_t (Ev.bind awake (ev_pos rfl (Ev.bind e1 (ev_pos rfl (Ev.bind e2 (Ev.bind (impl_cmp x y hx hy) (ev_pos rfl (ev_pos ?_ (ev_now rfl)))))))))
    have := hx.r.1
    omega
theorem FnPyPIFilled : laws_FnPyPIFilled.Pure := by
 intro a0_0 a0_1 l0_2 a0_3 a0_4 a0_5 a0_6 a0_7 a0_8 a0_9 a0_10 a0_11 a0_12 a0_13 a0_14 l0_15 l0_16 a1_0 a1_1 l1_2 a1_3 a1_4 a1_5 a1_6 a1_7 a1_8 a1_9 a1_10 a1_11 a1_12 a1_13 a1_14 l1_15 l1_16 a2 _ _ _ _ _ _ hz
 have hz : 0 ≤ a2 ∧ a2 ≤ 255 := by simpa [Lit.wf, IntKind.min, IntKind.max, IntKind.signed, IntKind.bits] using hz
 obtain ⟨n, rfl⟩ : ∃ n : Nat, a2 = (n : Int) := ⟨a2.toNat, by omega⟩
 exact Ev.rounds (law ⟨⟨a0_0, a0_1⟩, l0_2, ⟨a0_3, a0_4, ⟨a0_5, a0_6⟩⟩, ⟨a0_7, a0_8, ⟨a0_9, a0_10⟩⟩, ⟨a0_11, a0_12, ⟨a0_13, a0_14⟩⟩, l0_15, l0_16⟩ ⟨⟨a1_0, a1_1⟩, l1_2, ⟨a1_3, a1_4, ⟨a1_5, a1_6⟩⟩, ⟨a1_7, a1_8, ⟨a1_9, a1_10⟩⟩, ⟨a1_11, a1_12, ⟨a1_13, a1_14⟩⟩, l1_15, l1_16⟩ n (by omega))
end Go.Proofs.YtipfmkfpaglkkaaGreatDoor.Pure

namespace Go.Proofs.YtipfmkfpaglkkaaGreatDoor.fnPyPIFilled
open Go.ChangeShapes Go.WideShapes Go.ChangeAt Go.RowKit Go.Proofs.YtipfmkfpaglkkaaGreatDoor.Op Go.Proofs.YtipfmkfpaglkkaaGreatDoor.Z Go.Proofs.YtipfmkfpaglkkaaGreatDoorW.PrintWords
open Go.ChangeMaps (open_string shut_string)
set_option linter.unusedVariables false
set_option linter.unusedSimpArgs false
theorem own : ownKnob Tryz.prog.godebug = none := by kernel_rfl
theorem laidOut : laidOutB Tryz.prog = true := by kernel_rfl
set_option maxRecDepth 100000 in
theorem opens_k23 : Opens Tryz.prog 23 k23 := by
 intro H enc w base spare held fuel cs x h
 obtain ⟨hl, n, hf⟩ := trod_fields Tryz.underlying23 h
 have hl' : cs.length = 2 := hl.trans (by kernel_rfl)
 obtain ⟨a0, h0⟩ := open_field hf 0 4 0 1 (by rfl) (by kernel_rfl) (Opens.bool Tryz.underlying4)
 obtain ⟨a1, h1⟩ := open_field hf 1 9 1 1 (by rfl) (by kernel_rfl) (Opens.string Tryz.underlying9)
 exact ⟨(⟨a0, a1⟩ : S23), (Exists.intro _ (Exists.intro _ (And.intro (split_at cs 0 1) (And.intro h0 ((last_at cs 1 1 (by omega)) ▸ h1)))))⟩
set_option maxRecDepth 100000 in
theorem opens_k26 : Opens Tryz.prog 26 k26 := by
 intro H enc w base spare held fuel cs x h
 obtain ⟨hl, n, hf⟩ := trod_fields Tryz.underlying26 h
 have hl' : cs.length = 4 := hl.trans (by kernel_rfl)
 obtain ⟨a0, h0⟩ := open_field hf 0 4 0 1 (by rfl) (by kernel_rfl) (Opens.bool Tryz.underlying4)
 obtain ⟨a1, h1⟩ := open_field hf 1 9 1 1 (by rfl) (by kernel_rfl) (Opens.string Tryz.underlying9)
 obtain ⟨a2, h2⟩ := open_field hf 2 23 2 2 (by rfl) (by kernel_rfl) opens_k23
 exact ⟨(⟨a0, a1, a2⟩ : S26), (Exists.intro _ (Exists.intro _ (And.intro (split_at cs 0 1) (And.intro h0 (Exists.intro _ (Exists.intro _ (And.intro (split_at cs 1 1) (And.intro h1 ((last_at cs 2 2 (by omega)) ▸ h2)))))))))⟩
set_option maxRecDepth 100000 in
theorem opens_k29 : Opens Tryz.prog 29 k29 := by
 intro H enc w base spare held fuel cs x h
 obtain ⟨hl, n, hf⟩ := trod_fields Tryz.underlying29 h
 have hl' : cs.length = 17 := hl.trans (by kernel_rfl)
 obtain ⟨a0, h0⟩ := open_field hf 0 23 0 2 (by rfl) (by kernel_rfl) opens_k23
 obtain ⟨a1, h1⟩ := open_field hf 1 24 2 1 (by rfl) (by kernel_rfl) (Opens.slice Tryz.underlying24 (by kernel_rfl) opens_k23)
 obtain ⟨a2, h2⟩ := open_field hf 2 26 3 4 (by rfl) (by kernel_rfl) opens_k26
 obtain ⟨a3, h3⟩ := open_field hf 3 26 7 4 (by rfl) (by kernel_rfl) opens_k26
 obtain ⟨a4, h4⟩ := open_field hf 4 26 11 4 (by rfl) (by kernel_rfl) opens_k26
 obtain ⟨a5, h5⟩ := open_field hf 5 27 15 1 (by rfl) (by kernel_rfl) (Opens.slice Tryz.underlying27 (by kernel_rfl) (Opens.string Tryz.underlying9))
 obtain ⟨a6, h6⟩ := open_field hf 6 27 16 1 (by rfl) (by kernel_rfl) (Opens.slice Tryz.underlying27 (by kernel_rfl) (Opens.string Tryz.underlying9))
 exact ⟨(⟨a0, a1, a2, a3, a4, a5, a6⟩ : S29), (Exists.intro _ (Exists.intro _ (And.intro (split_at cs 0 2) (And.intro h0 (Exists.intro _ (Exists.intro _ (And.intro (split_at cs 2 1) (And.intro h1 (Exists.intro _ (Exists.intro _ (And.intro (split_at cs 3 4) (And.intro h2 (Exists.intro _ (Exists.intro _ (And.intro (split_at cs 7 4) (And.intro h3 (Exists.intro _ (Exists.intro _ (And.intro (split_at cs 11 4) (And.intro h4 (Exists.intro _ (Exists.intro _ (And.intro (split_at cs 15 1) (And.intro h5 ((last_at cs 16 1 (by omega)) ▸ h6)))))))))))))))))))))))))⟩
/-- A world for the witness: the listed variables hold what their initialisers lay. -/
noncomputable def laidWorld (os : Os) : World := World.laidAll Tryz.prog os Rows.fnPyPIFilledRow.laid
set_option maxRecDepth 100000 in
theorem laid_met (os : Os) : laidMet Tryz.prog Rows.fnPyPIFilledRow.laid ((laidWorld os).forCall (fun _ _ => 0) ⟨#[], #[.agg #[.bool false, .string ByteArray.empty, .slice none 0 0, .bool false, .string ByteArray.empty, .bool false, .string ByteArray.empty, .bool false, .string ByteArray.empty, .bool false, .string ByteArray.empty, .bool false, .string ByteArray.empty, .bool false, .string ByteArray.empty, .slice none 0 0, .slice none 0 0], .agg #[.bool false, .string ByteArray.empty, .slice none 0 0, .bool false, .string ByteArray.empty, .bool false, .string ByteArray.empty, .bool false, .string ByteArray.empty, .bool false, .string ByteArray.empty, .bool false, .string ByteArray.empty, .bool false, .string ByteArray.empty, .slice none 0 0, .slice none 0 0], .int .u8 0], []⟩).memory :=
 laidMet_laidAll _ (by kernel_rfl) (by kernel_rfl)
set_option maxRecDepth 100000 in
theorem reads (os : Os) {H : Type} (enc : TypeId × Value → H) : DataW.whole enc Tryz.prog ((laidWorld os).forCall (fun _ _ => 0) ⟨#[], #[.agg #[.bool false, .string ByteArray.empty, .slice none 0 0, .bool false, .string ByteArray.empty, .bool false, .string ByteArray.empty, .bool false, .string ByteArray.empty, .bool false, .string ByteArray.empty, .bool false, .string ByteArray.empty, .bool false, .string ByteArray.empty, .slice none 0 0, .slice none 0 0], .agg #[.bool false, .string ByteArray.empty, .slice none 0 0, .bool false, .string ByteArray.empty, .bool false, .string ByteArray.empty, .bool false, .string ByteArray.empty, .bool false, .string ByteArray.empty, .bool false, .string ByteArray.empty, .bool false, .string ByteArray.empty, .slice none 0 0, .slice none 0 0], .int .u8 0], []⟩).memory Tryz.f4.params.toList Rows.fnPyPIFilledSpec.vars false #[.agg #[.bool false, .string ByteArray.empty, .slice none 0 0, .bool false, .string ByteArray.empty, .bool false, .string ByteArray.empty, .bool false, .string ByteArray.empty, .bool false, .string ByteArray.empty, .bool false, .string ByteArray.empty, .bool false, .string ByteArray.empty, .slice none 0 0, .slice none 0 0], .agg #[.bool false, .string ByteArray.empty, .slice none 0 0, .bool false, .string ByteArray.empty, .bool false, .string ByteArray.empty, .bool false, .string ByteArray.empty, .bool false, .string ByteArray.empty, .bool false, .string ByteArray.empty, .bool false, .string ByteArray.empty, .slice none 0 0, .slice none 0 0], .int .u8 0].toList 8 = some ([.agg [.agg [.lit (.bool false), .lit (.string [])], .nil, .agg [.lit (.bool false), .lit (.string []), .agg [.lit (.bool false), .lit (.string [])]], .agg [.lit (.bool false), .lit (.string []), .agg [.lit (.bool false), .lit (.string [])]], .agg [.lit (.bool false), .lit (.string []), .agg [.lit (.bool false), .lit (.string [])]], .nil, .nil], .agg [.agg [.lit (.bool false), .lit (.string [])], .nil, .agg [.lit (.bool false), .lit (.string []), .agg [.lit (.bool false), .lit (.string [])]], .agg [.lit (.bool false), .lit (.string []), .agg [.lit (.bool false), .lit (.string [])]], .agg [.lit (.bool false), .lit (.string []), .agg [.lit (.bool false), .lit (.string [])]], .nil, .nil], .lit (.int .u8 0)], [], []) := by kernel_rfl
set_option maxRecDepth 100000 in
theorem lifted (os : Os) (started : os.Started) (H : Type) (enc : TypeId × Value → H) (F : Stop.Interp) :
  ReturnsInHanded {} Tryz.checked os 4 .any ((OpenSpec.ofChange Rows.fnPyPIFilledSpec).preRow enc Tryz.prog Tryz.f4 Rows.fnPyPIFilledRow.domain false Rows.fnPyPIFilledRow.laid) (((OpenSpec.ofChange Rows.fnPyPIFilledSpec).at F).post enc Tryz.prog Tryz.f4 false true false false) := by
 refine returnsInHanded_of_row (C := Tryz.checked) (s := OpenSpec.ofChange Rows.fnPyPIFilledSpec) own started (by kernel_rfl) Tryz.func4
  (witness_row_atRef (enc := enc) (C := Tryz.checked) false (laidWorld os) #[.agg #[.bool false, .string ByteArray.empty, .slice none 0 0, .bool false, .string ByteArray.empty, .bool false, .string ByteArray.empty, .bool false, .string ByteArray.empty, .bool false, .string ByteArray.empty, .bool false, .string ByteArray.empty, .bool false, .string ByteArray.empty, .slice none 0 0, .slice none 0 0], .agg #[.bool false, .string ByteArray.empty, .slice none 0 0, .bool false, .string ByteArray.empty, .bool false, .string ByteArray.empty, .bool false, .string ByteArray.empty, .bool false, .string ByteArray.empty, .bool false, .string ByteArray.empty, .bool false, .string ByteArray.empty, .slice none 0 0, .slice none 0 0], .int .u8 0] (World.laidAll_os _ _ _) (by kernel_rfl) (by kernel_rfl) (by kernel_rfl)
   (OpenSpec.preRow_of_cond 8 (reads os enc) (by kernel_rfl) (fun k hk => by cases hk) (by kernel_rfl) (laid_met os))) ?_
 intro W base args ds gs before hval0 hW hcnd hk0 hsz0 hL hSh hho
 have hsz : (DataW.weightsEach Tryz.prog (Tryz.f4.params.toList ++ Rows.fnPyPIFilledSpec.plain.varTypes Tryz.prog) (ds ++ gs)).all (· ≤ reachBytes) = true := hsz0
 have hval : ∀ (j : Nat) t v, Tryz.f4.params[j]? = some t → args[j]? = some v → Value.okWide Tryz.prog W .any base t v := hval0
 have hW' := hW
 obtain ⟨p, q, hA0, hV, rfl, hfz, hnd⟩ := hW
 have hA : DataW.TrodAll enc Tryz.prog W 0 (fun _ => true) true Tryz.f4.params.toList args.toList ds p := hA0
 rw [Tryz.params4] at hA hval hsz
 obtain ⟨v0, vs0, d0, ds0, p0, q0, hargs, rfl, rfl, h0, r0⟩ := trodAll_cons hA
 obtain ⟨v1, vs1, d1, ds1, p1, q1, rfl, rfl, rfl, h1, r1⟩ := trodAll_cons r0
 obtain ⟨v2, vs2, d2, ds2, p2, q2, rfl, rfl, rfl, h2, r2⟩ := trodAll_cons r1
 obtain ⟨rfl, rfl, rfl⟩ := trodAll_nil r2
 obtain rfl : args = #[v0, v1, v2] := by cases args; simp_all
 obtain ⟨rfl, rfl⟩ := trodVars_none hV
 have k0 := h0
 have lt0 : ∀ x ∈ p0, x.block < W.heap.size := by obtain ⟨m, hm⟩ := k0; exact DataW.trod_lt m _ _ _ hm
 obtain ⟨x0, cs0, rfl, hx0⟩ := open_agg Tryz.underlying29 (hval 0 29 v0 rfl rfl) opens_k29 h0
 obtain ⟨A0_2, c0_2, A0_15, c0_15, A0_16, c0_16, e0, hc0_2, hr0_2, hc0_15, hr0_15, hc0_16, hr0_16⟩ := k29_open hx0
 obtain rfl : cs0 = #[.bool x0.f0.f0, .string x0.f0.f1, .slice A0_2 x0.f1.length c0_2, .bool x0.f2.f0, .string x0.f2.f1, .bool x0.f2.f2.f0, .string x0.f2.f2.f1, .bool x0.f3.f0, .string x0.f3.f1, .bool x0.f3.f2.f0, .string x0.f3.f2.f1, .bool x0.f4.f0, .string x0.f4.f1, .bool x0.f4.f2.f0, .string x0.f4.f2.f1, .slice A0_15 x0.f5.length c0_15, .slice A0_16 x0.f6.length c0_16] := by apply Array.ext'; simpa using e0
 have k1 := h1
 have lt1 : ∀ x ∈ p1, x.block < W.heap.size := by obtain ⟨m, hm⟩ := k1; exact DataW.trod_lt m _ _ _ hm
 obtain ⟨x1, cs1, rfl, hx1⟩ := open_agg Tryz.underlying29 (hval 1 29 v1 rfl rfl) opens_k29 h1
 obtain ⟨A1_2, c1_2, A1_15, c1_15, A1_16, c1_16, e1, hc1_2, hr1_2, hc1_15, hr1_15, hc1_16, hr1_16⟩ := k29_open hx1
 obtain rfl : cs1 = #[.bool x1.f0.f0, .string x1.f0.f1, .slice A1_2 x1.f1.length c1_2, .bool x1.f2.f0, .string x1.f2.f1, .bool x1.f2.f2.f0, .string x1.f2.f2.f1, .bool x1.f3.f0, .string x1.f3.f1, .bool x1.f3.f2.f0, .string x1.f3.f2.f1, .bool x1.f4.f0, .string x1.f4.f1, .bool x1.f4.f2.f0, .string x1.f4.f2.f1, .slice A1_15 x1.f5.length c1_15, .slice A1_16 x1.f6.length c1_16] := by apply Array.ext'; simpa using e1
 obtain ⟨a2, rfl, rfl, rfl, w2⟩ := open_int Tryz.underlying5 (hval 2 5 v2 rfl rfl) h2
 clear hA0 hval0 hsz0 hsz
 refine (laws_FnPyPIFilled.walk Pure.FnPyPIFilled x0.f0.f0 x0.f0.f1 A0_2 c0_2 x0.f1 x0.f2.f0 x0.f2.f1 x0.f2.f2.f0 x0.f2.f2.f1 x0.f3.f0 x0.f3.f1 x0.f3.f2.f0 x0.f3.f2.f1 x0.f4.f0 x0.f4.f1 x0.f4.f2.f0 x0.f4.f2.f1 A0_15 c0_15 x0.f5 A0_16 c0_16 x0.f6 x1.f0.f0 x1.f0.f1 A1_2 c1_2 x1.f1 x1.f2.f0 x1.f2.f1 x1.f2.f2.f0 x1.f2.f2.f1 x1.f3.f0 x1.f3.f1 x1.f3.f2.f0 x1.f3.f2.f1 x1.f4.f0 x1.f4.f1 x1.f4.f2.f0 x1.f4.f2.f1 A1_15 c1_15 x1.f5 A1_16 c1_16 x1.f6 a2 W hr0_2.2.1 hr0_15.2.1 hr0_16.2.1 hr1_2.2.1 hr1_15.2.1 hr1_16.2.1 w2 hr0_2 hc0_2 hr0_15 hc0_15 hr0_16 hc0_16 hr1_2 hc1_2 hr1_15 hc1_15 hr1_16 hc1_16 (Gw.gw_of (l := Rows.fnPyPIFilledRow.laid) hL (List.Mem.head _) (List.Mem.tail _ (List.Mem.head _)) (List.Mem.tail _ (List.Mem.tail _ (List.Mem.tail _ (List.Mem.head _)))))).mono fun e W' ⟨he, bel⟩ => ?_
 subst he
 exact ⟨_, rfl, _, _, _, [], _, [], hW', trodAll_mk1 (shut_bool Tryz.underlying4 _), (trodAll_cons_mk (Below.trod laidOut (by kernel_rfl) (of_decide_eq_true (by kernel_rfl)) k0 bel lt0) (trodAll_cons_mk (Below.trod laidOut (by kernel_rfl) (of_decide_eq_true (by kernel_rfl)) k1 bel lt1) (trodAll_cons_mk (shut_int Tryz.underlying5 w2) trodAll_mk0))), rfl, bel.frame _, fun h => by cases h⟩
theorem said : Rows.FnPyPIFilledSaid :=
 OpenClaim.holds_of_cond 4 Tryz.f4 rfl rfl rfl rfl rfl rfl rfl ⟨rfl, rfl, rfl, rfl, rfl⟩ rfl rfl rfl rfl rfl (by kernel_rfl) Tryz.func4 (by kernel_rfl)
  (of_decide_eq_true (by kernel_rfl)) (by unfold Func.isWrapper; first | (rw [if_pos (by decide +kernel)]; kernel_rfl) | (rw [if_neg (by decide +kernel)]; exact ⟨rfl, rfl⟩))
  (fun os started H enc _ F => by rw [OpenClaim.pre_eq_preRow]; exact lifted os started H enc F)
theorem plain (f : FuncId) (fn : Func) (hf : Tryz.pinned.checked.prog.funcNamed "pub-seniority/laws.FnPyPIFilled" = some f) (hfn : Tryz.pinned.checked.prog.funcs[f]? = some fn) :
  true = Tryz.pinned.checked.prog.looks [] ∧ ∀ (j : Nat) t, fn.params[j]? = some t → Tryz.pinned.checked.prog.wantsStandIn t = false := by
 obtain rfl : f = 4 := Option.some.inj ((show Tryz.prog.funcNamed "pub-seniority/laws.FnPyPIFilled" = some 4 by kernel_rfl).symm.trans hf) |>.symm
 obtain rfl : fn = Tryz.f4 := (Option.some.inj (Tryz.func4.symm.trans hfn)).symm
 refine ⟨by kernel_rfl, fun j t ht => ?_⟩
 rw [Tryz.params4] at ht
 have h2 : ([29, 29, 5] : List TypeId).all (fun t => !Tryz.prog.wantsStandIn t) = true := by kernel_rfl
 have h3 := List.all_eq_true.1 h2 t (by have := Array.mem_of_getElem? ht; simpa using this)
 exact (show Tryz.prog.wantsStandIn t = false from by simpa using h3)
theorem proved : Rows.FnPyPIFilledCardSaid :=
 Claim7.holds_tied_plain_at .later [] _ _ _ _ said (fun _ h => by cases h) (by kernel_rfl) (fun _ h => by cases h) fnPyPIFilled_row_tie rfl ⟨rfl, rfl⟩ (by kernel_rfl) rfl plain (by kernel_rfl)
#print axioms proved
end Go.Proofs.YtipfmkfpaglkkaaGreatDoor.fnPyPIFilled
namespace Go.Proofs.YtipfmkfpaglkkaaGreatDoor
/-- The card, under a short name, for the claim. -/
theorem fnPyPIFilled_holds : Rows.FnPyPIFilledCardSaid := fnPyPIFilled.proved
end Go.Proofs.YtipfmkfpaglkkaaGreatDoor
