/- FnRubyBehind: what stands behind a version of numbers: zeros change nothing, letters make a pre-release, which is smaller; of two pre-releases the one of the greater number is the greater one. No condition beyond the row's own. -/
import Derived.Test.YtmhlmkefnmdbcaaDoorZ11
import Derived.Test.YtmhlmkefnmdbcaaDoorEv
import Derived.Test.YtmhlmkefnmdbcaaDoorBy
import Derived.Test.YtmhlmkefnmdbcaaDoorZ5
import Derived.Test.YtmhlmkefnmdbcaaDoorZ3
import Derived.Test.YtmhlmkefnmdbcaaDoorZ4
import Derived.Test.YtmhlmkefnmdbcaaDoorZ6
import Derived.Test.YtmhlmkefnmdbcaaDoorZ8
import Derived.Test.YtmhlmkefnmdbcaaDoorZ10
import Derived.Test.YtmhlmkefnmdbcaaDoorSsC
import Derived.Test.YtmhlmkefnmdbcaaDoorBv
import Derived.Test.YtmhlmkefnmdbcaaDoorZ1
import Derived.Test.YtmhlmkefnmdbcaaDoorZ13
import Derived.Test.YtmhlmkefnmdbcaaDoorRows
import Derived.Test.YtmhlmkefnmdbcaaDoorOp
import Derived.Test.YtmhlmkefnmdbcaaDoorCards
import Derived.Test.YtmhlmkefnmdbcaaDoorTie
import Derived.Test.YtmhlmkefnmdbcaaDoorGl
import Derived.Deep.DeepHandedRow
import Derived.Deep.DeepWitnessRowRef
import Derived.Deep.DeepLaidRun
import Derived.WalkKit
import Derived.ProofKit
import Derived.OpenShut
import Derived.ShutString
import Derived.ChangeOld
import Derived.Below
import Derived.SizedLaws
namespace Go.Proofs.YtmhlmkefnmdbcaaDoor.Com
open Go.RowKit Go.Proofs.YtmhlmkefnmdbcaaDoor.Z Go.Proofs.YtmhlmkefnmdbcaaDoor.Evs Go.Proofs.YtmhlmkefnmdbcaaDoorW.PrintWords Go.Proofs.YtmhlmkefnmdbcaaDoorW.PrintLast
set_option linter.unusedVariables false
set_option linter.unusedSimpArgs false

/-- Ascii: an answer; where it is true every byte is below 128. -/
theorem ascii_l (s : ByteArray) (hs : s.size ≤ 140737488351232) (d : Nat) : ∀ i : Nat, i + d = s.size → ∃ r, Ev (fun k => spec_Ascii.l0 k s (i : Int)) r ∧ (r = true → ∀ j : Nat, i ≤ j → (h : j < s.size) → (s[j]'h).toNat < 128) := by
  induction d with
  | zero => intro i h; exact ⟨true, Ev.step (fun _ => by rw [spec_Ascii.l0]) (ev_neg (by omega) (Ev.now _)), fun _ j h1 h2 => by omega⟩
  | succ d ih =>
    intro i h
    obtain ⟨r, hr, hq⟩ := ih (i + 1) (by omega)
    have hb := bt_nat s i (by omega)
    by_cases c : bt s (i : Int) > 127
    · exact ⟨false, Ev.step (fun _ => by rw [spec_Ascii.l0]) (ev_pos (by omega) (ev_pos (by omega) (ev_pos c (Ev.now _)))), fun h => by cases h⟩
    · refine ⟨r, Ev.step (fun _ => by rw [spec_Ascii.l0, wrap_nat (by omega)]) (ev_pos (by omega) (ev_pos (by omega) (ev_neg c hr))), fun h j h1 h2 => ?_⟩
      by_cases e : j = i
      · subst e; omega
      · exact hq h j (by omega) h2
theorem ascii_ev (s : ByteArray) (hs : s.size ≤ 140737488351232) : ∃ r, Ev (fun k => spec_Ascii.f k s) r ∧ (r = true → ∀ j : Nat, (h : j < s.size) → (s[j]'h).toNat < 128) := by
  obtain ⟨r, hr, hq⟩ := ascii_l s hs s.size 0 (by omega)
  exact ⟨r, hr, fun h j hj => hq h j (by omega) hj⟩
end Go.Proofs.YtmhlmkefnmdbcaaDoor.Com

namespace Go.Proofs.YtmhlmkefnmdbcaaDoor.Com
open Go.RowKit Go.Proofs.YtmhlmkefnmdbcaaDoor.Z Go.Proofs.YtmhlmkefnmdbcaaDoor.Evs Go.Proofs.YtmhlmkefnmdbcaaDoor.By Go.Proofs.YtmhlmkefnmdbcaaDoorW.PrintWords Go.Proofs.YtmhlmkefnmdbcaaDoorW.PrintLast
set_option linter.unusedVariables false
set_option linter.unusedSimpArgs false

def ptB (c : UInt8) : Bool := c == 46
theorem isPoint_f (c : UInt8) : spec_isPoint.f (c.toNat : Int) = some (ptB c) := by
  unfold spec_isPoint.f ptB
  congr 1
  rw [Bool.eq_iff_iff, beq_iff_eq, beq_iff_eq]
  constructor
  · intro h
    exact UInt8.toNat_inj.1 (by have : (46 : UInt8).toNat = 46 := rfl; omega)
  · rintro rfl; rfl
theorem cut_l (l : List UInt8) (hl : l.length ≤ 100000) (d : Nat) : ∀ (i f : Nat) (acc : List ByteArray), i + d = l.length → f ≤ i → acc.length ≤ i →
    Ev (fun k => spec_cut_isPoint.l0 k (ofL l) acc (f : Int) (i : Int)) (acc ++ (onto ((l.take i).drop f) (cutP ptB (l.drop i))).map ofL) := by
  have hs := ofL_size l
  have hext : ∀ i f : Nat, (ofL l).extract ((f : Int)).toNat ((i : Int)).toNat = ofL ((l.take i).drop f) := fun i f => by rw [Int.toNat_natCast, Int.toNat_natCast, ofL_extract]
  induction d with
  | zero =>
    intro i f acc h hf ha
    have e : l.drop i = [] := List.drop_of_length_le (by omega)
    rw [e]
    refine Ev.step (fun _ => by rw [spec_cut_isPoint.l0, hext, wrap_nat (by omega)]) (ev_pos (by omega) (ev_pos (by omega) (ev_pos (by omega) (ev_pos (by omega) (ev_pos (by omega) ?_)))))
    refine Ev.step (fun _ => by rw [spec_cut_isPoint.l0]) (ev_neg (by omega) (ev_now ?_))
    simp [cutP, onto]
  | succ d ih =>
    intro i f acc h hf ha
    have hc := bt_ofL l i (by omega)
    have e : l.drop i = l[i]'(by omega) :: l.drop (i + 1) := List.drop_eq_getElem_cons (by omega)
    have et : l.take (i + 1) = l.take i ++ [l[i]'(by omega)] := (List.take_append_getElem (by omega)).symm
    refine Ev.step (fun _ => by rw [spec_cut_isPoint.l0, hc, isPoint_f, Option.bind_some, hext, wrap_nat (by omega)]) (ev_pos (by omega) (ev_neg (by omega) (ev_pos (by omega) (ev_pos (by omega) ?_))))
    cases hp : ptB (l[i]'(by omega)) with
    | true =>
      refine ev_t (ev_pos (by omega) (ev_pos (by omega) (ev_pos (by omega) ?_)))
      refine ev_eq (ih (i + 1) (i + 1) (acc ++ [ofL ((l.take i).drop f)]) (by omega) (Nat.le_refl _) (by simp; omega)) ?_
      have e0 : (l.take (i + 1)).drop (i + 1) = [] := List.drop_of_length_le (by rw [List.length_take]; omega)
      rw [e, onto_cut _ _ _ _ hp, e0, onto_nil]
      simp
    | false =>
      refine ev_f ?_
      refine ev_eq (ih (i + 1) f acc (by omega) (by omega) (by omega)) ?_
      rw [e, onto_cons _ _ _ _ hp, et, List.drop_append_of_le_length (by simp; omega)]
theorem cut_ev (l : List UInt8) (hl : l.length ≤ 100000) (n : Nat) : Ev (fun k => spec_cut_isPoint.f k (ofL l) n) ((cutP ptB l).map ofL) := by
  unfold spec_cut_isPoint.f
  have := cut_l l hl l.length 0 0 [] (by omega) (Nat.le_refl _) (by simp)
  simpa [onto_nil] using this
end Go.Proofs.YtmhlmkefnmdbcaaDoor.Com

namespace Go.Proofs.YtmhlmkefnmdbcaaDoor.Com
open Go.RowKit Go.Proofs.YtmhlmkefnmdbcaaDoor.Z Go.Proofs.YtmhlmkefnmdbcaaDoor.Evs Go.Proofs.YtmhlmkefnmdbcaaDoor.By Go.Proofs.YtmhlmkefnmdbcaaDoorW.PrintWords Go.Proofs.YtmhlmkefnmdbcaaDoorW.PrintLast
set_option linter.unusedVariables false
set_option linter.unusedSimpArgs false

theorem isDigit_f (c : UInt8) : spec_isDigit.f (c.toNat : Int) = some (dg c) := by
  unfold spec_isDigit.f dg
  by_cases h : (c.toNat : Int) ≥ 48
  · rw [if_pos h]
    congr 1
    rw [Bool.eq_iff_iff, decide_eq_true_eq, decide_eq_true_eq]
    omega
  · rw [if_neg h]
    congr 1
    symm
    rw [decide_eq_false_iff_not]
    omega
/-- Digits alone, one at least. -/
def allD (l : List UInt8) : Bool := l.all dg && decide (0 < l.length)
theorem digits_l (l : List UInt8) (hl : l.length ≤ 140737488351232) (d : Nat) : ∀ i : Nat, i + d = l.length → Ev (fun k => spec_allDigits.l0 k (ofL l) (i : Int)) ((l.drop i).all dg && decide (0 < l.length)) := by
  have hs := ofL_size l
  induction d with
  | zero =>
    intro i h
    refine Ev.step (fun _ => by rw [spec_allDigits.l0]) (ev_neg (by omega) (ev_now ?_))
    rw [List.drop_of_length_le (by omega), hs]
    simp
  | succ d ih =>
    intro i h
    have hc := bt_ofL l i (by omega)
    refine Ev.step (fun _ => by rw [spec_allDigits.l0, hc, isDigit_f, Option.bind_some, wrap_nat (by omega)]) (ev_pos (by omega) (ev_pos (by omega) ?_))
    rw [List.drop_eq_getElem_cons (by omega), List.all_cons]
    cases e : dg (l[i]'(by omega)) with
    | true => exact ev_t (by simpa using ih (i + 1) (by omega))
    | false => exact ev_f (ev_now (by simp))
theorem digits_ev (l : List UInt8) (hl : l.length ≤ 140737488351232) : Ev (fun k => spec_allDigits.f k (ofL l)) (allD l) := digits_l l hl l.length 0 (by omega)
end Go.Proofs.YtmhlmkefnmdbcaaDoor.Com

namespace Go.Proofs.YtmhlmkefnmdbcaaDoor.Com
open Go.RowKit Go.Proofs.YtmhlmkefnmdbcaaDoor.Z Go.Proofs.YtmhlmkefnmdbcaaDoor.Evs Go.Proofs.YtmhlmkefnmdbcaaDoor.By Go.Proofs.YtmhlmkefnmdbcaaDoorW.PrintWords Go.Proofs.YtmhlmkefnmdbcaaDoorW.PrintLast
set_option linter.unusedVariables false
set_option linter.unusedSimpArgs false

/-- A sign and digits alone. -/
def signed (l : List UInt8) : Bool := match l with
  | [] => false
  | c :: r => (c == 45 || c == 43) && allD r
theorem signed_short (l : List UInt8) (h : ¬ 1 < l.length) : signed l = false := by
  match l, h with
  | [], _ => rfl
  | [c], _ => simp [signed, allD]
  | _ :: _ :: _, h => simp at h
def idK (l : List (List UInt8)) : Bool := l.all fun x => !signed x
theorem rd_map (l : List (List UInt8)) (i : Nat) (h : i < l.length) : rdOf ByteArray.empty (l.map ofL) (i : Int) = ofL (l[i]'h) := by
  rw [rdOf_nat]
  simp [List.getD_eq_getElem?_getD, h]
theorem ident_l (l : List (List UInt8)) (hl : l.length ≤ 100000) (hz : ∀ x ∈ l, x.length ≤ 140737488351232) (d : Nat) : ∀ i : Nat, i + d = l.length → Ev (fun k => spec_IdentifiersKnown.l0 k (l.map ofL) (i : Int)) (idK (l.drop i)) := by
  induction d with
  | zero =>
    intro i h
    refine Ev.step (fun _ => by rw [spec_IdentifiersKnown.l0, List.length_map]) (ev_neg (by omega) (ev_now ?_))
    rw [List.drop_of_length_le (by omega)]
    rfl
  | succ d ih =>
    intro i h
    have hi : i < l.length := by omega
    have hr := rd_map l i hi
    have hlen := hz _ (List.getElem_mem hi)
    have e : l.drop i = l[i] :: l.drop (i + 1) := List.drop_eq_getElem_cons hi
    have hk : idK (l.drop i) = (!signed l[i] && idK (l.drop (i + 1))) := by rw [e]; rfl
    have next := ih (i + 1) (by omega)
    rw [hk]
    refine Ev.step (fun _ => by rw [spec_IdentifiersKnown.l0, List.length_map, hr, ofL_size, wrap_nat (by omega)]) (ev_pos (by omega) (ev_pos (by omega) ?_))
    by_cases h1 : 1 < l[i].length
    · refine ev_pos (by omega) (ev_pos (by omega) ?_)
      obtain ⟨c, r, hcr⟩ : ∃ c r, l[i] = c :: r := by
        cases hx : l[i] with
        | nil => rw [hx] at h1; simp at h1
        | cons c r => exact ⟨c, r, rfl⟩
      rw [hcr] at hlen h1 ⊢
      have hb : bt (ofL (c :: r)) 0 = (c.toNat : Int) := bt_ofL (c :: r) 0 (by simp)
      have hx : (ofL (c :: r)).extract 1 (c :: r).length = ofL r := by rw [ofL_extract, List.take_of_length_le (Nat.le_refl _)]; rfl
      have hd := digits_ev r (by simp at hlen; omega)
      have c45 : (c.toNat : Int) = 45 ↔ (c == 45) = true := by
        rw [beq_iff_eq]
        exact ⟨fun h => UInt8.toNat_inj.1 (by have : (45 : UInt8).toNat = 45 := rfl; omega), fun h => by rw [h]; rfl⟩
      have c43 : (c.toNat : Int) = 43 ↔ (c == 43) = true := by
        rw [beq_iff_eq]
        exact ⟨fun h => UInt8.toNat_inj.1 (by have : (43 : UInt8).toNat = 43 := rfl; omega), fun h => by rw [h]; rfl⟩
      simp only [hb, hx]
      by_cases h45 : (c == 45) = true
      · refine ev_pos (c45.2 h45) (ev_pos (by omega) (Ev.bind hd ?_))
        have hsg : signed (c :: r) = allD r := by simp only [signed, h45, Bool.true_or, Bool.true_and]
        rw [hsg]
        cases allD r with
        | true => exact ev_t (ev_now (by simp))
        | false => exact ev_f (by simpa using next)
      · refine ev_neg (fun h => h45 (c45.1 h)) ?_
        by_cases h43 : (c == 43) = true
        · refine ev_pos (c43.2 h43) (ev_pos (by omega) (Ev.bind hd ?_))
          have hsg : signed (c :: r) = allD r := by simp only [signed, h43, Bool.or_true, Bool.true_and]
          rw [hsg]
          cases allD r with
          | true => exact ev_t (ev_now (by simp))
          | false => exact ev_f (by simpa using next)
        · refine ev_neg (fun h => h43 (c43.1 h)) ?_
          have hsg : signed (c :: r) = false := by
            have a : (c == 45) = false := by simpa using h45
            have b : (c == 43) = false := by simpa using h43
            simp only [signed, a, b, Bool.or_false, Bool.false_and]
          rw [hsg]
          simpa using next
    · refine ev_neg (by omega) ?_
      rw [signed_short _ h1]
      simpa using next
theorem ident_ev (l : List (List UInt8)) (hl : l.length ≤ 100000) (hz : ∀ x ∈ l, x.length ≤ 140737488351232) : Ev (fun k => spec_IdentifiersKnown.f k (l.map ofL)) (idK l) := by
  have := ident_l l hl hz l.length 0 (by omega)
  exact this
end Go.Proofs.YtmhlmkefnmdbcaaDoor.Com

namespace Go.Proofs.YtmhlmkefnmdbcaaDoor.Com
open Go.RowKit Go.Proofs.YtmhlmkefnmdbcaaDoor.Z Go.Proofs.YtmhlmkefnmdbcaaDoor.Evs Go.Proofs.YtmhlmkefnmdbcaaDoor.By Go.Proofs.YtmhlmkefnmdbcaaDoorW.PrintWords Go.Proofs.YtmhlmkefnmdbcaaDoorW.PrintLast
set_option linter.unusedVariables false
set_option linter.unusedSimpArgs false

/-- A number of several digits with a zero ahead. -/
def zeroed0 (l : List UInt8) : Bool := decide (1 < l.length) && l.head? == some 48 && allD l
def segK (l : List (List UInt8)) : Bool := l.all (fun x => !zeroed0 x) && idK l
theorem seg_l (l : List (List UInt8)) (hl : l.length ≤ 100000) (hz : ∀ x ∈ l, x.length ≤ 140737488351232) (d : Nat) : ∀ i : Nat, i + d = l.length → Ev (fun k => spec_RubySegmentsKnown.l0 k (l.map ofL) (i : Int)) ((l.drop i).all (fun x => !zeroed0 x) && idK l) := by
  induction d with
  | zero =>
    intro i h
    refine Ev.step (fun _ => by rw [spec_RubySegmentsKnown.l0, List.length_map]) (ev_neg (by omega) (Ev.bind (ident_ev l hl hz) (ev_now ?_)))
    rw [List.drop_of_length_le (by omega)]
    simp
  | succ d ih =>
    intro i h
    have hi : i < l.length := by omega
    have hr := rd_map l i hi
    have hlen := hz _ (List.getElem_mem hi)
    have e : l.drop i = l[i] :: l.drop (i + 1) := List.drop_eq_getElem_cons hi
    have next := ih (i + 1) (by omega)
    rw [e, List.all_cons]
    refine Ev.step (fun _ => by rw [spec_RubySegmentsKnown.l0, List.length_map, hr, ofL_size, wrap_nat (by omega)]) (ev_pos (by omega) (ev_pos (by omega) ?_))
    by_cases h1 : 1 < l[i].length
    · refine ev_pos (by omega) (ev_pos (by omega) ?_)
      obtain ⟨c, r, hcr⟩ : ∃ c r, l[i] = c :: r := by
        cases hx : l[i] with
        | nil => rw [hx] at h1; simp at h1
        | cons c r => exact ⟨c, r, rfl⟩
      rw [hcr] at hlen h1 ⊢
      have hb : bt (ofL (c :: r)) 0 = (c.toNat : Int) := bt_ofL (c :: r) 0 (by simp)
      have hd := digits_ev (c :: r) hlen
      have c48 : (c.toNat : Int) = 48 ↔ c = 48 := ⟨fun h => UInt8.toNat_inj.1 (by have : (48 : UInt8).toNat = 48 := rfl; omega), fun h => by rw [h]; rfl⟩
      simp only [hb]
      by_cases h48 : c = 48
      · refine ev_pos (c48.2 h48) (Ev.bind hd ?_)
        have hsg : zeroed0 (c :: r) = allD (c :: r) := by
          subst h48
          have h2 := decide_eq_true h1
          simp only [zeroed0, List.head?_cons, h2, beq_self_eq_true, Bool.true_and]
        rw [hsg]
        cases allD (c :: r) with
        | true => exact ev_t (ev_now (by simp))
        | false => exact ev_f (by simpa using next)
      · refine ev_neg (fun h => h48 (c48.1 h)) ?_
        have hsg : zeroed0 (c :: r) = false := by
          have : (some c == some (48 : UInt8)) = false := by simpa using h48
          simp only [zeroed0, List.head?_cons, this, Bool.and_false, Bool.false_and]
        rw [hsg]
        simpa using next
    · refine ev_neg (by omega) ?_
      have hsg : zeroed0 l[i] = false := by simp only [zeroed0, decide_eq_false h1, Bool.false_and]
      rw [hsg]
      simpa using next
theorem seg_ev (l : List (List UInt8)) (hl : l.length ≤ 100000) (hz : ∀ x ∈ l, x.length ≤ 140737488351232) : Ev (fun k => spec_RubySegmentsKnown.f k (l.map ofL)) (segK l) := seg_l l hl hz l.length 0 (by omega)
end Go.Proofs.YtmhlmkefnmdbcaaDoor.Com

namespace Go.Proofs.YtmhlmkefnmdbcaaDoor.Com
open Go.RowKit Go.Proofs.YtmhlmkefnmdbcaaDoor.Z Go.Proofs.YtmhlmkefnmdbcaaDoor.Evs Go.Proofs.YtmhlmkefnmdbcaaDoor.By Go.Proofs.YtmhlmkefnmdbcaaDoorW.PrintWords Go.Proofs.YtmhlmkefnmdbcaaDoorW.PrintLast
set_option linter.unusedVariables false
set_option linter.unusedSimpArgs false

theorem canon_false (l : List UInt8) : ∀ pd pd', canonL l false pd = canonL l false pd' := by
  induction l with
  | nil => intro _ _; rfl
  | cons c l ih =>
    intro pd pd'
    by_cases h : c = 46
    · subst h
      rw [canon_dot, canon_dot, ih pd pd']
    · rw [canon_one _ _ _ _ h rfl, canon_one _ _ _ _ h rfl]
theorem canon_idem (l : List UInt8) : ∀ cp pd, canonL (canonL l cp pd) cp pd = canonL l cp pd := by
  induction l with
  | nil => intro _ _; rfl
  | cons c l ih =>
    intro cp pd
    by_cases h : c = 46
    · subst h
      rw [canon_dot, canon_dot, ih]
    · cases h2 : (cp && (pd != digC c)) with
      | true =>
        rw [canon_two _ _ _ _ h h2, canon_dot, canon_one _ _ _ _ h rfl, ih]
      | false =>
        rw [canon_one _ _ _ _ h h2, canon_one _ _ _ _ h h2, ih]
theorem canon_length (l : List UInt8) : ∀ cp pd, (canonL l cp pd).length ≤ 2 * l.length := by
  induction l with
  | nil => intro _ _; simp [canonL]
  | cons c l ih =>
    intro cp pd
    by_cases h : c = 46
    · subst h
      rw [canon_dot]
      have := ih false pd
      simp only [List.length_cons]
      omega
    · have := ih true (digC c)
      cases h2 : (cp && (pd != digC c)) with
      | true =>
        rw [canon_two _ _ _ _ h h2]
        simp only [List.length_cons]
        omega
      | false =>
        rw [canon_one _ _ _ _ h h2]
        simp only [List.length_cons]
        omega
theorem canon_ascii (l : List UInt8) : (∀ c ∈ l, c.toNat < 128) → ∀ cp pd, ∀ c ∈ canonL l cp pd, c.toNat < 128 := by
  induction l with
  | nil => intro _ _ _ c hc; simp [canonL] at hc
  | cons a l ih =>
    intro ha cp pd c hc
    have h0 := ha a (by simp)
    have ih := ih (fun x hx => ha x (by simp [hx]))
    have p46 : (46 : UInt8).toNat < 128 := by decide
    by_cases h : a = 46
    · subst h
      rw [canon_dot] at hc
      rcases List.mem_cons.1 hc with rfl | hc
      · exact p46
      · exact ih _ _ c hc
    · cases h2 : (cp && (pd != digC a)) with
      | true =>
        rw [canon_two _ _ _ _ h h2] at hc
        rcases List.mem_cons.1 hc with rfl | hc
        · exact p46
        · rcases List.mem_cons.1 hc with rfl | hc
          · exact h0
          · exact ih _ _ c hc
      | false =>
        rw [canon_one _ _ _ _ h h2] at hc
        rcases List.mem_cons.1 hc with rfl | hc
        · exact h0
        · exact ih _ _ c hc
theorem c46 (c : UInt8) : (c.toNat : Int) = 46 ↔ c = 46 := ⟨fun h => UInt8.toNat_inj.1 (by have : (46 : UInt8).toNat = 46 := rfl; omega), fun h => by rw [h]; rfl⟩
/-- What stands ahead of a place. -/
def Prev (l : List UInt8) (i : Nat) (cp pd : Bool) : Prop := (i = 0 ∧ cp = false) ∨ (∃ h : i - 1 < l.length, 0 < i ∧ (l[i - 1]'h = 46 ∧ cp = false ∨ ¬ l[i - 1]'h = 46 ∧ cp = true ∧ pd = dg (l[i - 1]'h)))
theorem canon_l (l : List UInt8) (hl : l.length ≤ 100000) (d : Nat) : ∀ (i : Nat) (A : List UInt8) (cp pd : Bool), i + d = l.length → A.length ≤ 2 * i → Prev l i cp pd →
    Ev (fun k => spec_RubyCanonical.l0 k (ofL l) (numsOf A) (i : Int)) (ofL (A ++ canonL (l.drop i) cp pd)) := by
  have hs := ofL_size l
  induction d with
  | zero =>
    intro i A cp pd h ha hp
    refine Ev.step (fun _ => by rw [spec_RubyCanonical.l0]) (ev_neg (by omega) (ev_now ?_))
    rw [List.drop_of_length_le (by omega), strOf_numsOf]
    simp [canonL]
  | succ d ih =>
    intro i A cp pd h ha hp
    have hi : i < l.length := by omega
    have hc := bt_ofL l i hi
    have e : l.drop i = l[i] :: l.drop (i + 1) := List.drop_eq_getElem_cons hi
    have hn := numsOf_length A
    have hw : wrap64 ((i : Int) + 1) = ((i + 1 : Nat) : Int) := wrap_nat (by omega)
    have hd := isDigit_f l[i]
    have next1 : ∀ pd', dg l[i] = pd' → ¬ l[i] = 46 → (cp && (pd != dg l[i])) = false → Ev (fun k => spec_RubyCanonical.l0 k (ofL l) (numsOf A ++ [(l[i].toNat : Int)]) ((i + 1 : Nat) : Int)) (ofL (A ++ canonL (l.drop i) cp pd)) := by
      intro pd' hpd hne hq
      rw [numsOf_one, numsOf_append]
      refine ev_eq (ih (i + 1) (A ++ [l[i]]) true pd' (by omega) (by simp; omega) (Or.inr ⟨by simpa using hi, by omega, Or.inr ⟨by simpa using hne, rfl, by simp [hpd]⟩⟩)) ?_
      rw [e, canon_one _ _ _ _ hne hq, List.append_assoc]
      rw [← hpd]
      rfl
    rcases hp with ⟨rfl, rfl⟩ | ⟨hj, hi0, hp⟩
    · refine Ev.step (fun _ => by rw [spec_RubyCanonical.l0, hc, hw]) (ev_pos (by omega) (ev_neg (by omega) (ev_pos (by omega) (ev_pos (by omega) ?_))))
      by_cases h46 : l[0] = 46
      · rw [numsOf_one, numsOf_append]
        refine ev_eq (ih 1 (A ++ [l[0]]) false pd (by omega) (by simp; omega) (Or.inr ⟨by omega, by omega, Or.inl ⟨h46, rfl⟩⟩)) ?_
        rw [e, h46, canon_dot]
        simp
      · exact next1 _ rfl h46 rfl
    · have hb : bt (ofL l) (wrap64 ((i : Int) - 1)) = (l[i - 1].toNat : Int) := by
        rw [wrap_in (by omega) (by omega), show (i : Int) - 1 = ((i - 1 : Nat) : Int) by omega]
        exact bt_ofL l (i - 1) hj
      have hw1 : wrap64 ((i : Int) - 1) = (i : Int) - 1 := wrap_in (by omega) (by omega)
      refine Ev.step (fun _ => by rw [spec_RubyCanonical.l0, hc, hw, hb, hd, isDigit_f, Option.bind_some, Option.bind_some, Option.bind_some]) (ev_pos (by omega) (ev_pos (by omega) (ev_pos (by omega) ?_)))
      by_cases h46 : l[i] = 46
      · refine ev_pos ((c46 _).2 h46) (ev_pos (by omega) ?_)
        rw [numsOf_one, numsOf_append]
        refine ev_eq (ih (i + 1) (A ++ [l[i]]) false pd (by omega) (by simp; omega) (Or.inr ⟨by simpa using hi, by omega, Or.inl ⟨by simpa using h46, rfl⟩⟩)) ?_
        rw [e, h46, canon_dot]
        simp
      · refine ev_neg (fun hh => h46 ((c46 _).1 hh)) (ev_pos (by omega) (ev_pos (by omega) ?_))
        rcases hp with ⟨hp, rfl⟩ | ⟨hp, rfl, rfl⟩
        · refine ev_pos ((c46 _).2 hp) (ev_pos (by omega) ?_)
          exact next1 _ rfl h46 rfl
        · refine ev_neg (fun hh => hp ((c46 _).1 hh)) ?_
          cases h2 : (dg l[i] != dg l[i - 1]) with
          | true =>
            refine ev_t (ev_pos (by omega) (ev_pos (by rw [List.length_append]; simp; omega) ?_))
            have h3 : (true && (dg l[i - 1] != digC l[i])) = true := by
              rw [Bool.true_and]
              show (dg l[i - 1] != dg l[i]) = true
              rw [← h2]
              cases dg l[i] <;> cases dg l[i - 1] <;> rfl
            have h46n : [(46 : Int)] = numsOf [46] := rfl
            rw [numsOf_one, h46n, numsOf_append, numsOf_append]
            refine ev_eq (ih (i + 1) ((A ++ [46]) ++ [l[i]]) true (dg l[i]) (by omega) (by simp; omega) (Or.inr ⟨by simpa using hi, by omega, Or.inr ⟨by simpa using h46, rfl, by simp⟩⟩)) ?_
            rw [e, canon_two _ _ _ _ h46 h3, List.append_assoc, List.append_assoc]
            rfl
          | false =>
            refine ev_f (ev_pos (by omega) ?_)
            refine next1 _ rfl h46 ?_
            rw [Bool.true_and, ← h2]
            cases dg l[i] <;> cases dg l[i - 1] <;> rfl
theorem canon_ev (l : List UInt8) (hl : l.length ≤ 100000) : Ev (fun k => spec_RubyCanonical.f k (ofL l)) (ofL (canonL l false true)) := by
  have := canon_l l hl l.length 0 [] false true (by omega) (by simp) (Or.inl ⟨rfl, rfl⟩)
  exact this
theorem cutP_sizes (p : UInt8 → Bool) (l : List UInt8) : (cutP p l).length ≤ l.length + 1 ∧ ∀ x ∈ cutP p l, x.length ≤ l.length := by
  induction l with
  | nil => simp [cutP]
  | cons c l ih =>
    unfold cutP
    split
    · constructor
      · simp; omega
      · intro x hx
        rcases List.mem_cons.1 hx with rfl | hx
        · simp
        · have := ih.2 x hx
          simp; omega
    · cases e : cutP p l with
      | nil => exact absurd e (cutP_ne p l)
      | cons y r =>
        rw [e] at ih
        obtain ⟨h1, h2⟩ := ih
        constructor
        · simp at h1 ⊢; omega
        · intro x hx
          rcases List.mem_cons.1 hx with rfl | hx
          · have := h2 y (by simp)
            simp; omega
          · have := h2 x (by simp [hx])
            simp; omega
/-- The pieces of a version's text. -/
def rbPcs (l : List UInt8) : List (List UInt8) := cutP ptB (canonL l false true)
theorem rubyKnown_ev (l : List UInt8) (hl : l.length ≤ 10000) : ∃ r, Ev (fun k => spec_RubyKnown.f k (ofL l)) r ∧ (r = true → (∀ c ∈ l, c.toNat < 128) ∧ segK (rbPcs l) = true) := by
  obtain ⟨b, hb, ha⟩ := ascii_ev (ofL l) (by rw [ofL_size]; omega)
  cases b with
  | false =>
    refine ⟨false, ?_, by simp⟩
    unfold spec_RubyKnown.f
    exact Ev.bind hb (ev_f (ev_now rfl))
  | true =>
    have hlen := canon_length l false true
    obtain ⟨s1, s2⟩ := cutP_sizes ptB (canonL l false true)
    refine ⟨segK (rbPcs l), ?_, fun hr => ⟨fun c hc => ?_, hr⟩⟩
    · unfold spec_RubyKnown.f
      refine Ev.bind hb (ev_t (Ev.bind (canon_ev l (by omega)) (Ev.bind (cut_ev _ (by omega) 42) (Ev.bind (seg_ev _ (by omega) ?_) (ev_now rfl)))))
      intro x hx
      have := s2 x hx
      omega
    · obtain ⟨j, hj, rfl⟩ := List.mem_iff_getElem.1 hc
      exact ha rfl j (by rw [ofL_size]; exact hj)
theorem rbPcs_sizes (l : List UInt8) : (rbPcs l).length ≤ 2 * l.length + 1 ∧ ∀ x ∈ rbPcs l, x.length ≤ 2 * l.length := by
  have hlen := canon_length l false true
  obtain ⟨s1, s2⟩ := cutP_sizes ptB (canonL l false true)
  exact ⟨by unfold rbPcs; omega, fun x hx => by have := s2 x hx; omega⟩
theorem canonF (l : List UInt8) (hl : l.length ≤ 100000) (ha : ∀ c ∈ l, c.toNat < 128) : semantic_canonicalizeRubyGemVersion.f (ofL l) = some (ofL (canonL l false true)) := by
  have h1 : decide (∀ i : Nat, (h : i < (ofL l).size) → ((ofL l)[i]'h).toNat < 128) = true := decide_eq_true fun i h => by
    rw [ofL_get]
    exact ha _ (List.getElem_mem _)
  have h2 : decide ((ofL l).size ≤ 140737488351) = true := decide_eq_true (by rw [ofL_size]; omega)
  unfold semantic_canonicalizeRubyGemVersion.f
  rw [h1, h2]
  rfl
end Go.Proofs.YtmhlmkefnmdbcaaDoor.Com

namespace Go.Proofs.YtmhlmkefnmdbcaaDoor.Com
open Go Go.RowKit Go.Proofs.YtmhlmkefnmdbcaaDoor.Z Go.Proofs.YtmhlmkefnmdbcaaDoor.Evs Go.Proofs.YtmhlmkefnmdbcaaDoor.By Go.Proofs.YtmhlmkefnmdbcaaDoor.Ss Go.Proofs.YtmhlmkefnmdbcaaDoorW.PrintWords Go.Proofs.YtmhlmkefnmdbcaaDoorW.PrintLast
set_option linter.unusedVariables false
set_option linter.unusedSimpArgs false

/-- How many segments stay. -/
def tz (l : List ByteArray) : Nat → Nat
  | 0 => 0
  | n + 1 => if (l.getD n ByteArray.empty).toList = ([48] : List UInt8) then tz l n else n + 1
theorem tz_le (l : List ByteArray) : ∀ n, tz l n ≤ n
  | 0 => Nat.le_refl _
  | n + 1 => by
    unfold tz
    split
    · exact Nat.le_succ_of_le (tz_le l n)
    · exact Nat.le_refl _
theorem zeros_l (l : List ByteArray) (hl : l.length ≤ 1000000) : ∀ n : Nat, n ≤ l.length → Ev (fun k => semantic_removeZeros.l0 k l ((n : Int) - 1)) (l.take (tz l n))
  | 0, _ => by
    have h : ((0 : Nat) : Int) - 1 = -1 := by omega
    have hm : mx (-1 : Int) 0 = 0 := by unfold mx; simp
    rw [h]
    refine Ev.step (fun _ => by rw [semantic_removeZeros.l0, hm]) (ev_neg (by omega) (ev_pos (by omega) (ev_pos (by omega) (ev_now ?_))))
    rfl
  | n + 1, hn => by
    have h : ((n + 1 : Nat) : Int) - 1 = (n : Int) := by omega
    have hw : wrap64 ((n : Int) + 1) = ((n + 1 : Nat) : Int) := wrap_nat (by omega)
    have hw2 : wrap64 ((n : Int) - 1) = (n : Int) - 1 := wrap_in (by omega) (by omega)
    have hm : mx ((n + 1 : Nat) : Int) 0 = ((n + 1 : Nat) : Int) := by unfold mx; rw [if_neg (by omega)]
    rw [h]
    unfold tz
    by_cases c : (l.getD n ByteArray.empty).toList = ([48] : List UInt8)
    · rw [if_pos c]
      exact Ev.step (fun _ => by rw [semantic_removeZeros.l0, rdOf_nat, hw2]) (ev_pos (by omega) (ev_pos (by omega) (ev_pos (by omega) (ev_pos c (zeros_l l hl n (by omega))))))
    · rw [if_neg c]
      refine Ev.step (fun _ => by rw [semantic_removeZeros.l0, rdOf_nat, hw, hm]) (ev_pos (by omega) (ev_pos (by omega) (ev_pos (by omega) (ev_neg c (ev_pos (by omega) (ev_pos (by omega) (ev_now ?_)))))))
      rfl
theorem zeros_f (l : List ByteArray) (hl : l.length ≤ 1000000) : Ev (fun k => semantic_removeZeros.f k l) (l.take (tz l l.length)) := by
  unfold semantic_removeZeros.f
  rw [wrap_in (by omega) (by omega)]
  exact zeros_l l hl l.length (Nat.le_refl _)
theorem dig_sg {l : List UInt8} (h : allD l = true) : sgN (ofL l) = 0 ∧ sgB (ofL l) = false := by
  cases l with
  | nil => cases h
  | cons c r =>
    have h0 : 0 < (ofL (c :: r)).size := by rw [ofL_size]; simp
    have hg : (ofL (c :: r))[0]'h0 = c := rfl
    have hd : dg c = true := by
      unfold allD at h
      rw [Bool.and_eq_true] at h
      exact List.all_eq_true.1 h.1 c (by simp)
    have h1 : ¬ c = 45 := fun e => by subst e; revert hd; decide
    have h2 : ¬ c = 43 := fun e => by subst e; revert hd; decide
    unfold sgN sgB
    rw [dif_pos h0, dif_pos h0, hg, if_neg (by simp [h1, h2])]
    exact ⟨rfl, beq_eq_false_iff_ne.2 h1⟩
theorem cvt_digits {l : List UInt8} (h : allD l = true) : cvt (ofL l) = some (Bv.decV l) := by
  obtain ⟨h1, h2⟩ := dig_sg h
  have hb := h
  unfold allD at hb
  rw [Bool.and_eq_true] at hb
  have hl : 0 < l.length := of_decide_eq_true hb.2
  unfold cvt
  rw [h1, h2, bl_ofL, List.drop_zero, if_pos ⟨fun e => by rw [e] at hl; simp at hl, hb.1⟩]
  rfl
theorem cvt_other {l : List UInt8} (h : allD l = false) (hs : signed l = false) : cvt (ofL l) = none := by
  refine if_neg ?_
  rw [bl_ofL]
  rintro ⟨h1, h2⟩
  cases l with
  | nil => exact h1 (by simp)
  | cons c r =>
    have h0 : 0 < (ofL (c :: r)).size := by rw [ofL_size]; simp
    have hg : (ofL (c :: r))[0]'h0 = c := rfl
    have hn : sgN (ofL (c :: r)) = if c = 45 ∨ c = 43 then 1 else 0 := by
      unfold sgN
      rw [dif_pos h0, hg]
    rw [hn] at h1 h2
    by_cases hc : c = 45 ∨ c = 43
    · rw [if_pos hc] at h1 h2
      have e : signed (c :: r) = allD r := by
        have : (c == 45 || c == 43) = true := by
          rcases hc with rfl | rfl <;> rfl
        simp only [signed, this, Bool.true_and]
      rw [e] at hs
      unfold allD at hs
      have h3 : r.all dg = true := h2
      have h4 : 0 < r.length := List.length_pos_iff.2 h1
      rw [h3, decide_eq_true h4] at hs
      cases hs
    · rw [if_neg hc] at h1 h2
      unfold allD at h
      have h3 : (c :: r).all dg = true := h2
      rw [h3, decide_eq_true (by simp)] at h
      cases h
theorem qB_range : ∀ a b : List UInt8, Lib.compareBytes a b = -1 ∨ Lib.compareBytes a b = 0 ∨ Lib.compareBytes a b = 1
  | [], [] => .inr (.inl rfl)
  | [], _ :: _ => .inl rfl
  | _ :: _, [] => .inr (.inr rfl)
  | x :: a, y :: b => by
    rw [Lib.compareBytes]
    split
    · exact .inl rfl
    · split
      · exact .inr (.inr rfl)
      · exact qB_range a b
theorem qB_anti : ∀ a b : List UInt8, Lib.compareBytes b a = -Lib.compareBytes a b
  | [], [] => rfl
  | [], _ :: _ => rfl
  | _ :: _, [] => rfl
  | x :: a, y :: b => by
    rw [Lib.compareBytes, Lib.compareBytes, qB_anti a b]
    by_cases h : x < y
    · have h2 : ¬ y < x := fun h2 => by have h : x.toNat < y.toNat := h; have h2 : y.toNat < x.toNat := h2; omega
      rw [if_pos h, if_neg h2, if_pos h]; rfl
    · by_cases h2 : y < x
      · rw [if_pos h2, if_neg h, if_pos h2]
      · rw [if_neg h2, if_neg h, if_neg h, if_neg h2]
theorem cmpZ_range (a b : Int) : Bn.cmpZ a b = -1 ∨ Bn.cmpZ a b = 0 ∨ Bn.cmpZ a b = 1 := by
  unfold Bn.cmpZ
  split
  · simp
  · split <;> simp
theorem cmpZ_anti (a b : Int) : Bn.cmpZ b a = -Bn.cmpZ a b := by
  unfold Bn.cmpZ
  rcases Int.lt_trichotomy a b with h | h | h
  · rw [if_neg (by omega), if_pos h, if_pos h]
    rfl
  · rw [if_neg (by omega), if_neg (by omega), if_neg (by omega), if_neg (by omega)]
    rfl
  · rw [if_pos h, if_neg (by omega), if_pos h]
theorem rbC_range (x y : ByteArray) : rbC x y = -1 ∨ rbC x y = 0 ∨ rbC x y = 1 := by
  unfold rbC
  split
  · exact cmpZ_range _ _
  · exact qB_range _ _
  · simp
  · simp
theorem rbC_anti (x y : ByteArray) : rbC y x = -rbC x y := by
  unfold rbC
  cases cvt x <;> cases cvt y
  · exact qB_anti _ _
  · rfl
  · rfl
  · exact cmpZ_anti _ _
theorem rbsC_range : ∀ l r : List ByteArray, rbsC l r = -1 ∨ rbsC l r = 0 ∨ rbsC l r = 1
  | [], [] => .inr (.inl (by rw [rbsC]))
  | x :: l, [] => by
    rw [rbsC]
    split
    · exact rbsC_range l []
    · exact rbC_range _ _
  | [], y :: r => by
    rw [rbsC]
    split
    · exact rbsC_range [] r
    · exact rbC_range _ _
  | x :: l, y :: r => by
    rw [rbsC]
    split
    · exact rbsC_range l r
    · exact rbC_range _ _
theorem rbsC_anti : ∀ l r : List ByteArray, rbsC r l = -rbsC l r
  | [], [] => by rw [rbsC]; rfl
  | x :: l, [] => by
    rw [rbsC, rbsC, rbC_anti x rbZ]
    by_cases h : rbC x rbZ = 0
    · rw [if_pos h, if_pos (by omega), rbsC_anti l []]
    · rw [if_neg h, if_neg (by omega)]
  | [], y :: r => by
    rw [rbsC, rbsC, rbC_anti rbZ y]
    by_cases h : rbC rbZ y = 0
    · rw [if_pos h, if_pos (by omega), rbsC_anti [] r]
    · rw [if_neg h, if_neg (by omega)]
  | x :: l, y :: r => by
    rw [rbsC, rbsC, rbC_anti x y]
    by_cases h : rbC x y = 0
    · rw [if_pos h, if_pos (by omega), rbsC_anti l r]
    · rw [if_neg h, if_neg (by omega)]
/-- A list without its zeros at the end. -/
def trimZ (l : List ByteArray) : List ByteArray := l.take (tz l l.length)
theorem trimZ_sub (l : List ByteArray) : ∀ x ∈ trimZ l, x ∈ l := fun x hx => List.mem_of_mem_take hx
theorem trimZ_len (l : List ByteArray) : (trimZ l).length ≤ l.length := by
  unfold trimZ
  rw [List.length_take]
  omega
/-- The segments of a version's text. -/
def rbSg (ps : List ByteArray) : List ByteArray := trimZ (ps.takeWhile rbN) ++ trimZ (ps.dropWhile rbN)
def rbS (l : List UInt8) : List ByteArray := rbSg ((rbPcs l).map ofL)
theorem rbSg_sub (ps : List ByteArray) : ∀ x ∈ rbSg ps, x ∈ ps := by
  intro x hx
  rcases List.mem_append.1 hx with hx | hx
  · exact (List.takeWhile_sublist _).subset (trimZ_sub _ x hx)
  · exact (List.dropWhile_sublist _).subset (trimZ_sub _ x hx)
theorem tw_len (ps : List ByteArray) : (ps.takeWhile rbN).length ≤ ps.length ∧ (ps.dropWhile rbN).length ≤ ps.length := ⟨(List.takeWhile_sublist _).length_le, (List.dropWhile_sublist _).length_le⟩
theorem rbSg_len (ps : List ByteArray) : (rbSg ps).length ≤ 2 * ps.length := by
  have h1 := trimZ_len (ps.takeWhile rbN)
  have h2 := trimZ_len (ps.dropWhile rbN)
  obtain ⟨h3, h4⟩ := tw_len ps
  unfold rbSg
  rw [List.length_append]
  omega
theorem rbS_fit (l : List UInt8) (hl : l.length ≤ 10000) : rbFit ((rbPcs l).map ofL) = true ∧ rbFit (rbS l) = true := by
  obtain ⟨s1, s2⟩ := rbPcs_sizes l
  have h1 : ∀ x ∈ (rbPcs l).map ofL, x.size ≤ 1000000 := by
    intro x hx
    obtain ⟨y, hy, rfl⟩ := List.mem_map.1 hx
    rw [ofL_size]
    have := s2 y hy
    omega
  refine ⟨List.all_eq_true.2 fun x hx => decide_eq_true (h1 x hx), List.all_eq_true.2 fun x hx => decide_eq_true (h1 x (rbSg_sub _ x hx))⟩
theorem canonSegs_ev (l : List UInt8) (hl : l.length ≤ 10000) : Ev (fun k => semantic_canonicalSegments.f k ((rbPcs l).map ofL)) (rbS l) := by
  obtain ⟨s1, s2⟩ := rbPcs_sizes l
  have hm : ((rbPcs l).map ofL).length = (rbPcs l).length := List.length_map ..
  obtain ⟨h3, h4⟩ := tw_len ((rbPcs l).map ofL)
  have hg : semantic_groupSegments.f ((rbPcs l).map ofL) = some (((rbPcs l).map ofL).takeWhile rbN, ((rbPcs l).map ofL).dropWhile rbN) := by
    unfold semantic_groupSegments.f
    rw [(rbS_fit l hl).1, decide_eq_true (by omega)]
    rfl
  have h5 := trimZ_len (((rbPcs l).map ofL).takeWhile rbN)
  have h6 := trimZ_len (((rbPcs l).map ofL).dropWhile rbN)
  unfold semantic_canonicalSegments.f
  rw [hg]
  refine ev_some ?_
  refine Ev.bind (zeros_f _ (by show (List.takeWhile rbN _).length ≤ _; omega)) (Ev.bind (zeros_f _ (by show (List.dropWhile rbN _).length ≤ _; omega)) (ev_pos ?_ (ev_now rfl)))
  show (trimZ (((rbPcs l).map ofL).takeWhile rbN)).length + (trimZ (((rbPcs l).map ofL).dropWhile rbN)).length < _
  omega
theorem splitF (l : List UInt8) (hl : l.length ≤ 10000) : semantic_zzSplit.f (ofL (canonL l false true)) (⟨#[46]⟩ : ByteArray) = some ((rbPcs l).map ofL) := by
  have hlen := canon_length l false true
  unfold semantic_zzSplit.f
  rw [if_pos ⟨by rw [ofL_size]; omega, rfl⟩, bl_ofL]
  rfl
theorem implParse_ev (l : List UInt8) (hl : l.length ≤ 10000) (ha : ∀ c ∈ l, c.toNat < 128) : Ev (fun k => semantic_ParseRubyGemsVersion.f k (ofL l)) (ofL l, rbS l) := by
  unfold semantic_ParseRubyGemsVersion.f
  rw [canonF l (by omega) ha]
  refine ev_some ?_
  show Ev (fun k => (semantic_zzSplit.f (ofL (canonL l false true)) (⟨#[46]⟩ : ByteArray)).bind fun t126 => (semantic_canonicalSegments.f k t126).bind fun t129 => some (ofL l, t129)) _
  rw [splitF l hl]
  refine ev_some ?_
  exact Ev.bind (canonSegs_ev l hl) (ev_now rfl)
theorem rbCompF (o o' : ByteArray) (x y : List ByteArray) (hx : rbFit x = true) (hy : rbFit y = true) : semantic_RubyGemsVersion_compare.f o x o' y = some (rbsC x y) := by
  unfold semantic_RubyGemsVersion_compare.f semantic_compareRubyGemsComponents.f
  rw [hx, hy]
  rfl
theorem implCmp_ev (a b : List UInt8) (ha : a.length ≤ 10000) (hb : b.length ≤ 10000) (ka : ∀ c ∈ a, c.toNat < 128) (kb : ∀ c ∈ b, c.toNat < 128) : Ev (fun k => impl_RubyCompare.f k (ofL a) (ofL b)) (rbsC (rbS a) (rbS b), true) := by
  unfold impl_RubyCompare.f
  refine Ev.bind (implParse_ev a ha ka) (Ev.bind (implParse_ev b hb kb) ?_)
  show Ev (fun k => (semantic_RubyGemsVersion_compare.f (ofL a) (rbS a) (ofL b) (rbS b)).bind fun t => some (t, true)) _
  rw [rbCompF _ _ _ _ (rbS_fit a ha).2 (rbS_fit b hb).2]
  exact ev_now rfl
end Go.Proofs.YtmhlmkefnmdbcaaDoor.Com

namespace Go.Proofs.YtmhlmkefnmdbcaaDoor.Com
open Go.RowKit Go.Proofs.YtmhlmkefnmdbcaaDoor.Z Go.Proofs.YtmhlmkefnmdbcaaDoor.Evs Go.Proofs.YtmhlmkefnmdbcaaDoorW.PrintWords Go.Proofs.YtmhlmkefnmdbcaaDoorW.PrintLast
set_option linter.unusedVariables false
set_option linter.unusedSimpArgs false

/-- short: an answer; where it is true the list is short and its texts are. -/
theorem short_l (l : List ByteArray) (hl : (l.length : Int) < 9223372036854775807) (d : Nat) : ∀ i : Nat, i + d = l.length →
    ∃ b, Ev (fun k => laws_short.l0 k l l (l.length : Int) (i : Int)) b ∧ (b = true → l.length ≤ 150 ∧ ∀ j, i ≤ j → j < l.length → (l.getD j ByteArray.empty).size ≤ 1500) := by
  induction d with
  | zero =>
    intro i h
    exact ⟨_, Ev.step (fun _ => by rw [laws_short.l0]) (ev_neg (by omega) (Ev.now _)), fun hb => ⟨by simp at hb; omega, fun j h1 h2 => by omega⟩⟩
  | succ d ih =>
    intro i h
    obtain ⟨b, hb, hq⟩ := ih (i + 1) (by omega)
    by_cases c : ((rdOf ByteArray.empty l (i : Int)).size : Int) > 1500
    · exact ⟨false, Ev.step (fun _ => by rw [laws_short.l0]) (ev_pos (by omega) (ev_pos (by omega) (ev_pos (by omega) (ev_pos c (Ev.now _))))), fun h => by cases h⟩
    · refine ⟨b, Ev.step (fun _ => by rw [laws_short.l0, wrap_nat (by omega)]) (ev_pos (by omega) (ev_pos (by omega) (ev_pos (by omega) (ev_neg c hb)))), fun h => ⟨(hq h).1, fun j h1 h2 => ?_⟩⟩
      by_cases e : j = i
      · subst e; rw [rdOf_nat] at c; omega
      · exact (hq h).2 j (by omega) h2
theorem short_ev (l : List ByteArray) (hl : (l.length : Int) < 9223372036854775807) : ∃ b, Ev (fun k => laws_short.f k l) b ∧ (b = true → l.length ≤ 150 ∧ ∀ j, j < l.length → (l.getD j ByteArray.empty).size ≤ 1500) := by
  obtain ⟨b, hb, hq⟩ := short_l l hl l.length 0 (by omega)
  exact ⟨b, hb, fun h => ⟨(hq h).1, fun j hj => (hq h).2 j (by omega) hj⟩⟩

theorem short2 (a b : ByteArray) : ∃ r, Ev (fun k => laws_short.f k [a, b]) r ∧ (r = true → a.size ≤ 1500 ∧ b.size ≤ 1500) := by
  obtain ⟨r, hr, hq⟩ := short_ev [a, b] (by simp)
  exact ⟨r, hr, fun h => ⟨(hq h).2 0 (by simp), (hq h).2 1 (by simp)⟩⟩
theorem short1 (a : ByteArray) : ∃ r, Ev (fun k => laws_short.f k [a]) r ∧ (r = true → a.size ≤ 1500) := by
  obtain ⟨r, hr, hq⟩ := short_ev [a] (by simp)
  exact ⟨r, hr, fun h => (hq h).2 0 (by simp)⟩
theorem short3 (a b c : ByteArray) : ∃ r, Ev (fun k => laws_short.f k [a, b, c]) r ∧ (r = true → a.size ≤ 1500 ∧ b.size ≤ 1500 ∧ c.size ≤ 1500) := by
  obtain ⟨r, hr, hq⟩ := short_ev [a, b, c] (by simp)
  exact ⟨r, hr, fun h => ⟨(hq h).2 0 (by simp), (hq h).2 1 (by simp), (hq h).2 2 (by simp)⟩⟩
theorem short4 (a b c d : ByteArray) : ∃ r, Ev (fun k => laws_short.f k [a, b, c, d]) r ∧ (r = true → a.size ≤ 1500 ∧ b.size ≤ 1500 ∧ c.size ≤ 1500 ∧ d.size ≤ 1500) := by
  obtain ⟨r, hr, hq⟩ := short_ev [a, b, c, d] (by simp)
  exact ⟨r, hr, fun h => ⟨(hq h).2 0 (by simp), (hq h).2 1 (by simp), (hq h).2 2 (by simp), (hq h).2 3 (by simp)⟩⟩
end Go.Proofs.YtmhlmkefnmdbcaaDoor.Com

namespace Go.Proofs.YtmhlmkefnmdbcaaDoor.Com
open Go.RowKit Go.Proofs.YtmhlmkefnmdbcaaDoor.Z Go.Proofs.YtmhlmkefnmdbcaaDoor.Evs Go.Proofs.YtmhlmkefnmdbcaaDoor.By Go.Proofs.YtmhlmkefnmdbcaaDoorW.PrintWords Go.Proofs.YtmhlmkefnmdbcaaDoorW.PrintLast
set_option linter.unusedVariables false
set_option linter.unusedSimpArgs false

theorem plain_eq (a c : UInt8) : ((a.toNat : Int) == (c.toNat : Int)) = (a == c) := by
  rw [Bool.eq_iff_iff, beq_iff_eq, beq_iff_eq]
  exact ⟨fun h => UInt8.toNat_inj.1 (by omega), fun h => by rw [h]⟩
/-- The inner loop: is the byte one of those told, or was it good already. -/
theorem plain_1 (s m : List UInt8) (hm : m.length ≤ 1000) (i : Nat) (c : UInt8) (r : Bool) (hno : Ev (fun k => laws_plain.l0 k (ofL s) (ofL m) (wrap64 ((i : Int) + 1))) r) (d : Nat) :
    ∀ (j : Nat) (b : Bool), j + d = m.length → Ev (fun k => laws_plain.l1 k (ofL s) (ofL m) (i : Int) (c.toNat : Int) b (j : Int)) ((b || (m.drop j).contains c) && r) := by
  have hs := ofL_size m
  induction d with
  | zero =>
    intro j b h
    refine Ev.step (fun _ => by rw [laws_plain.l1]) (ev_neg (by omega) ?_)
    rw [List.drop_of_length_le (by omega)]
    cases b with
    | true => exact ev_t (by simpa using hno)
    | false => exact ev_f (ev_now (by simp))
  | succ d ih =>
    intro j b h
    have hj : j < m.length := by omega
    have hc := bt_ofL m j hj
    have e : m.drop j = m[j] :: m.drop (j + 1) := List.drop_eq_getElem_cons hj
    refine Ev.step (fun _ => by rw [laws_plain.l1, hc, plain_eq, wrap_nat (by omega)]) (ev_pos (by omega) ?_)
    cases b with
    | true =>
      refine ev_t ?_
      have := ih (j + 1) true (by omega)
      simpa using this
    | false =>
      refine ev_f (ev_pos (by omega) ?_)
      have := ih (j + 1) (c == m[j]) (by omega)
      rw [e, List.contains_cons]
      simpa using this
def plainC (m : List UInt8) (c : UInt8) : Bool := dg c || lt c || m.contains c
theorem plain_l (s m : List UInt8) (hs0 : s.length ≤ 140737488351232) (hm : m.length ≤ 1000) (d : Nat) : ∀ i : Nat, i + d = s.length → Ev (fun k => laws_plain.l0 k (ofL s) (ofL m) (i : Int)) ((s.drop i).all (plainC m) && !s.isEmpty) := by
  have hs := ofL_size s
  induction d with
  | zero =>
    intro i h
    refine Ev.step (fun _ => by rw [laws_plain.l0]) (ev_neg (by omega) (ev_now ?_))
    rw [List.drop_of_length_le (by omega), toList_ofL]
    simp
  | succ d ih =>
    intro i h
    have hi : i < s.length := by omega
    have hc := bt_ofL s i hi
    have hw : wrap64 ((i : Int) + 1) = ((i + 1 : Nat) : Int) := wrap_nat (by omega)
    have nx := ih (i + 1) (by omega)
    rw [← hw] at nx
    have inner : ∀ b : Bool, b = (dg s[i] || lt s[i]) → Ev (fun k => laws_plain.j1 k (ofL s) (ofL m) (i : Int) (s[i].toNat : Int) b) ((s.drop i).all (plainC m) && !s.isEmpty) := by
      intro b hb
      refine Ev.step (fun _ => by rw [laws_plain.j1]) ?_
      have := plain_1 s m hm i s[i] _ nx m.length 0 b (by omega)
      rw [List.drop_zero] at this
      rw [List.drop_eq_getElem_cons hi, List.all_cons, plainC, ← hb, Bool.and_assoc]
      exact this
    refine Ev.step (fun _ => by rw [laws_plain.l0, hc]) (ev_pos (by omega) (ev_pos (by omega) ?_))
    have low : ∀ (b : Bool), dg s[i] = false → (¬ (97 ≤ s[i].toNat ∧ s[i].toNat ≤ 122)) → Ev (fun k => if (s[i].toNat : Int) ≥ 65 then (laws_plain.j1 k (ofL s) (ofL m) (i : Int) (s[i].toNat : Int) (decide ((s[i].toNat : Int) ≤ 90))) else (laws_plain.j1 k (ofL s) (ofL m) (i : Int) (s[i].toNat : Int) false)) ((s.drop i).all (plainC m) && !s.isEmpty) := by
      intro _ h1 h2
      by_cases c : (s[i].toNat : Int) ≥ 65
      · refine ev_pos c (inner _ ?_)
        rw [h1, Bool.false_or, lt, decide_eq_decide]
        omega
      · refine ev_neg c (inner _ ?_)
        rw [h1, Bool.false_or, lt]
        symm
        rw [decide_eq_false_iff_not]
        omega
    have mid : dg s[i] = false → Ev (fun k => if (s[i].toNat : Int) ≥ 97 then (if (s[i].toNat : Int) ≤ 122 then (laws_plain.j1 k (ofL s) (ofL m) (i : Int) (s[i].toNat : Int) true) else (if (s[i].toNat : Int) ≥ 65 then (laws_plain.j1 k (ofL s) (ofL m) (i : Int) (s[i].toNat : Int) (decide ((s[i].toNat : Int) ≤ 90))) else (laws_plain.j1 k (ofL s) (ofL m) (i : Int) (s[i].toNat : Int) false))) else (if (s[i].toNat : Int) ≥ 65 then (laws_plain.j1 k (ofL s) (ofL m) (i : Int) (s[i].toNat : Int) (decide ((s[i].toNat : Int) ≤ 90))) else (laws_plain.j1 k (ofL s) (ofL m) (i : Int) (s[i].toNat : Int) false))) ((s.drop i).all (plainC m) && !s.isEmpty) := by
      intro h1
      by_cases c : (s[i].toNat : Int) ≥ 97
      · refine ev_pos c ?_
        by_cases c2 : (s[i].toNat : Int) ≤ 122
        · refine ev_pos c2 (inner _ ?_)
          rw [h1, Bool.false_or, lt, decide_eq_true (by omega)]
        · exact ev_neg c2 (low true h1 (by omega))
      · exact ev_neg c (low true h1 (by omega))
    by_cases c : (s[i].toNat : Int) ≥ 48
    · refine ev_pos c ?_
      by_cases c2 : (s[i].toNat : Int) ≤ 57
      · refine ev_pos c2 (inner _ ?_)
        rw [dg, decide_eq_true (by omega), Bool.true_or]
      · exact ev_neg c2 (mid (by rw [dg]; exact decide_eq_false (by omega)))
    · exact ev_neg c (mid (by rw [dg]; exact decide_eq_false (by omega)))
theorem plain_ev (s m : List UInt8) (hs0 : s.length ≤ 140737488351232) (hm : m.length ≤ 1000) : Ev (fun k => laws_plain.f k (ofL s) (ofL m)) (s.all (plainC m) && !s.isEmpty) := plain_l s m hs0 hm s.length 0 (by omega)
end Go.Proofs.YtmhlmkefnmdbcaaDoor.Com

namespace Go.Proofs.YtmhlmkefnmdbcaaDoor.Pure
open Go.RowKit Go.Proofs.YtmhlmkefnmdbcaaDoor.Z Go.Proofs.YtmhlmkefnmdbcaaDoor.Evs Go.Proofs.YtmhlmkefnmdbcaaDoor.By Go.Proofs.YtmhlmkefnmdbcaaDoor.Com Go.Proofs.YtmhlmkefnmdbcaaDoorW.PrintWords Go.Proofs.YtmhlmkefnmdbcaaDoorW.PrintLast
set_option linter.unusedVariables false
set_option linter.unusedSimpArgs false

theorem rbC_refl (x : ByteArray) : rbC x x = 0 := by
  have := rbC_anti x x
  omega
theorem rbsC_refl (l : List ByteArray) : rbsC l l = 0 := by
  have := rbsC_anti l l
  omega
theorem rbsC_pre : ∀ X a b : List ByteArray, rbsC (X ++ a) (X ++ b) = rbsC a b
  | [], _, _ => rfl
  | x :: X, a, b => by rw [List.cons_append, List.cons_append, rbsC, if_pos (rbC_refl x), rbsC_pre X a b]
theorem rbZ_ofL : rbZ = ofL [48] := rfl
theorem cvt_Z : Ss.cvt rbZ = some 0 := by
  rw [rbZ_ofL, cvt_digits (by decide)]
  rfl
theorem tz_pre (P : List ByteArray) (x : ByteArray) : ∀ n, n ≤ P.length → tz (P ++ [x]) n = tz P n
  | 0, _ => rfl
  | n + 1, h => by
    have ih := tz_pre P x n (by omega)
    have e : (P ++ [x]).getD n ByteArray.empty = P.getD n ByteArray.empty := by
      rw [List.getD_eq_getElem?_getD, List.getD_eq_getElem?_getD, List.getElem?_append_left (by omega)]
    rw [tz, tz, e, ih]
theorem toL_Z (x : ByteArray) : x.toList = ([48] : List UInt8) ↔ x = rbZ := by
  have hz : rbZ.toList = ([48] : List UInt8) := by rw [rbZ_ofL, toList_ofL]
  exact ⟨fun h => toList_inj (h.trans hz.symm), fun h => by rw [h, hz]⟩
theorem trimZ_snoc (P : List ByteArray) (x : ByteArray) : trimZ (P ++ [x]) = if x = rbZ then trimZ P else P ++ [x] := by
  have hl : (P ++ [x]).length = P.length + 1 := by simp
  have hg : (P ++ [x]).getD P.length ByteArray.empty = x := by
    rw [List.getD_eq_getElem?_getD, List.getElem?_append_right (Nat.le_refl _), Nat.sub_self]
    rfl
  unfold trimZ
  rw [hl, tz, hg]
  by_cases h : x = rbZ
  · rw [if_pos ((toL_Z x).2 h), if_pos h, tz_pre P x _ (Nat.le_refl _), List.take_append_of_le_length (tz_le P _)]
  · rw [if_neg (fun hh => h ((toL_Z x).1 hh)), if_neg h, ← hl, List.take_length]
theorem trimZ_rep : ∀ (n : Nat) (l : List ByteArray), l.length = n → ∃ k, l = trimZ l ++ List.replicate k rbZ
  | 0, l, h => by
    obtain rfl : l = [] := List.eq_nil_of_length_eq_zero h
    exact ⟨0, rfl⟩
  | n + 1, l, h => by
    rcases List.eq_nil_or_concat l with rfl | ⟨P, x, rfl⟩
    · simp at h
    · rw [List.concat_eq_append] at h ⊢
      rw [trimZ_snoc]
      by_cases hx : x = rbZ
      · obtain ⟨k, hk⟩ := trimZ_rep n P (by simpa using h)
        rw [if_pos hx, hx]
        refine ⟨k + 1, ?_⟩
        conv => lhs; rw [hk]
        rw [List.replicate_succ', List.append_assoc]
      · rw [if_neg hx]
        exact ⟨0, by simp⟩
theorem tail_lt {w : ByteArray} (hw : Ss.cvt w = none) : ∀ k, rbsC (List.replicate k rbZ ++ [w]) [] = -1
  | 0 => by
    have e : rbC w rbZ = -1 := by
      unfold rbC
      rw [hw, cvt_Z]
    rw [List.replicate_zero, List.nil_append, rbsC, e, if_neg (by decide)]
  | k + 1 => by rw [List.replicate_succ, List.cons_append, rbsC, if_pos (rbC_refl rbZ), tail_lt hw k]
theorem rbN_Z : rbN rbZ = true := by
  unfold rbN
  rw [cvt_Z]
  rfl
theorem sg_num (p : List ByteArray) : rbSg (p ++ [rbZ]) = rbSg p := by
  unfold rbSg
  by_cases h : p.dropWhile rbN = []
  · obtain ⟨h1, h2⟩ := rb_yes p rbZ h rbN_Z
    rw [h1, h2, h, trimZ_snoc, if_pos rfl]
  · obtain ⟨h1, h2⟩ := rb_more p rbZ h
    rw [h1, h2, trimZ_snoc, if_pos rfl]
theorem tw_word (p : List ByteArray) (w : ByteArray) (hw : rbN w = false) : (p ++ [w]).takeWhile rbN = p.takeWhile rbN ∧ (p ++ [w]).dropWhile rbN = p.dropWhile rbN ++ [w] := by
  by_cases h : p.dropWhile rbN = []
  · obtain ⟨h1, h2⟩ := rb_no p w h hw
    exact ⟨h1, by rw [h2, h]; rfl⟩
  · exact rb_more p w h
theorem sg_word (p : List ByteArray) (w : ByteArray) (hw : rbN w = false) (hz : w ≠ rbZ) : rbSg (p ++ [w]) = trimZ (p.takeWhile rbN) ++ (p.dropWhile rbN ++ [w]) := by
  obtain ⟨h1, h2⟩ := tw_word p w hw
  unfold rbSg
  rw [h1, h2, trimZ_snoc, if_neg hz]
theorem sg_two (p : List ByteArray) (w d : ByteArray) (hw : rbN w = false) (hz : w ≠ rbZ) : rbSg ((p ++ [w]) ++ [d]) = (trimZ (p.takeWhile rbN) ++ (p.dropWhile rbN ++ [w])) ++ (if d = rbZ then [] else [d]) := by
  obtain ⟨h1, h2⟩ := tw_word p w hw
  obtain ⟨h3, h4⟩ := rb_more (p ++ [w]) d (by rw [h2]; simp)
  unfold rbSg
  rw [h3, h4, h1, h2, trimZ_snoc]
  by_cases h : d = rbZ
  · rw [if_pos h, if_pos h, trimZ_snoc, if_neg hz, List.append_nil]
  · rw [if_neg h, if_neg h, List.append_assoc, List.append_assoc, List.append_assoc]
theorem word_lt (p : List ByteArray) (w : ByteArray) (hw : Ss.cvt w = none) : rbsC (rbSg (p ++ [w])) (rbSg p) = -1 := by
  have hn : rbN w = false := by unfold rbN; rw [hw]; rfl
  have hz : w ≠ rbZ := fun e => by rw [e, cvt_Z] at hw; cases hw
  rw [sg_word p w hn hz]
  unfold rbSg
  rw [rbsC_pre]
  obtain ⟨k, hk⟩ := trimZ_rep _ (p.dropWhile rbN) rfl
  have e : p.dropWhile rbN ++ [w] = trimZ (p.dropWhile rbN) ++ (List.replicate k rbZ ++ [w]) := by
    conv => lhs; rw [hk]
    rw [List.append_assoc]
  have e2 : trimZ (p.dropWhile rbN) = trimZ (p.dropWhile rbN) ++ [] := (List.append_nil _).symm
  rw [e]
  conv => lhs; arg 2; rw [e2]
  rw [rbsC_pre, tail_lt hw k]
/-! digits -/
theorem dig_one : ∀ m : Fin 10, dg (UInt8.ofNat (48 + m.val)) = true ∧ Bv.dv (UInt8.ofNat (48 + m.val)) = (m.val : Int) := by decide
theorem dec_facts (n : Nat) : (decB n).all dg = true ∧ Bv.decV (decB n) = (n : Int) ∧ decB n ≠ [] := by
  induction n using Nat.strongRecOn with
  | ind n ih =>
    by_cases h : n ≤ 9
    · obtain ⟨h1, h2⟩ := dig_one ⟨n, by omega⟩
      rw [decB_one h]
      refine ⟨?_, ?_, by simp⟩
      · rw [List.all_cons, h1]
        rfl
      · rw [Bv.decV, h2]
        simp [Bv.decV]
    · obtain ⟨i1, i2, i3⟩ := ih (n / 10) (by omega)
      obtain ⟨h1, h2⟩ := dig_one ⟨n % 10, by omega⟩
      rw [decB_more h]
      refine ⟨?_, ?_, by simp⟩
      · rw [List.all_append, i1, List.all_cons, h1]
        rfl
      · rw [Bv.decV_snoc, i2, h2]
        show 10 * ((n / 10 : Nat) : Int) + ((n % 10 : Nat) : Int) = (n : Int)
        omega
theorem cvt_dec (n : Nat) : Ss.cvt (ofL (decB n)) = some (n : Int) := by
  obtain ⟨h1, h2, h3⟩ := dec_facts n
  rw [cvt_digits (by unfold allD; rw [h1, decide_eq_true (List.length_pos_iff.2 h3)]; rfl), h2]
theorem dec_Z (n : Nat) : ofL (decB n) = rbZ ↔ n = 0 := by
  constructor
  · intro h
    have h1 := cvt_dec n
    rw [h, cvt_Z] at h1
    have := Option.some.inj h1
    omega
  · intro h
    rw [h, decB_one (by omega)]
    rfl
theorem dec_cmp (n m : Nat) : rbsC (if ofL (decB n) = rbZ then [] else [ofL (decB n)]) (if ofL (decB m) = rbZ then [] else [ofL (decB m)]) = if n < m then -1 else if m < n then 1 else 0 := by
  have c : ∀ x y : Nat, rbC (ofL (decB x)) (ofL (decB y)) = if x < y then -1 else if y < x then 1 else 0 := by
    intro x y
    unfold rbC
    rw [cvt_dec, cvt_dec]
    show Bn.cmpZ (x : Int) (y : Int) = _
    unfold Bn.cmpZ
    rcases Nat.lt_trichotomy x y with h | h | h
    · rw [if_pos (by omega), if_pos h]
    · rw [if_neg (by omega), if_neg (by omega), if_neg (by omega), if_neg (by omega)]
    · rw [if_neg (by omega), if_pos (by omega), if_neg (by omega), if_pos h]
  have hz : ofL (decB 0) = rbZ := (dec_Z 0).2 rfl
  by_cases hn : n = 0
  · rw [if_pos ((dec_Z n).2 hn)]
    by_cases hm : m = 0
    · rw [if_pos ((dec_Z m).2 hm), rbsC_refl, if_neg (by omega), if_neg (by omega)]
    · have h := c 0 m
      rw [hz, if_pos (by omega)] at h
      rw [if_neg (fun e => hm ((dec_Z m).1 e)), rbsC, h, if_neg (by decide), if_pos (by omega)]
  · rw [if_neg (fun e => hn ((dec_Z n).1 e))]
    by_cases hm : m = 0
    · have h := c n 0
      rw [hz, if_neg (by omega), if_pos (by omega)] at h
      rw [if_pos ((dec_Z m).2 hm), rbsC, h, if_neg (by decide), if_neg (by omega), if_pos (by omega)]
    · have h := c n m
      rw [if_neg (fun e => hm ((dec_Z m).1 e)), rbsC, h, rbsC_refl]
      rcases Nat.lt_trichotomy n m with h1 | h1 | h1
      · have hv : (if n < m then (-1 : Int) else if m < n then 1 else 0) = -1 := if_pos h1
        rw [hv]
        rfl
      · have hv : (if n < m then (-1 : Int) else if m < n then 1 else 0) = 0 := by rw [if_neg (by omega), if_neg (by omega)]
        rw [hv]
        rfl
      · have hv : (if n < m then (-1 : Int) else if m < n then 1 else 0) = 1 := by rw [if_neg (by omega), if_pos h1]
        rw [hv]
        rfl
/-! the pieces -/
def numC (c : UInt8) : Prop := c = 46 ∨ digC c = true
def letC (c : UInt8) : Prop := ¬ c = 46 ∧ digC c = false
theorem canon_num : ∀ (A R : List UInt8), (∀ c ∈ A, numC c) → ∀ cp, ∃ cp', canonL (A ++ R) cp true = A ++ canonL R cp' true
  | [], R, _, cp => ⟨cp, rfl⟩
  | c :: A, R, h, cp => by
    by_cases h46 : c = 46
    · subst h46
      obtain ⟨cp', e⟩ := canon_num A R (fun x hx => h x (by simp [hx])) false
      exact ⟨cp', by rw [List.cons_append, canon_dot, e]; rfl⟩
    · have hd : digC c = true := (h c (by simp)).resolve_left h46
      obtain ⟨cp', e⟩ := canon_num A R (fun x hx => h x (by simp [hx])) true
      exact ⟨cp', by rw [List.cons_append, canon_one _ _ _ _ h46 (by rw [hd]; simp), hd, e]; rfl⟩
theorem canon_self (A : List UInt8) (h : ∀ c ∈ A, numC c) : canonL A false true = A := by
  obtain ⟨cp', e⟩ := canon_num A [] h false
  rw [List.append_nil] at e
  rw [e]
  simp [canonL]
theorem canon_sep (A R : List UInt8) (h : ∀ c ∈ A, numC c) : canonL (A ++ 46 :: R) false true = A ++ 46 :: canonL R false true := by
  obtain ⟨cp', e⟩ := canon_num A (46 :: R) h false
  rw [e, canon_dot]
theorem canon_let : ∀ (W R : List UInt8), (∀ c ∈ W, letC c) → canonL (W ++ R) true false = W ++ canonL R true false
  | [], _, _ => rfl
  | c :: W, R, h => by
    obtain ⟨h1, h2⟩ := h c (by simp)
    rw [List.cons_append, canon_one _ _ _ _ h1 (by rw [h2]; rfl), h2, canon_let W R (fun x hx => h x (by simp [hx]))]
    rfl
theorem canon_word (W R : List UInt8) (hn : W ≠ []) (h : ∀ c ∈ W, letC c) : canonL (W ++ R) false true = W ++ canonL R true false := by
  cases W with
  | nil => exact absurd rfl hn
  | cons c W =>
    obtain ⟨h1, h2⟩ := h c (by simp)
    rw [List.cons_append, canon_one _ _ _ _ h1 rfl, h2, canon_let W R (fun x hx => h x (by simp [hx]))]
    rfl
theorem dg_not {c : UInt8} (h : dg c = true) : ¬ c = 46 := fun e => by subst e; revert h; decide
theorem canon_digs : ∀ D : List UInt8, D.all dg = true → canonL D true true = D
  | [], _ => rfl
  | c :: D, h => by
    rw [List.all_cons, Bool.and_eq_true] at h
    have hd : digC c = true := h.1
    rw [canon_one _ _ _ _ (dg_not h.1) (by rw [hd]; rfl), hd, canon_digs D h.2]
theorem canon_dig (D : List UInt8) (hn : D ≠ []) (h : D.all dg = true) : canonL D true false = 46 :: D := by
  cases D with
  | nil => exact absurd rfl hn
  | cons c D =>
    rw [List.all_cons, Bool.and_eq_true] at h
    have hd : digC c = true := h.1
    rw [canon_two _ _ _ _ (dg_not h.1) (by rw [hd]; rfl), hd, canon_digs D h.2]
theorem cut_mid (R : List UInt8) : ∀ l : List UInt8, cutP ptB (l ++ 46 :: R) = cutP ptB l ++ cutP ptB R
  | [] => by
    rw [List.nil_append]
    conv => lhs; rw [cutP, if_pos (show ptB 46 = true from rfl)]
    rfl
  | x :: l => by
    have ih := cut_mid R l
    rw [List.cons_append, cutP, ih, cutP]
    split
    · rfl
    · cases e : cutP ptB l with
      | nil => exact absurd e (cutP_ne ptB l)
      | cons y s => rfl
theorem cut_none : ∀ W : List UInt8, (∀ c ∈ W, ¬ c = 46) → cutP ptB W = [W]
  | [], _ => rfl
  | c :: W, h => by
    have hc : ptB c = false := beq_eq_false_iff_ne.2 (h c (by simp))
    rw [cutP, if_neg (by rw [hc]; decide), cut_none W (fun x hx => h x (by simp [hx]))]
theorem S_self (A : List UInt8) (h : ∀ c ∈ A, numC c) : rbS A = rbSg ((cutP ptB A).map ofL) := by
  unfold rbS rbPcs
  rw [canon_self A h]
theorem S_sep (A R : List UInt8) (h : ∀ c ∈ A, numC c) : rbS (A ++ 46 :: R) = rbSg ((cutP ptB A).map ofL ++ (cutP ptB (canonL R false true)).map ofL) := by
  unfold rbS rbPcs
  rw [canon_sep A R h, cut_mid, List.map_append]
theorem S_zero (A : List UInt8) (h : ∀ c ∈ A, numC c) : rbS (A ++ [46, 48]) = rbSg ((cutP ptB A).map ofL ++ [rbZ]) := S_sep A [48] h
theorem S_word (A W : List UInt8) (h : ∀ c ∈ A, numC c) (hn : W ≠ []) (hw : ∀ c ∈ W, letC c) : rbS (A ++ 46 :: W) = rbSg ((cutP ptB A).map ofL ++ [ofL W]) := by
  have e := canon_word W [] hn hw
  rw [List.append_nil] at e
  have e2 : canonL ([] : List UInt8) true false = [] := rfl
  rw [e2, List.append_nil] at e
  rw [S_sep A W h, e, cut_none W (fun c hc => (hw c hc).1)]
  rfl
theorem S_two (A W D : List UInt8) (h : ∀ c ∈ A, numC c) (hn : W ≠ []) (hw : ∀ c ∈ W, letC c) (hd : D ≠ []) (ha : D.all dg = true) : rbS (A ++ 46 :: (W ++ D)) = rbSg (((cutP ptB A).map ofL ++ [ofL W]) ++ [ofL D]) := by
  rw [S_sep A (W ++ D) h, canon_word W D hn hw, canon_dig D hd ha, cut_mid, cut_none W (fun c hc => (hw c hc).1), cut_none D (fun c hc => dg_not (List.all_eq_true.1 ha c hc)), List.append_assoc]
  rfl
theorem word_cvt (W : List UInt8) (hn : W ≠ []) (hw : ∀ c ∈ W, lt c = true) : Ss.cvt (ofL W) = none := by
  cases W with
  | nil => exact absurd rfl hn
  | cons c W =>
    have hc := hw c (by simp)
    have h1 : dg c = false := by
      unfold lt at hc
      unfold dg
      have := of_decide_eq_true hc
      exact decide_eq_false (by omega)
    have hne : ∀ d : UInt8, lt d = false → ¬ c = d := fun d hd e => by subst e; rw [hc] at hd; cases hd
    refine cvt_other ?_ ?_
    · unfold allD
      rw [List.all_cons, h1]
      rfl
    · have a1 : (c == 45) = false := beq_eq_false_iff_ne.2 (hne 45 (by decide))
      have a2 : (c == 43) = false := beq_eq_false_iff_ne.2 (hne 43 (by decide))
      simp [signed, a1, a2]
theorem lt_letC {c : UInt8} (h : lt c = true) : letC c := by
  refine ⟨fun e => by subst e; revert h; decide, ?_⟩
  unfold lt at h
  unfold digC
  have := of_decide_eq_true h
  exact decide_eq_false (by omega)
theorem lt_ascii {c : UInt8} (h : lt c = true) : c.toNat < 128 := by
  unfold lt at h
  have := of_decide_eq_true h
  omega
theorem dg_ascii {c : UInt8} (h : dg c = true) : c.toNat < 128 := by
  unfold dg at h
  have := of_decide_eq_true h
  omega
theorem FnRubyBehind : laws_FnRubyBehind.Pure := by
  intro a0 b0 n0 m0 h0 h1 hn0 hm0
  refine Ev.rounds ?_
  rw [← ofL_bl a0, ← ofL_bl b0]
  generalize bl a0 = a
  generalize bl b0 = b
  have hn1 : 0 ≤ n0 ∧ n0 ≤ 65535 := by simpa [Lit.wf, IntKind.min, IntKind.max, IntKind.signed, IntKind.bits] using hn0
  have hm1 : 0 ≤ m0 ∧ m0 ≤ 65535 := by simpa [Lit.wf, IntKind.min, IntKind.max, IntKind.signed, IntKind.bits] using hm0
  obtain ⟨n, rfl⟩ := Int.eq_ofNat_of_zero_le hn1.1
  obtain ⟨m, rfl⟩ := Int.eq_ofNat_of_zero_le hm1.1
  have hn : n ≤ 65535 := by omega
  have hm : m ≤ 65535 := by omega
  clear hn0 hm0 hn1 hm1
  unfold laws_FnRubyBehind.f
  have skip0 : Ev (fun k => laws_FnRubyBehind.j0 k (ofL a) (ofL b) n m true) true := Ev.step (fun _ => by rw [laws_FnRubyBehind.j0]) (ev_t (ev_now rfl))
  have skip1 : Ev (fun k => laws_FnRubyBehind.j1 k (ofL a) (ofL b) n m true) true := Ev.step (fun _ => by rw [laws_FnRubyBehind.j1]) (ev_t (ev_now rfl))
  refine ev_ite (fun _ => skip0) (fun _ => ?_)
  cases decide (((ofL b).size : Int) > 2147483647) with
  | true => exact skip0
  | false =>
    refine Ev.step (fun _ => by rw [laws_FnRubyBehind.j0]) (ev_f ?_)
    obtain ⟨r, e, s⟩ := short2 (ofL a) (ofL b)
    refine Ev.bind e ?_
    cases r with
    | false => exact ev_f skip1
    | true =>
      obtain ⟨s0, s1⟩ := s rfl
      rw [ofL_size] at s0 s1
      have pa := plain_ev a [46] (by omega) (by simp)
      have pb := plain_ev b [] (by omega) (by simp)
      obtain ⟨q, e1, k1⟩ := rubyKnown_ev a (by omega)
      refine ev_t (Ev.bind pa ?_)
      cases (a.all (plainC [46]) && !a.isEmpty) with
      | false => exact ev_f skip1
      | true =>
        refine ev_t (Ev.bind pb ?_)
        cases hpb : (b.all (plainC []) && !b.isEmpty) with
        | false => exact ev_f skip1
        | true =>
          refine ev_t (Ev.bind e1 ?_)
          cases q with
          | false => exact skip1
          | true =>
            obtain ⟨aa, ka⟩ := k1 rfl
            have hbn : b ≠ [] := by
              intro e
              rw [e] at hpb
              revert hpb
              decide
            have hbp : b.all (plainC []) = true := by rw [Bool.and_eq_true] at hpb; exact hpb.1
            have hsa := ofL_size a
            have hsb := ofL_size b
            have last : (∀ c ∈ a, numC c) → (∀ c ∈ b, lt c = true) → Ev (fun k => laws_FnRubyBehind.l1 k (ofL a) (ofL b) n m ((b.length : Nat) : Int)) true := by
              intro ha hb
              have hlet : ∀ c ∈ b, letC c := fun c hc => lt_letC (hb c hc)
              have hbv := word_cvt b hbn hb
              have x1 : ofL a ++ (⟨#[46, 48]⟩ : ByteArray) = ofL (a ++ [46, 48]) := ofL_append a [46, 48]
              have x2 : (ofL a ++ (⟨#[46]⟩ : ByteArray)) ++ ofL b = ofL (a ++ 46 :: b) := by
                have : ofL a ++ (⟨#[46]⟩ : ByteArray) = ofL (a ++ [46]) := ofL_append a [46]
                rw [this, ofL_append, List.append_assoc]
                rfl
              have x3 : ∀ D, ofL (a ++ 46 :: b) ++ ofL D = ofL (a ++ 46 :: (b ++ D)) := fun D => by
                rw [ofL_append, List.append_assoc]
                rfl
              have fn : laws_decimal.f (wrap64 (n : Int)) = some (ofL (decB n)) := by
                rw [wrap_in (by omega) (by omega)]
                unfold laws_decimal.f
                rw [if_pos ⟨by omega, by omega⟩, Int.toNat_natCast]
              have fm : laws_decimal.f (wrap64 (m : Int)) = some (ofL (decB m)) := by
                rw [wrap_in (by omega) (by omega)]
                unfold laws_decimal.f
                rw [if_pos ⟨by omega, by omega⟩, Int.toNat_natCast]
              have ln := decB_len 6 n (by omega)
              have lm := decB_len 6 m (by omega)
              obtain ⟨dn1, dn2, dn3⟩ := dec_facts n
              obtain ⟨dm1, dm2, dm3⟩ := dec_facts m
              have as2 : ∀ c ∈ a ++ [46, 48], c.toNat < 128 := fun c hc => by
                rcases List.mem_append.1 hc with hc | hc
                · exact aa c hc
                · have : c = 46 ∨ c = 48 := by simpa using hc
                  rcases this with rfl | rfl <;> decide
              have as3 : ∀ D : List UInt8, (∀ c ∈ D, c.toNat < 128) → ∀ c ∈ a ++ 46 :: D, c.toNat < 128 := fun D hD c hc => by
                rcases List.mem_append.1 hc with hc | hc
                · exact aa c hc
                · rcases List.mem_cons.1 hc with rfl | hc
                  · decide
                  · exact hD c hc
              have asb : ∀ c ∈ b, c.toNat < 128 := fun c hc => lt_ascii (hb c hc)
              have asd : ∀ D : List UInt8, D.all dg = true → ∀ c ∈ b ++ D, c.toNat < 128 := fun D hD c hc => by
                rcases List.mem_append.1 hc with hc | hc
                · exact asb c hc
                · exact dg_ascii (List.all_eq_true.1 hD c hc)
              have c1 := implCmp_ev (a ++ [46, 48]) a (by simp; omega) (by omega) as2 aa
              have c2 := implCmp_ev (a ++ 46 :: b) a (by simp; omega) (by omega) (as3 b asb) aa
              have c3 := implCmp_ev (a ++ 46 :: (b ++ decB n)) (a ++ 46 :: (b ++ decB m)) (by simp; omega) (by simp; omega) (as3 _ (asd _ dn1)) (as3 _ (asd _ dm1))
              have hnb : rbN (ofL b) = false := by unfold rbN; rw [hbv]; rfl
              have hzb : ofL b ≠ rbZ := fun e => by rw [e, cvt_Z] at hbv; cases hbv
              have v1 : rbsC (rbS (a ++ [46, 48])) (rbS a) = 0 := by rw [S_zero a ha, S_self a ha, sg_num, rbsC_refl]
              have v2 : rbsC (rbS (a ++ 46 :: b)) (rbS a) = -1 := by rw [S_word a b ha hbn hlet, S_self a ha, word_lt _ _ hbv]
              have v3 : rbsC (rbS (a ++ 46 :: (b ++ decB n))) (rbS (a ++ 46 :: (b ++ decB m))) = if n < m then -1 else if m < n then 1 else 0 := by
                rw [S_two a b _ ha hbn hlet dn3 dn1, S_two a b _ ha hbn hlet dm3 dm1, sg_two _ _ _ hnb hzb, sg_two _ _ _ hnb hzb, rbsC_pre, dec_cmp]
              rw [v1] at c1
              rw [v2] at c2
              rw [v3] at c3
              have z1 : (ofL (a ++ 46 :: b)).size ≤ 10000 := by rw [ofL_size]; simp; omega
              have z2 : (ofL a ++ (⟨#[46]⟩ : ByteArray)).size = a.length + 1 := by
                rw [ByteArray.size_append, hsa]
                rfl
              have z3 : (ofL (decB n)).size ≤ 7 := by rw [ofL_size]; exact ln
              have z4 : (ofL (decB m)).size ≤ 7 := by rw [ofL_size]; exact lm
              refine Ev.step (fun _ => by rw [laws_FnRubyBehind.l1, x1, x2, fn, fm]) ?_
              refine ev_neg (by omega) (ev_pos (by omega) (Ev.bind c1 (ev_pos (by omega) (ev_pos (by omega) (Ev.bind c2 ?_)))))
              refine ev_some (ev_pos (by omega) ?_)
              refine ev_some (ev_pos (by omega) ?_)
              rw [x3, x3]
              rcases Nat.lt_trichotomy n m with h | h | h
              · rw [if_pos h] at c3
                exact Ev.bind c3 (ev_pos (by omega) (ev_pos rfl (ev_pos rfl (ev_pos rfl (ev_pos rfl (ev_pos rfl (ev_now rfl)))))))
              · rw [if_neg (by omega), if_neg (by omega)] at c3
                exact Ev.bind c3 (ev_neg (by omega) (ev_neg (by omega) (ev_pos rfl (ev_pos rfl (ev_pos rfl (ev_pos rfl (ev_pos rfl (ev_now rfl))))))))
              · rw [if_neg (by omega), if_pos h] at c3
                exact Ev.bind c3 (ev_neg (by omega) (ev_pos (by omega) (ev_pos rfl (ev_pos rfl (ev_pos rfl (ev_pos rfl (ev_pos rfl (ev_now rfl))))))))
            have loop1 : (∀ c ∈ a, numC c) → ∀ (d j : Nat), j + d = b.length → (∀ c ∈ b.take j, lt c = true) → Ev (fun k => laws_FnRubyBehind.l1 k (ofL a) (ofL b) n m (j : Int)) true := by
              intro ha d
              induction d with
              | zero =>
                intro j hj hb
                have hj : j = b.length := by omega
                subst hj
                rw [List.take_length] at hb
                exact last ha hb
              | succ d ih =>
                intro j hj hb
                have hjl : j < b.length := by omega
                have hc := bt_ofL b j hjl
                have hp := List.all_eq_true.1 hbp _ (List.getElem_mem hjl)
                refine Ev.step (fun _ => by rw [laws_FnRubyBehind.l1, hc, wrap_nat (by omega)]) (ev_pos (by omega) (ev_pos (by omega) ?_))
                have next : dg b[j] = false → Ev (fun k => laws_FnRubyBehind.l1 k (ofL a) (ofL b) n m ((j + 1 : Nat) : Int)) true := fun hd => by
                  refine ih (j + 1) (by omega) ?_
                  intro c hcm
                  rw [List.take_succ_eq_append_getElem hjl] at hcm
                  rcases List.mem_append.1 hcm with hcm | hcm
                  · exact hb c hcm
                  · have : c = b[j] := by simpa using hcm
                    subst this
                    unfold plainC at hp
                    rw [hd] at hp
                    simpa using hp
                refine ev_ite (fun h48 => ev_ite (fun _ => ev_now rfl) (fun h57 => next (decide_eq_false (by omega)))) (fun h48 => next (decide_eq_false (by omega)))
            have loop0 : ∀ (d i : Nat), i + d = a.length → (∀ c ∈ a.take i, numC c) → Ev (fun k => laws_FnRubyBehind.l0 k (ofL a) (ofL b) n m (i : Int)) true := by
              intro d
              induction d with
              | zero =>
                intro i hi ha
                have hi : i = a.length := by omega
                subst hi
                rw [List.take_length] at ha
                have hq := loop1 ha b.length 0 (by omega) (fun c hc => by simp at hc)
                refine Ev.step (fun _ => by rw [laws_FnRubyBehind.l0]) ?_
                exact ev_neg (by omega) hq
              | succ d ih =>
                intro i hi ha
                have hil : i < a.length := by omega
                have hc := bt_ofL a i hil
                refine Ev.step (fun _ => by rw [laws_FnRubyBehind.l0, hc, wrap_nat (by omega)]) (ev_pos (by omega) (ev_pos (by omega) ?_))
                have next : numC a[i] → Ev (fun k => laws_FnRubyBehind.l0 k (ofL a) (ofL b) n m ((i + 1 : Nat) : Int)) true := fun hd => by
                  refine ih (i + 1) (by omega) ?_
                  intro c hcm
                  rw [List.take_succ_eq_append_getElem hil] at hcm
                  rcases List.mem_append.1 hcm with hcm | hcm
                  · exact ha c hcm
                  · have : c = a[i] := by simpa using hcm
                    rw [this]
                    exact hd
                refine ev_ite (fun h46 => next (.inl ((c46 _).1 h46))) (fun _ => ev_ite (fun _ => ev_now rfl) (fun h48 => ev_ite (fun _ => ev_now rfl) (fun h57 => next (.inr (decide_eq_true (by omega))))))
            have hq := loop0 a.length 0 (by omega) (fun c hc => by simp at hc)
            refine Ev.step (fun _ => by rw [laws_FnRubyBehind.j1]) ?_
            exact ev_neg (by decide) hq
end Go.Proofs.YtmhlmkefnmdbcaaDoor.Pure

namespace Go.Proofs.YtmhlmkefnmdbcaaDoor.fnRubyBehind
open Go.ChangeShapes Go.WideShapes Go.ChangeAt Go.RowKit Go.Proofs.YtmhlmkefnmdbcaaDoor.Op Go.Proofs.YtmhlmkefnmdbcaaDoor.Z Go.Proofs.YtmhlmkefnmdbcaaDoorW.PrintWords
open Go.ChangeMaps (open_string shut_string)
set_option linter.unusedVariables false
set_option linter.unusedSimpArgs false
theorem own : ownKnob Tryd.prog.godebug = none := by kernel_rfl
theorem laidOut : laidOutB Tryd.prog = true := by kernel_rfl
noncomputable def low (os : Os) : Nat := (World.settled Tryd.prog os).heap.size
def put (h : Array Obj) (g : Nat) (cs : Array Value) : Array Obj := h.modify g fun
  | .cells _ t frozen => .cells cs t frozen
  | o => o
/-- A world for the witness: the listed variables hold what their initialisers lay. -/
noncomputable def laidWorld (os : Os) : World :=
  let w0 := World.holding Tryd.prog os ⟨#[(.cells #[.string ⟨#[69, 79, 70]⟩] 178), (.cells #[.string ⟨#[110, 117, 109, 98, 101, 114, 32, 104, 97, 115, 32, 110, 111, 32, 100, 105, 103, 105, 116, 115]⟩] 178), (.cells #[.string ⟨#[39, 95, 39, 32, 109, 117, 115, 116, 32, 115, 101, 112, 97, 114, 97, 116, 101, 32, 115, 117, 99, 99, 101, 115, 115, 105, 118, 101, 32, 100, 105, 103, 105, 116, 115]⟩] 178), (.cells #[.string ⟨#[105, 110, 118, 97, 108, 105, 100, 32, 118, 101, 114, 115, 105, 111, 110]⟩] 178), (.cells #[.string ⟨#[118, 101, 114, 115, 105, 111, 110, 32, 105, 115, 32, 110, 111, 116, 32, 111, 102, 32, 116, 104, 101, 32, 115, 97, 109, 101, 32, 101, 99, 111, 115, 121, 115, 116, 101, 109]⟩] 178)], #[], []⟩
  { w0 with heap := put (put (put (put (put (w0.heap) 2 #[.iface 163 (.pointer (some ⟨low os + 0, 0, none⟩))]) 5 #[.iface 163 (.pointer (some ⟨low os + 1, 0, none⟩))]) 4 #[.iface 163 (.pointer (some ⟨low os + 2, 0, none⟩))]) 0 #[.iface 163 (.pointer (some ⟨low os + 3, 0, none⟩))]) 1 #[.iface 163 (.pointer (some ⟨low os + 4, 0, none⟩))] }
set_option maxRecDepth 100000 in
theorem laid_met (os : Os) : laidMet Tryd.prog Rows.fnRubyBehindRow.laid ((laidWorld os).forCall (fun _ _ => 0) ⟨#[], #[.string ByteArray.empty, .string ByteArray.empty, .int .u16 0, .int .u16 0], []⟩).memory :=
  laidMet_of_run3 8 (by kernel_rfl) (by kernel_rfl) (by kernel_rfl)
set_option maxRecDepth 100000 in
theorem reads (os : Os) {H : Type} (enc : TypeId × Value → H) : DataW.whole enc Tryd.prog ((laidWorld os).forCall (fun _ _ => 0) ⟨#[], #[.string ByteArray.empty, .string ByteArray.empty, .int .u16 0, .int .u16 0], []⟩).memory Tryd.f8.params.toList Rows.fnRubyBehindSpec.vars false #[.string ByteArray.empty, .string ByteArray.empty, .int .u16 0, .int .u16 0].toList 8 = some ([.lit (.string []), .lit (.string []), .lit (.int .u16 0), .lit (.int .u16 0)], [], []) := by kernel_rfl
set_option maxRecDepth 100000 in
theorem lifted (os : Os) (started : os.Started) (H : Type) (enc : TypeId × Value → H) (F : Stop.Interp) :
    ReturnsInHanded {} Tryd.checked os 8 .any ((OpenSpec.ofChange Rows.fnRubyBehindSpec).preRow enc Tryd.prog Tryd.f8 Rows.fnRubyBehindRow.domain false Rows.fnRubyBehindRow.laid) (((OpenSpec.ofChange Rows.fnRubyBehindSpec).at F).post enc Tryd.prog Tryd.f8 false true false false) := by
  refine returnsInHanded_of_row (C := Tryd.checked) (s := OpenSpec.ofChange Rows.fnRubyBehindSpec) own started (by kernel_rfl) Tryd.func8
    (witness_row_atRef (enc := enc) (C := Tryd.checked) false (laidWorld os) #[.string ByteArray.empty, .string ByteArray.empty, .int .u16 0, .int .u16 0] rfl (by kernel_rfl) (by kernel_rfl) (by kernel_rfl)
      (OpenSpec.preRow_of_cond 8 (reads os enc) (by kernel_rfl) (fun k hk => by cases hk) (by kernel_rfl) (laid_met os))) ?_
  intro W base args ds gs before hval0 hW hcnd hk0 hsz0 hL hSh hho
  have hsz : (DataW.weightsEach Tryd.prog (Tryd.f8.params.toList ++ Rows.fnRubyBehindSpec.plain.varTypes Tryd.prog) (ds ++ gs)).all (· ≤ reachBytes) = true := hsz0
  have hval : ∀ (j : Nat) t v, Tryd.f8.params[j]? = some t → args[j]? = some v → Value.okWide Tryd.prog W .any base t v := hval0
  have hW' := hW
  obtain ⟨p, q, hA0, hV, rfl, hfz, hnd⟩ := hW
  have hA : DataW.TrodAll enc Tryd.prog W 0 (fun _ => true) true Tryd.f8.params.toList args.toList ds p := hA0
  rw [Tryd.params8] at hA hval hsz
  obtain ⟨v0, vs0, d0, ds0, p0, q0, hargs, rfl, rfl, h0, r0⟩ := trodAll_cons hA
  obtain ⟨v1, vs1, d1, ds1, p1, q1, rfl, rfl, rfl, h1, r1⟩ := trodAll_cons r0
  obtain ⟨v2, vs2, d2, ds2, p2, q2, rfl, rfl, rfl, h2, r2⟩ := trodAll_cons r1
  obtain ⟨v3, vs3, d3, ds3, p3, q3, rfl, rfl, rfl, h3, r3⟩ := trodAll_cons r2
  obtain ⟨rfl, rfl, rfl⟩ := trodAll_nil r3
  obtain rfl : args = #[v0, v1, v2, v3] := by cases args; simp_all
  obtain ⟨rfl, rfl⟩ := trodVars_none hV
  obtain ⟨a0, rfl, rfl, rfl, y0⟩ := open_string Tryd.underlying9 (hval 0 9 v0 rfl rfl) h0
  have w0 : a0.size ≤ 140737488351232 := by
    have z := sized_string hsz (j := 0) (t := 9) rfl rfl
    rw [Array.length_toList] at z
    exact z
  obtain ⟨a1, rfl, rfl, rfl, y1⟩ := open_string Tryd.underlying9 (hval 1 9 v1 rfl rfl) h1
  have w1 : a1.size ≤ 140737488351232 := by
    have z := sized_string hsz (j := 1) (t := 9) rfl rfl
    rw [Array.length_toList] at z
    exact z
  obtain ⟨a2, rfl, rfl, rfl, w2⟩ := open_int Tryd.underlying37 (hval 2 37 v2 rfl rfl) h2
  obtain ⟨a3, rfl, rfl, rfl, w3⟩ := open_int Tryd.underlying37 (hval 3 37 v3 rfl rfl) h3
  clear hA0 hval0 hsz0 hsz
  refine (laws_FnRubyBehind.walk Pure.FnRubyBehind a0 a1 a2 a3 W w0 w1 w2 w3  (Gw.gw_of (l := Rows.fnRubyBehindRow.laid) hL (List.Mem.head _) (List.Mem.tail _ (List.Mem.head _)) (List.Mem.tail _ (List.Mem.tail _ (List.Mem.tail _ (List.Mem.head _)))))).mono fun e W' ⟨he, bel⟩ => ?_
  subst he
  exact ⟨_, rfl, _, _, _, [], _, [], hW', trodAll_mk1 (shut_bool Tryd.underlying4 _), (trodAll_cons_mk (shut_string Tryd.underlying9 y0) (trodAll_cons_mk (shut_string Tryd.underlying9 y1) (trodAll_cons_mk (shut_int Tryd.underlying37 w2) (trodAll_cons_mk (shut_int Tryd.underlying37 w3) trodAll_mk0)))), rfl, bel.frame _, fun h => by cases h⟩
theorem said : Rows.FnRubyBehindSaid :=
  OpenClaim.holds_of_cond 8 Tryd.f8 rfl rfl rfl rfl rfl rfl rfl ⟨rfl, rfl, rfl, rfl, rfl⟩ rfl rfl rfl rfl rfl (by kernel_rfl) Tryd.func8 (by kernel_rfl)
    (of_decide_eq_true (by kernel_rfl)) (by unfold Func.isWrapper; first | (rw [if_pos (by decide +kernel)]; kernel_rfl) | (rw [if_neg (by decide +kernel)]; exact ⟨rfl, rfl⟩))
    (fun os started H enc _ F => by rw [OpenClaim.pre_eq_preRow]; exact lifted os started H enc F)
theorem plain (f : FuncId) (fn : Func) (hf : Tryd.pinned.checked.prog.funcNamed "pub-seniority/laws.FnRubyBehind" = some f) (hfn : Tryd.pinned.checked.prog.funcs[f]? = some fn) :
    true = Tryd.pinned.checked.prog.looks [] ∧ ∀ (j : Nat) t, fn.params[j]? = some t → Tryd.pinned.checked.prog.wantsStandIn t = false := by
  obtain rfl : f = 8 := Option.some.inj ((show Tryd.prog.funcNamed "pub-seniority/laws.FnRubyBehind" = some 8 by kernel_rfl).symm.trans hf) |>.symm
  obtain rfl : fn = Tryd.f8 := (Option.some.inj (Tryd.func8.symm.trans hfn)).symm
  refine ⟨by kernel_rfl, fun j t ht => ?_⟩
  rw [Tryd.params8] at ht
  have h2 : ([9, 9, 37, 37] : List TypeId).all (fun t => !Tryd.prog.wantsStandIn t) = true := by kernel_rfl
  have h3 := List.all_eq_true.1 h2 t (by have := Array.mem_of_getElem? ht; simpa using this)
  exact (show Tryd.prog.wantsStandIn t = false from by simpa using h3)
theorem proved : Rows.FnRubyBehindCardSaid :=
  Claim7.holds_tied_plain_at .later [] _ _ _ _ said (fun _ h => by cases h) (by kernel_rfl) (fun _ h => by cases h) fnRubyBehind_row_tie rfl ⟨rfl, rfl⟩ (by kernel_rfl) rfl plain (by kernel_rfl)
#print axioms proved
end Go.Proofs.YtmhlmkefnmdbcaaDoor.fnRubyBehind
namespace Go.Proofs.YtmhlmkefnmdbcaaDoor
/-- The card, under a short name, for the claim. -/
theorem fnRubyBehind_holds : Rows.FnRubyBehindCardSaid := fnRubyBehind.proved
end Go.Proofs.YtmhlmkefnmdbcaaDoor
