/- FnRubyRoads: versions of RubyGems compare as their segments do. No condition beyond the row's own. -/
import Derived.Test.YtmhlmkefnmdbcaaDoorZ11
import Derived.Test.YtmhlmkefnmdbcaaDoorEv
import Derived.Test.YtmhlmkefnmdbcaaDoorBy
import Derived.Test.YtmhlmkefnmdbcaaDoorZ12
import Derived.Test.YtmhlmkefnmdbcaaDoorZ13
import Derived.Test.YtmhlmkefnmdbcaaDoorBv
import Derived.Test.YtmhlmkefnmdbcaaDoorSsC
import Derived.Lib.Bytealg
import Derived.Test.YtmhlmkefnmdbcaaDoorZ5
import Derived.Test.YtmhlmkefnmdbcaaDoorZ3
import Derived.Test.YtmhlmkefnmdbcaaDoorZ4
import Derived.Test.YtmhlmkefnmdbcaaDoorZ6
import Derived.Test.YtmhlmkefnmdbcaaDoorZ8
import Derived.Test.YtmhlmkefnmdbcaaDoorZ10
import Derived.Test.YtmhlmkefnmdbcaaDoorZ1
import Derived.Test.YtmhlmkefnmdbcaaDoorZ16
import Derived.Test.YtmhlmkefnmdbcaaDoorRows
import Derived.Test.YtmhlmkefnmdbcaaDoorOp
import Derived.Test.YtmhlmkefnmdbcaaDoorCards
import Derived.Test.YtmhlmkefnmdbcaaDoorTie
import Derived.Test.YtmhlmkefnmdbcaaDoorGl
import Derived.Deep.DeepHandedRow
import Derived.Deep.DeepWitnessRowRef
import Derived.Deep.DeepLaidRun
import Derived.WalkKit
import Derived.ProofKit
import Derived.OpenShut
import Derived.ShutString
import Derived.ChangeOld
import Derived.Below
import Derived.SizedLaws
namespace Go.Proofs.YtmhlmkefnmdbcaaDoor.Com
open Go.RowKit Go.Proofs.YtmhlmkefnmdbcaaDoor.Z Go.Proofs.YtmhlmkefnmdbcaaDoor.Evs Go.Proofs.YtmhlmkefnmdbcaaDoorW.PrintWords Go.Proofs.YtmhlmkefnmdbcaaDoorW.PrintLast
set_option linter.unusedVariables false
set_option linter.unusedSimpArgs false

/-- Ascii: an answer; where it is true every byte is below 128. -/
theorem ascii_l (s : ByteArray) (hs : s.size ≤ 140737488351232) (d : Nat) : ∀ i : Nat, i + d = s.size → ∃ r, Ev (fun k => spec_Ascii.l0 k s (i : Int)) r ∧ (r = true → ∀ j : Nat, i ≤ j → (h : j < s.size) → (s[j]'h).toNat < 128) := by
  induction d with
  | zero => intro i h; exact ⟨true, Ev.step (fun _ => by rw [spec_Ascii.l0]) (ev_neg (by omega) (Ev.now _)), fun _ j h1 h2 => by omega⟩
  | succ d ih =>
    intro i h
    obtain ⟨r, hr, hq⟩ := ih (i + 1) (by omega)
    have hb := bt_nat s i (by omega)
    by_cases c : bt s (i : Int) > 127
    · exact ⟨false, Ev.step (fun _ => by rw [spec_Ascii.l0]) (ev_pos (by omega) (ev_pos (by omega) (ev_pos c (Ev.now _)))), fun h => by cases h⟩
    · refine ⟨r, Ev.step (fun _ => by rw [spec_Ascii.l0, wrap_nat (by omega)]) (ev_pos (by omega) (ev_pos (by omega) (ev_neg c hr))), fun h j h1 h2 => ?_⟩
      by_cases e : j = i
      · subst e; omega
      · exact hq h j (by omega) h2
theorem ascii_ev (s : ByteArray) (hs : s.size ≤ 140737488351232) : ∃ r, Ev (fun k => spec_Ascii.f k s) r ∧ (r = true → ∀ j : Nat, (h : j < s.size) → (s[j]'h).toNat < 128) := by
  obtain ⟨r, hr, hq⟩ := ascii_l s hs s.size 0 (by omega)
  exact ⟨r, hr, fun h j hj => hq h j (by omega) hj⟩
end Go.Proofs.YtmhlmkefnmdbcaaDoor.Com

namespace Go.Proofs.YtmhlmkefnmdbcaaDoor.Com
open Go.RowKit Go.Proofs.YtmhlmkefnmdbcaaDoor.Z Go.Proofs.YtmhlmkefnmdbcaaDoor.Evs Go.Proofs.YtmhlmkefnmdbcaaDoor.By Go.Proofs.YtmhlmkefnmdbcaaDoorW.PrintWords Go.Proofs.YtmhlmkefnmdbcaaDoorW.PrintLast
set_option linter.unusedVariables false
set_option linter.unusedSimpArgs false

def ptB (c : UInt8) : Bool := c == 46
theorem isPoint_f (c : UInt8) : spec_isPoint.f (c.toNat : Int) = some (ptB c) := by
  unfold spec_isPoint.f ptB
  congr 1
  rw [Bool.eq_iff_iff, beq_iff_eq, beq_iff_eq]
  constructor
  · intro h
    exact UInt8.toNat_inj.1 (by have : (46 : UInt8).toNat = 46 := rfl; omega)
  · rintro rfl; rfl
theorem cut_l (l : List UInt8) (hl : l.length ≤ 100000) (d : Nat) : ∀ (i f : Nat) (acc : List ByteArray), i + d = l.length → f ≤ i → acc.length ≤ i →
    Ev (fun k => spec_cut_isPoint.l0 k (ofL l) acc (f : Int) (i : Int)) (acc ++ (onto ((l.take i).drop f) (cutP ptB (l.drop i))).map ofL) := by
  have hs := ofL_size l
  have hext : ∀ i f : Nat, (ofL l).extract ((f : Int)).toNat ((i : Int)).toNat = ofL ((l.take i).drop f) := fun i f => by rw [Int.toNat_natCast, Int.toNat_natCast, ofL_extract]
  induction d with
  | zero =>
    intro i f acc h hf ha
    have e : l.drop i = [] := List.drop_of_length_le (by omega)
    rw [e]
    refine Ev.step (fun _ => by rw [spec_cut_isPoint.l0, hext, wrap_nat (by omega)]) (ev_pos (by omega) (ev_pos (by omega) (ev_pos (by omega) (ev_pos (by omega) (ev_pos (by omega) ?_)))))
    refine Ev.step (fun _ => by rw [spec_cut_isPoint.l0]) (ev_neg (by omega) (ev_now ?_))
    simp [cutP, onto]
  | succ d ih =>
    intro i f acc h hf ha
    have hc := bt_ofL l i (by omega)
    have e : l.drop i = l[i]'(by omega) :: l.drop (i + 1) := List.drop_eq_getElem_cons (by omega)
    have et : l.take (i + 1) = l.take i ++ [l[i]'(by omega)] := (List.take_append_getElem (by omega)).symm
    refine Ev.step (fun _ => by rw [spec_cut_isPoint.l0, hc, isPoint_f, Option.bind_some, hext, wrap_nat (by omega)]) (ev_pos (by omega) (ev_neg (by omega) (ev_pos (by omega) (ev_pos (by omega) ?_))))
    cases hp : ptB (l[i]'(by omega)) with
    | true =>
      refine ev_t (ev_pos (by omega) (ev_pos (by omega) (ev_pos (by omega) ?_)))
      refine ev_eq (ih (i + 1) (i + 1) (acc ++ [ofL ((l.take i).drop f)]) (by omega) (Nat.le_refl _) (by simp; omega)) ?_
      have e0 : (l.take (i + 1)).drop (i + 1) = [] := List.drop_of_length_le (by rw [List.length_take]; omega)
      rw [e, onto_cut _ _ _ _ hp, e0, onto_nil]
      simp
    | false =>
      refine ev_f ?_
      refine ev_eq (ih (i + 1) f acc (by omega) (by omega) (by omega)) ?_
      rw [e, onto_cons _ _ _ _ hp, et, List.drop_append_of_le_length (by simp; omega)]
theorem cut_ev (l : List UInt8) (hl : l.length ≤ 100000) (n : Nat) : Ev (fun k => spec_cut_isPoint.f k (ofL l) n) ((cutP ptB l).map ofL) := by
  unfold spec_cut_isPoint.f
  have := cut_l l hl l.length 0 0 [] (by omega) (Nat.le_refl _) (by simp)
  simpa [onto_nil] using this
end Go.Proofs.YtmhlmkefnmdbcaaDoor.Com

namespace Go.Proofs.YtmhlmkefnmdbcaaDoor.Com
open Go.RowKit Go.Proofs.YtmhlmkefnmdbcaaDoor.Z Go.Proofs.YtmhlmkefnmdbcaaDoor.Evs Go.Proofs.YtmhlmkefnmdbcaaDoor.By Go.Proofs.YtmhlmkefnmdbcaaDoorW.PrintWords Go.Proofs.YtmhlmkefnmdbcaaDoorW.PrintLast
set_option linter.unusedVariables false
set_option linter.unusedSimpArgs false

theorem isDigit_f (c : UInt8) : spec_isDigit.f (c.toNat : Int) = some (dg c) := by
  unfold spec_isDigit.f dg
  by_cases h : (c.toNat : Int) ≥ 48
  · rw [if_pos h]
    congr 1
    rw [Bool.eq_iff_iff, decide_eq_true_eq, decide_eq_true_eq]
    omega
  · rw [if_neg h]
    congr 1
    symm
    rw [decide_eq_false_iff_not]
    omega
/-- Digits alone, one at least. -/
def allD (l : List UInt8) : Bool := l.all dg && decide (0 < l.length)
theorem digits_l (l : List UInt8) (hl : l.length ≤ 140737488351232) (d : Nat) : ∀ i : Nat, i + d = l.length → Ev (fun k => spec_allDigits.l0 k (ofL l) (i : Int)) ((l.drop i).all dg && decide (0 < l.length)) := by
  have hs := ofL_size l
  induction d with
  | zero =>
    intro i h
    refine Ev.step (fun _ => by rw [spec_allDigits.l0]) (ev_neg (by omega) (ev_now ?_))
    rw [List.drop_of_length_le (by omega), hs]
    simp
  | succ d ih =>
    intro i h
    have hc := bt_ofL l i (by omega)
    refine Ev.step (fun _ => by rw [spec_allDigits.l0, hc, isDigit_f, Option.bind_some, wrap_nat (by omega)]) (ev_pos (by omega) (ev_pos (by omega) ?_))
    rw [List.drop_eq_getElem_cons (by omega), List.all_cons]
    cases e : dg (l[i]'(by omega)) with
    | true => exact ev_t (by simpa using ih (i + 1) (by omega))
    | false => exact ev_f (ev_now (by simp))
theorem digits_ev (l : List UInt8) (hl : l.length ≤ 140737488351232) : Ev (fun k => spec_allDigits.f k (ofL l)) (allD l) := digits_l l hl l.length 0 (by omega)
end Go.Proofs.YtmhlmkefnmdbcaaDoor.Com

namespace Go.Proofs.YtmhlmkefnmdbcaaDoor.Com
open Go.RowKit Go.Proofs.YtmhlmkefnmdbcaaDoor.Z Go.Proofs.YtmhlmkefnmdbcaaDoor.Evs Go.Proofs.YtmhlmkefnmdbcaaDoor.By Go.Proofs.YtmhlmkefnmdbcaaDoorW.PrintWords Go.Proofs.YtmhlmkefnmdbcaaDoorW.PrintLast
set_option linter.unusedVariables false
set_option linter.unusedSimpArgs false

/-- A sign and digits alone. -/
def signed (l : List UInt8) : Bool := match l with
  | [] => false
  | c :: r => (c == 45 || c == 43) && allD r
theorem signed_short (l : List UInt8) (h : ¬ 1 < l.length) : signed l = false := by
  match l, h with
  | [], _ => rfl
  | [c], _ => simp [signed, allD]
  | _ :: _ :: _, h => simp at h
def idK (l : List (List UInt8)) : Bool := l.all fun x => !signed x
theorem rd_map (l : List (List UInt8)) (i : Nat) (h : i < l.length) : rdOf ByteArray.empty (l.map ofL) (i : Int) = ofL (l[i]'h) := by
  rw [rdOf_nat]
  simp [List.getD_eq_getElem?_getD, h]
theorem ident_l (l : List (List UInt8)) (hl : l.length ≤ 100000) (hz : ∀ x ∈ l, x.length ≤ 140737488351232) (d : Nat) : ∀ i : Nat, i + d = l.length → Ev (fun k => spec_IdentifiersKnown.l0 k (l.map ofL) (i : Int)) (idK (l.drop i)) := by
  induction d with
  | zero =>
    intro i h
    refine Ev.step (fun _ => by rw [spec_IdentifiersKnown.l0, List.length_map]) (ev_neg (by omega) (ev_now ?_))
    rw [List.drop_of_length_le (by omega)]
    rfl
  | succ d ih =>
    intro i h
    have hi : i < l.length := by omega
    have hr := rd_map l i hi
    have hlen := hz _ (List.getElem_mem hi)
    have e : l.drop i = l[i] :: l.drop (i + 1) := List.drop_eq_getElem_cons hi
    have hk : idK (l.drop i) = (!signed l[i] && idK (l.drop (i + 1))) := by rw [e]; rfl
    have next := ih (i + 1) (by omega)
    rw [hk]
    refine Ev.step (fun _ => by rw [spec_IdentifiersKnown.l0, List.length_map, hr, ofL_size, wrap_nat (by omega)]) (ev_pos (by omega) (ev_pos (by omega) ?_))
    by_cases h1 : 1 < l[i].length
    · refine ev_pos (by omega) (ev_pos (by omega) ?_)
      obtain ⟨c, r, hcr⟩ : ∃ c r, l[i] = c :: r := by
        cases hx : l[i] with
        | nil => rw [hx] at h1; simp at h1
        | cons c r => exact ⟨c, r, rfl⟩
      rw [hcr] at hlen h1 ⊢
      have hb : bt (ofL (c :: r)) 0 = (c.toNat : Int) := bt_ofL (c :: r) 0 (by simp)
      have hx : (ofL (c :: r)).extract 1 (c :: r).length = ofL r := by rw [ofL_extract, List.take_of_length_le (Nat.le_refl _)]; rfl
      have hd := digits_ev r (by simp at hlen; omega)
      have c45 : (c.toNat : Int) = 45 ↔ (c == 45) = true := by
        rw [beq_iff_eq]
        exact ⟨fun h => UInt8.toNat_inj.1 (by have : (45 : UInt8).toNat = 45 := rfl; omega), fun h => by rw [h]; rfl⟩
      have c43 : (c.toNat : Int) = 43 ↔ (c == 43) = true := by
        rw [beq_iff_eq]
        exact ⟨fun h => UInt8.toNat_inj.1 (by have : (43 : UInt8).toNat = 43 := rfl; omega), fun h => by rw [h]; rfl⟩
      simp only [hb, hx]
      by_cases h45 : (c == 45) = true
      · refine ev_pos (c45.2 h45) (ev_pos (by omega) (Ev.bind hd ?_))
        have hsg : signed (c :: r) = allD r := by simp only [signed, h45, Bool.true_or, Bool.true_and]
        rw [hsg]
        cases allD r with
        | true => exact ev_t (ev_now (by simp))
        | false => exact ev_f (by simpa using next)
      · refine ev_neg (fun h => h45 (c45.1 h)) ?_
        by_cases h43 : (c == 43) = true
        · refine ev_pos (c43.2 h43) (ev_pos (by omega) (Ev.bind hd ?_))
          have hsg : signed (c :: r) = allD r := by simp only [signed, h43, Bool.or_true, Bool.true_and]
          rw [hsg]
          cases allD r with
          | true => exact ev_t (ev_now (by simp))
          | false => exact ev_f (by simpa using next)
        · refine ev_neg (fun h => h43 (c43.1 h)) ?_
          have hsg : signed (c :: r) = false := by
            have a : (c == 45) = false := by simpa using h45
            have b : (c == 43) = false := by simpa using h43
            simp only [signed, a, b, Bool.or_false, Bool.false_and]
          rw [hsg]
          simpa using next
    · refine ev_neg (by omega) ?_
      rw [signed_short _ h1]
      simpa using next
theorem ident_ev (l : List (List UInt8)) (hl : l.length ≤ 100000) (hz : ∀ x ∈ l, x.length ≤ 140737488351232) : Ev (fun k => spec_IdentifiersKnown.f k (l.map ofL)) (idK l) := by
  have := ident_l l hl hz l.length 0 (by omega)
  exact this
end Go.Proofs.YtmhlmkefnmdbcaaDoor.Com

namespace Go.Proofs.YtmhlmkefnmdbcaaDoor.Com
open Go.RowKit Go.Proofs.YtmhlmkefnmdbcaaDoor.Z Go.Proofs.YtmhlmkefnmdbcaaDoor.Evs Go.Proofs.YtmhlmkefnmdbcaaDoor.By Go.Proofs.YtmhlmkefnmdbcaaDoorW.PrintWords Go.Proofs.YtmhlmkefnmdbcaaDoorW.PrintLast
set_option linter.unusedVariables false
set_option linter.unusedSimpArgs false

/-- A number of several digits with a zero ahead. -/
def zeroed0 (l : List UInt8) : Bool := decide (1 < l.length) && l.head? == some 48 && allD l
def segK (l : List (List UInt8)) : Bool := l.all (fun x => !zeroed0 x) && idK l
theorem seg_l (l : List (List UInt8)) (hl : l.length ≤ 100000) (hz : ∀ x ∈ l, x.length ≤ 140737488351232) (d : Nat) : ∀ i : Nat, i + d = l.length → Ev (fun k => spec_RubySegmentsKnown.l0 k (l.map ofL) (i : Int)) ((l.drop i).all (fun x => !zeroed0 x) && idK l) := by
  induction d with
  | zero =>
    intro i h
    refine Ev.step (fun _ => by rw [spec_RubySegmentsKnown.l0, List.length_map]) (ev_neg (by omega) (Ev.bind (ident_ev l hl hz) (ev_now ?_)))
    rw [List.drop_of_length_le (by omega)]
    simp
  | succ d ih =>
    intro i h
    have hi : i < l.length := by omega
    have hr := rd_map l i hi
    have hlen := hz _ (List.getElem_mem hi)
    have e : l.drop i = l[i] :: l.drop (i + 1) := List.drop_eq_getElem_cons hi
    have next := ih (i + 1) (by omega)
    rw [e, List.all_cons]
    refine Ev.step (fun _ => by rw [spec_RubySegmentsKnown.l0, List.length_map, hr, ofL_size, wrap_nat (by omega)]) (ev_pos (by omega) (ev_pos (by omega) ?_))
    by_cases h1 : 1 < l[i].length
    · refine ev_pos (by omega) (ev_pos (by omega) ?_)
      obtain ⟨c, r, hcr⟩ : ∃ c r, l[i] = c :: r := by
        cases hx : l[i] with
        | nil => rw [hx] at h1; simp at h1
        | cons c r => exact ⟨c, r, rfl⟩
      rw [hcr] at hlen h1 ⊢
      have hb : bt (ofL (c :: r)) 0 = (c.toNat : Int) := bt_ofL (c :: r) 0 (by simp)
      have hd := digits_ev (c :: r) hlen
      have c48 : (c.toNat : Int) = 48 ↔ c = 48 := ⟨fun h => UInt8.toNat_inj.1 (by have : (48 : UInt8).toNat = 48 := rfl; omega), fun h => by rw [h]; rfl⟩
      simp only [hb]
      by_cases h48 : c = 48
      · refine ev_pos (c48.2 h48) (Ev.bind hd ?_)
        have hsg : zeroed0 (c :: r) = allD (c :: r) := by
          subst h48
          have h2 := decide_eq_true h1
          simp only [zeroed0, List.head?_cons, h2, beq_self_eq_true, Bool.true_and]
        rw [hsg]
        cases allD (c :: r) with
        | true => exact ev_t (ev_now (by simp))
        | false => exact ev_f (by simpa using next)
      · refine ev_neg (fun h => h48 (c48.1 h)) ?_
        have hsg : zeroed0 (c :: r) = false := by
          have : (some c == some (48 : UInt8)) = false := by simpa using h48
          simp only [zeroed0, List.head?_cons, this, Bool.and_false, Bool.false_and]
        rw [hsg]
        simpa using next
    · refine ev_neg (by omega) ?_
      have hsg : zeroed0 l[i] = false := by simp only [zeroed0, decide_eq_false h1, Bool.false_and]
      rw [hsg]
      simpa using next
theorem seg_ev (l : List (List UInt8)) (hl : l.length ≤ 100000) (hz : ∀ x ∈ l, x.length ≤ 140737488351232) : Ev (fun k => spec_RubySegmentsKnown.f k (l.map ofL)) (segK l) := seg_l l hl hz l.length 0 (by omega)
end Go.Proofs.YtmhlmkefnmdbcaaDoor.Com

namespace Go.Proofs.YtmhlmkefnmdbcaaDoor.Com
open Go Go.RowKit Go.Proofs.YtmhlmkefnmdbcaaDoor.Z Go.Proofs.YtmhlmkefnmdbcaaDoor.Evs Go.Proofs.YtmhlmkefnmdbcaaDoor.By Go.Proofs.YtmhlmkefnmdbcaaDoor.Bv Go.Proofs.YtmhlmkefnmdbcaaDoorW.PrintWords Go.Proofs.YtmhlmkefnmdbcaaDoorW.PrintLast
set_option linter.unusedVariables false
set_option linter.unusedSimpArgs false

theorem rd_mid (pre rest : List Int) (x : Int) : rd (pre ++ x :: rest) (pre.length : Int) = x := by
  rw [rd_nat, List.getD_eq_getElem?_getD, List.getElem?_append_right (Nat.le_refl _), Nat.sub_self]
  rfl
theorem set_mid (pre rest : List Int) (x y : Int) : (pre ++ x :: rest).set pre.length y = (pre ++ [y]) ++ rest := by
  rw [List.set_append_right _ _ (Nat.le_refl _), Nat.sub_self]
  simp
theorem int_l1 (s : List UInt8) (i : Int) (r : Bool × ByteArray) : ∀ (rest pre : List Int) (c : Int), Byt rest → 0 ≤ c → c ≤ 9 → pre.length + rest.length ≤ 1000000 →
    Ev (fun k => spec_intOf.l0 k (ofL s) (pre ++ mulA rest c) (wrap64 (i + 1))) r → Ev (fun k => spec_intOf.l1 k (ofL s) (pre ++ rest) i c (pre.length : Int)) r
  | [], pre, c, _, h0, h9, hl, hk => by
    rw [List.append_nil]
    refine Ev.step (fun _ => by rw [spec_intOf.l1]) ?_
    refine ev_neg (by omega) ?_
    rw [mulA] at hk
    have hl' : pre.length + 0 ≤ 1000000 := hl
    by_cases hc : 0 < c
    · rw [if_pos hc] at hk
      refine ev_pos hc (ev_pos (by omega) ?_)
      have e : c % 256 = c := by omega
      rw [e]
      exact hk
    · rw [if_neg hc, List.append_nil] at hk
      exact ev_neg (by omega) hk
  | x :: rest, pre, c, hb, h0, h9, hl, hk => by
    have hx := hb.head
    have hl' : (x :: rest).length = rest.length + 1 := rfl
    have hlen : (pre ++ x :: rest).length = pre.length + (x :: rest).length := List.length_append
    have e1 : wrap64 (rd (pre ++ x :: rest) (pre.length : Int)) = x := by rw [rd_mid, wrap_in (by omega) (by omega)]
    have e2 : wrap64 (10 * x) = 10 * x := wrap_in (by omega) (by omega)
    have e3 : wrap64 (c + 10 * x) = c + 10 * x := wrap_in (by omega) (by omega)
    have e4 : Int.tmod (c + 10 * x) 256 % 256 = (c + 10 * x) % 256 := by
      rw [Int.tmod_eq_emod_of_nonneg (by omega)]
      omega
    have e5 : wrap64 (Int.tdiv (c + 10 * x) 256) = (c + 10 * x) / 256 := by
      rw [Int.tdiv_eq_ediv_of_nonneg (by omega), wrap_in (by omega) (by omega)]
    have e6 : wrap64 ((pre.length : Int) + 1) = ((pre ++ [(c + 10 * x) % 256]).length : Int) := by
      rw [wrap_nat (by omega), List.length_append, List.length_singleton]
    refine Ev.step (fun _ => by rw [spec_intOf.l1, e1, e2, e3, e4, e5, Int.toNat_natCast, set_mid, e6]) ?_
    refine ev_pos (by omega) (ev_pos (by omega) ?_)
    refine int_l1 s i r rest (pre ++ [(c + 10 * x) % 256]) ((c + 10 * x) / 256) hb.tail (by omega) (by omega) (by rw [List.length_append, List.length_singleton]; omega) ?_
    rw [mulA] at hk
    rw [List.append_assoc]
    exact hk
theorem int_l2 (m : List Int) (hm : m.length ≤ 1000000) (d : Nat) : ∀ j : Nat, j + d = m.length → Ev (fun k => spec_intOf.l2 k m (List.replicate d 0 ++ (m.take j).reverse) (j : Int)) (false, strOfNums m.reverse) := by
  induction d with
  | zero =>
    intro j h
    refine Ev.step (fun _ => by rw [spec_intOf.l2]) (ev_neg (by omega) (ev_now ?_))
    rw [List.take_of_length_le (by omega)]
    rfl
  | succ d ih =>
    intro j h
    have hj : j < m.length := by omega
    have e1 : wrap64 ((m.length : Int) - 1) = (m.length : Int) - 1 := wrap_in (by omega) (by omega)
    have e2 : wrap64 ((m.length : Int) - 1 - (j : Int)) = (d : Int) := by rw [wrap_in (by omega) (by omega)]; omega
    have e3 : rd m (j : Int) = m[j] := by
      rw [rd_nat, List.getD_eq_getElem?_getD, List.getElem?_eq_getElem hj]
      rfl
    have e4 : (List.replicate (d + 1) (0 : Int) ++ (m.take j).reverse).set d m[j] = List.replicate d 0 ++ (m.take (j + 1)).reverse := by
      rw [List.take_succ_eq_append_getElem hj, List.reverse_append, List.reverse_singleton, List.replicate_succ', List.append_assoc, List.set_append_right _ _ (by simp), List.length_replicate, Nat.sub_self]
      rfl
    have hlen : (List.replicate (d + 1) (0 : Int) ++ (m.take j).reverse).length = m.length := by
      rw [List.length_append, List.length_replicate, List.length_reverse, List.length_take]
      omega
    refine Ev.step (fun _ => by rw [spec_intOf.l2, e1, e2, e3, Int.toNat_natCast, e4, wrap_nat (by omega)]) ?_
    exact ev_pos (by omega) (ev_pos (by omega) (ev_pos (by omega) (ev_pos (by omega) (ih (j + 1) (by omega)))))
theorem int_l0 (s : List UInt8) (hs : s.length ≤ 100000) (hd : s.all dg = true) (d : Nat) : ∀ i : Nat, i + d = s.length → Ev (fun k => spec_intOf.l0 k (ofL s) (magL (s.take i)) (i : Int)) (false, strOfNums (magL s).reverse) := by
  have hz := ofL_size s
  induction d with
  | zero =>
    intro i h
    have hm := (mag_all s.length s rfl hd).2.2.2
    rw [List.take_of_length_le (by omega)]
    refine Ev.step (fun _ => by rw [spec_intOf.l0, Int.toNat_natCast]) ?_
    refine ev_neg (by omega) (ev_pos (by omega) (ev_pos (by omega) ?_))
    have := int_l2 (magL s) (by omega) (magL s).length 0 (by omega)
    simpa using this
  | succ d ih =>
    intro i h
    have hi : i < s.length := by omega
    have hc := bt_ofL s i hi
    have hall : (s.take i).all dg = true := by
      rw [List.all_eq_true] at *
      exact fun c hc => hd c (List.mem_of_mem_take hc)
    obtain ⟨m1, m2, m3, m4⟩ := mag_all (s.take i).length (s.take i) rfl hall
    have hdi : dg s[i] = true := List.all_eq_true.1 hd _ (List.getElem_mem hi)
    have hr := dv_range hdi
    have e1 : ((s[i].toNat : Int) - 48) % 256 = dv s[i] := by unfold dv at *; omega
    have hl : (s.take i).length ≤ i := List.length_take_le _ _
    refine Ev.step (fun _ => by rw [spec_intOf.l0, hc, e1]) ?_
    refine ev_pos (by omega) (ev_pos (by omega) ?_)
    have nx := ih (i + 1) (by omega)
    rw [List.take_succ_eq_append_getElem hi, magL_snoc, ← wrap_nat (by omega)] at nx
    exact int_l1 s (i : Int) _ (magL (s.take i)) [] (dv s[i]) m2 hr.1 hr.2 (by simp only [List.length_nil]; omega) nx
theorem intOf_ev (s : List UInt8) (hs : s.length ≤ 100000) (hd : s.all dg = true) : Ev (fun k => spec_intOf.f k (ofL s)) (false, ofL (magB s)) := by
  have := int_l0 s hs hd s.length 0 (by omega)
  rw [← magB_nums s hd, strOf_numsOf] at this
  exact this
/-- A sign ahead, and what is behind. -/
def sgn : List UInt8 → Bool × List UInt8
  | [] => (false, [])
  | c :: r => if c = 43 then (false, r) else if c = 45 then (true, r) else (false, c :: r)
/-- The number that a text is, as the reference reads it. -/
def numS (s : List UInt8) : Bool × List UInt8 × Bool := if allD (sgn s).2 then ((sgn s).1 && !(magB (sgn s).2).isEmpty, magB (sgn s).2, true) else (false, [], false)
def ofN (p : Bool × List UInt8 × Bool) : Bool × ByteArray × Bool := (p.1, ofL p.2.1, p.2.2)
theorem allD_all {l : List UInt8} (h : allD l = true) : l.all dg = true := by
  unfold allD at h
  rw [Bool.and_eq_true] at h
  exact h.1
theorem num_j1 (t : List UInt8) (ht : t.length ≤ 100000) (neg : Bool) : Ev (fun k => spec_Number.j1 k (ofL t) neg) (ofN (if allD t then (neg && !(magB t).isEmpty, magB t, true) else (false, [], false))) := by
  refine Ev.step (fun _ => by rw [spec_Number.j1]) (Ev.bind (digits_ev t (by omega)) ?_)
  cases h : allD t with
  | false => exact ev_f (ev_now rfl)
  | true =>
    refine ev_t (Ev.bind (intOf_ev t ht (allD_all h)) ?_)
    cases neg with
    | false => exact ev_f (ev_now rfl)
    | true =>
      refine ev_t (ev_now ?_)
      show (!(ofL (magB t)).toList.isEmpty, ofL (magB t), true) = _
      rw [toList_ofL]
      rfl
theorem n43 (c : UInt8) : ((c.toNat : Int) = 43) ↔ c = 43 := ⟨fun h => UInt8.toNat_inj.1 (by have : (43 : UInt8).toNat = 43 := rfl; omega), fun h => by rw [h]; rfl⟩
theorem n45 (c : UInt8) : ((c.toNat : Int) == 45) = decide (c = 45) := by
  rw [Bool.eq_iff_iff, beq_iff_eq, decide_eq_true_iff]
  exact ⟨fun h => UInt8.toNat_inj.1 (by have : (45 : UInt8).toNat = 45 := rfl; omega), fun h => by rw [h]; rfl⟩
theorem number_ev (s : List UInt8) (hs : s.length ≤ 100000) : Ev (fun k => spec_Number.f k (ofL s)) (ofN (numS s)) := by
  unfold spec_Number.f
  cases s with
  | nil =>
    refine ev_neg (by rw [ofL_size]; simp) ?_
    refine Ev.step (fun _ => by rw [spec_Number.j0]) ?_
    exact ev_f (num_j1 [] (by simp) false)
  | cons c r =>
    have hb : bt (ofL (c :: r)) 0 = (c.toNat : Int) := bt_ofL (c :: r) 0 (by simp)
    have hz := ofL_size (c :: r)
    have hl : (c :: r).length = r.length + 1 := rfl
    have hx : (ofL (c :: r)).extract 1 (ofL (c :: r)).size = ofL r := by
      rw [ofL_size, ofL_extract, List.take_length]
      rfl
    rw [hb, n45]
    refine ev_pos (by omega) (ev_pos (by omega) ?_)
    by_cases h1 : c = 43
    · refine ev_pos ((n43 c).2 h1) ?_
      refine Ev.step (fun _ => by rw [spec_Number.j0, hb, n45, hx]) ?_
      refine ev_t (ev_pos (by omega) (ev_pos (by omega) ?_))
      have h2 : ¬ c = 45 := fun e => by rw [h1] at e; cases e
      rw [decide_eq_false h2, numS, show sgn (c :: r) = (false, r) from if_pos h1]
      exact num_j1 r (by omega) false
    · refine ev_neg (fun h => h1 ((n43 c).1 h)) ?_
      by_cases h2 : c = 45
      · rw [decide_eq_true h2]
        refine Ev.step (fun _ => by rw [spec_Number.j0, hb, n45, hx, decide_eq_true h2]) ?_
        refine ev_t (ev_pos (by omega) (ev_pos (by omega) ?_))
        rw [numS, show sgn (c :: r) = (true, r) from (if_neg h1).trans (if_pos h2)]
        exact num_j1 r (by omega) true
      · rw [decide_eq_false h2]
        refine Ev.step (fun _ => by rw [spec_Number.j0]) ?_
        rw [numS, show sgn (c :: r) = (false, c :: r) from (if_neg h1).trans (if_neg h2)]
        exact ev_f (num_j1 (c :: r) (by omega) false)
end Go.Proofs.YtmhlmkefnmdbcaaDoor.Com

namespace Go.Proofs.YtmhlmkefnmdbcaaDoor.Com
open Go Go.RowKit Go.Proofs.YtmhlmkefnmdbcaaDoor.Z Go.Proofs.YtmhlmkefnmdbcaaDoor.Evs Go.Proofs.YtmhlmkefnmdbcaaDoor.By Go.Proofs.YtmhlmkefnmdbcaaDoor.Bv Go.Proofs.YtmhlmkefnmdbcaaDoor.Ss Go.Proofs.YtmhlmkefnmdbcaaDoorW.PrintWords Go.Proofs.YtmhlmkefnmdbcaaDoorW.PrintLast
set_option linter.unusedVariables false
set_option linter.unusedSimpArgs false
theorem sg_of (l : List UInt8) : l.drop (sgN (ofL l)) = (sgn l).2 ∧ sgB (ofL l) = (sgn l).1 := by
  cases l with
  | nil => exact ⟨rfl, rfl⟩
  | cons c r =>
    have h0 : 0 < (ofL (c :: r)).size := by rw [ofL_size]; simp
    have hg : (ofL (c :: r))[0]'h0 = c := rfl
    have e : sgn (c :: r) = if c = 43 then (false, r) else if c = 45 then (true, r) else (false, c :: r) := rfl
    unfold sgN sgB
    rw [dif_pos h0, dif_pos h0, hg, e]
    by_cases h1 : c = 43
    · subst h1
      exact ⟨rfl, rfl⟩
    · rw [if_neg h1]
      by_cases h2 : c = 45
      · subst h2
        exact ⟨rfl, rfl⟩
      · rw [if_neg h2, if_neg (by simp [h1, h2])]
        exact ⟨rfl, beq_eq_false_iff_ne.2 h2⟩
/-- The number that a text is. -/
def valS (l : List UInt8) : Option Int := if allD (sgn l).2 then some (if (sgn l).1 then -decV (sgn l).2 else decV (sgn l).2) else none
theorem cvt_val (l : List UInt8) : cvt (ofL l) = valS l := by
  obtain ⟨h1, h2⟩ := sg_of l
  unfold cvt valS
  rw [bl_ofL, h1, h2]
  by_cases ha : allD (sgn l).2 = true
  · have hb := ha
    unfold allD at hb
    rw [Bool.and_eq_true] at hb
    have hl : 0 < (sgn l).2.length := of_decide_eq_true hb.2
    rw [if_pos ha, if_pos ⟨fun h => by rw [h] at hl; simp at hl, hb.1⟩]
  · rw [if_neg ha, if_neg]
    rintro ⟨h3, h4⟩
    apply ha
    unfold allD
    rw [h4, decide_eq_true (List.length_pos_iff.2 h3)]
    rfl
theorem numS_cvt (l : List UInt8) : ofN (numS l) = match cvt (ofL l) with | none => (false, (⟨#[]⟩ : ByteArray), false) | some z => (decide (z < 0), plainS z, true) := by
  rw [cvt_val]
  unfold valS numS ofN
  by_cases ha : allD (sgn l).2 = true
  · rw [if_pos ha, if_pos ha]
    have hd := allD_all ha
    have h0 := (decV_bounds _ hd).1
    have hv := magB_val _ hd
    have hc := magB_can _ hd
    have hz : ((sgn l).2 |> decV).natAbs = (decV (sgn l).2).toNat := by omega
    have hm : magB (sgn l).2 = magOf (decV (sgn l).2).toNat := magOf_of hc (by rw [hv]; omega)
    have he : decide (0 < decV (sgn l).2) = !(magB (sgn l).2).isEmpty := by
      cases hb : magB (sgn l).2 with
      | nil =>
        rw [hb] at hv
        have : (0 : Int) = decV (sgn l).2 := hv
        rw [← this]
        rfl
      | cons x r =>
        rw [hb] at hv hc
        have h1 := canB_pos hc
        have h2 := beV_nonneg r
        have h3 := pow256_pos r.length
        have h4 : beV (x :: r) = (x.toNat : Int) * 256 ^ r.length + beV r := rfl
        have h5 : (1 : Int) * 1 ≤ (x.toNat : Int) * 256 ^ r.length := Int.mul_le_mul (by omega) h3 (by omega) (by omega)
        have h6 : 0 < decV (sgn l).2 := by omega
        rw [decide_eq_true h6]
        rfl
    show ((sgn l).1 && !(magB (sgn l).2).isEmpty, ofL (magB (sgn l).2), true) = (decide ((if (sgn l).1 = true then -decV (sgn l).2 else decV (sgn l).2) < 0), plainS _, true)
    have hp : plainS (if (sgn l).1 = true then -decV (sgn l).2 else decV (sgn l).2) = ofL (magB (sgn l).2) := by
      unfold plainS
      rw [hm]
      congr 2
      split <;> omega
    rw [hp, ← he]
    cases hs : (sgn l).1
    · have : decide ((if false = true then -decV (sgn l).2 else decV (sgn l).2) < 0) = false := decide_eq_false (by simp; omega)
      rw [this]
      rfl
    · have : decide ((if true = true then -decV (sgn l).2 else decV (sgn l).2) < 0) = decide (0 < decV (sgn l).2) := by simp
      rw [this]
      rfl
  · rw [if_neg ha, if_neg ha]
    rfl
end Go.Proofs.YtmhlmkefnmdbcaaDoor.Com

namespace Go.Proofs.YtmhlmkefnmdbcaaDoor.Com
open Go Go.RowKit Go.Proofs.YtmhlmkefnmdbcaaDoor.Z Go.Proofs.YtmhlmkefnmdbcaaDoor.Evs Go.Proofs.YtmhlmkefnmdbcaaDoor.By Go.Proofs.YtmhlmkefnmdbcaaDoorW.PrintWords Go.Proofs.YtmhlmkefnmdbcaaDoorW.PrintLast
set_option linter.unusedVariables false
set_option linter.unusedSimpArgs false

def cmpI (a b : Int) : Int := if a < b then -1 else if b < a then 1 else 0
theorem orderI_f (a b : Int) : spec_orderInts.f a b = some (cmpI a b) := by
  unfold spec_orderInts.f cmpI
  split
  · rfl
  · split
    · rfl
    · rfl
theorem bless : ∀ a b : List UInt8, Op.bytesLess a b = decide (Lib.compareBytes a b = -1)
  | [], [] => rfl
  | [], _ :: _ => rfl
  | _ :: _, [] => rfl
  | x :: a, y :: b => by
    rw [Op.bytesLess, Lib.compareBytes, bless a b]
    by_cases h : x < y
    · rw [if_pos h]
      simp [h]
    · rw [if_neg h]
      by_cases h2 : y < x
      · rw [if_pos h2]
        have : ¬ x = y := fun e => by subst e; exact h h2
        simp [h, this]
      · rw [if_neg h2]
        have : x = y := UInt8.toNat_inj.1 (by have h : ¬ x.toNat < y.toNat := h; have h2 : ¬ y.toNat < x.toNat := h2; omega)
        subst this
        simp [h]
theorem cmpB_range : ∀ a b : List UInt8, Lib.compareBytes a b = -1 ∨ Lib.compareBytes a b = 0 ∨ Lib.compareBytes a b = 1
  | [], [] => .inr (.inl rfl)
  | [], _ :: _ => .inl rfl
  | _ :: _, [] => .inr (.inr rfl)
  | x :: a, y :: b => by
    rw [Lib.compareBytes]
    split
    · exact .inl rfl
    · split
      · exact .inr (.inr rfl)
      · exact cmpB_range a b
theorem cmpB_anti : ∀ a b : List UInt8, Lib.compareBytes b a = -Lib.compareBytes a b
  | [], [] => rfl
  | [], _ :: _ => rfl
  | _ :: _, [] => rfl
  | x :: a, y :: b => by
    rw [Lib.compareBytes, Lib.compareBytes, cmpB_anti a b]
    by_cases h : x < y
    · have h2 : ¬ y < x := fun h2 => by have h : x.toNat < y.toNat := h; have h2 : y.toNat < x.toNat := h2; omega
      rw [if_pos h, if_neg h2, if_pos h]; rfl
    · by_cases h2 : y < x
      · rw [if_pos h2, if_neg h, if_pos h2]
      · rw [if_neg h2, if_neg h, if_neg h, if_neg h2]
theorem order_f (a b : List UInt8) : spec_order.f (ofL a) (ofL b) = some (Lib.compareBytes a b) := by
  unfold spec_order.f
  rw [toList_ofL, toList_ofL, bless, bless, cmpB_anti a b]
  rcases cmpB_range a b with h | h | h <;> rw [h] <;> rfl
/-- Digits without the zeros ahead. -/
def stripZ (l : List UInt8) : List UInt8 := l.dropWhile (· == 48)
def cmpD (a b : List UInt8) : Int := if (stripZ a).length = (stripZ b).length then Lib.compareBytes (stripZ a) (stripZ b) else cmpI ((stripZ a).length : Int) ((stripZ b).length : Int)
theorem strip_not (c : UInt8) (l : List UInt8) (e : ¬ c = 48) : stripZ (c :: l) = c :: l := by
  rw [stripZ, List.dropWhile_cons, if_neg (by simpa using e)]
theorem ext1 (c : UInt8) (r : List UInt8) : (ofL (c :: r)).extract 1 (ofL (c :: r)).size = ofL r := by
  rw [ofL_size, ofL_extract, List.take_length]
  rfl
theorem onum3 (a b : List UInt8) : Ev (fun k => spec_orderNumbers.j3 k (ofL a) (ofL b)) (if a.length = b.length then Lib.compareBytes a b else cmpI (a.length : Int) (b.length : Int)) := by
  refine Ev.step (fun _ => by rw [spec_orderNumbers.j3, ofL_size, ofL_size, order_f, orderI_f]) ?_
  by_cases h : a.length = b.length
  · rw [if_pos h]
    exact ev_pos (by omega) (ev_now rfl)
  · rw [if_neg h]
    exact ev_neg (by omega) (ev_now rfl)
theorem onum1 (a : List UInt8) : ∀ (b : List UInt8), b.length ≤ 140737488351232 → Ev (fun k => spec_orderNumbers.l1 k (ofL a) (ofL b)) (if a.length = (stripZ b).length then Lib.compareBytes a (stripZ b) else cmpI (a.length : Int) ((stripZ b).length : Int))
  | [], _ => Ev.step (fun _ => by rw [spec_orderNumbers.l1]) (ev_neg (by rw [ofL_size]; simp) (onum3 a []))
  | c :: b, h => by
    have hb : bt (ofL (c :: b)) 0 = (c.toNat : Int) := bt_ofL (c :: b) 0 (by simp)
    have hs := ofL_size (c :: b)
    have hl : (c :: b).length = b.length + 1 := rfl
    refine Ev.step (fun _ => by rw [spec_orderNumbers.l1, hb, ext1]) (ev_pos (by omega) (ev_pos (by omega) ?_))
    by_cases e : c = 48
    · subst e
      refine ev_pos rfl (ev_pos (by omega) ?_)
      have := onum1 a b (by omega)
      rw [show stripZ (48 :: b) = stripZ b from rfl]
      exact this
    · refine ev_neg (fun h => e (UInt8.toNat_inj.1 (by have : (48 : UInt8).toNat = 48 := rfl; omega))) ?_
      rw [strip_not c b e]
      exact onum3 a (c :: b)
theorem onum0 (b : List UInt8) (hb0 : b.length ≤ 140737488351232) : ∀ (a : List UInt8), a.length ≤ 140737488351232 → Ev (fun k => spec_orderNumbers.l0 k (ofL a) (ofL b)) (cmpD a b)
  | [], _ => Ev.step (fun _ => by rw [spec_orderNumbers.l0]) (ev_neg (by rw [ofL_size]; simp) (Ev.step (fun _ => by rw [spec_orderNumbers.j1]) (onum1 [] b hb0)))
  | c :: a, h => by
    have hb : bt (ofL (c :: a)) 0 = (c.toNat : Int) := bt_ofL (c :: a) 0 (by simp)
    have hs := ofL_size (c :: a)
    have hl : (c :: a).length = a.length + 1 := rfl
    refine Ev.step (fun _ => by rw [spec_orderNumbers.l0, hb, ext1]) (ev_pos (by omega) (ev_pos (by omega) ?_))
    by_cases e : c = 48
    · subst e
      refine ev_pos rfl (ev_pos (by omega) ?_)
      have := onum0 b hb0 a (by omega)
      rw [cmpD, show stripZ (48 :: a) = stripZ a from rfl]
      exact this
    · refine ev_neg (fun h => e (UInt8.toNat_inj.1 (by have : (48 : UInt8).toNat = 48 := rfl; omega))) ?_
      rw [cmpD, strip_not c a e]
      exact Ev.step (fun _ => by rw [spec_orderNumbers.j1]) (onum1 (c :: a) b hb0)
theorem orderNumbers_ev (a b : List UInt8) (ha : a.length ≤ 140737488351232) (hb : b.length ≤ 140737488351232) : Ev (fun k => spec_orderNumbers.f k (ofL a) (ofL b)) (cmpD a b) := onum0 b hb a ha
end Go.Proofs.YtmhlmkefnmdbcaaDoor.Com

namespace Go.Proofs.YtmhlmkefnmdbcaaDoor.Com
open Go.RowKit Go.Proofs.YtmhlmkefnmdbcaaDoor.Z Go.Proofs.YtmhlmkefnmdbcaaDoor.Evs Go.Proofs.YtmhlmkefnmdbcaaDoor.By Go.Proofs.YtmhlmkefnmdbcaaDoorW.PrintWords Go.Proofs.YtmhlmkefnmdbcaaDoorW.PrintLast
set_option linter.unusedVariables false
set_option linter.unusedSimpArgs false

theorem canon_false (l : List UInt8) : ∀ pd pd', canonL l false pd = canonL l false pd' := by
  induction l with
  | nil => intro _ _; rfl
  | cons c l ih =>
    intro pd pd'
    by_cases h : c = 46
    · subst h
      rw [canon_dot, canon_dot, ih pd pd']
    · rw [canon_one _ _ _ _ h rfl, canon_one _ _ _ _ h rfl]
theorem canon_idem (l : List UInt8) : ∀ cp pd, canonL (canonL l cp pd) cp pd = canonL l cp pd := by
  induction l with
  | nil => intro _ _; rfl
  | cons c l ih =>
    intro cp pd
    by_cases h : c = 46
    · subst h
      rw [canon_dot, canon_dot, ih]
    · cases h2 : (cp && (pd != digC c)) with
      | true =>
        rw [canon_two _ _ _ _ h h2, canon_dot, canon_one _ _ _ _ h rfl, ih]
      | false =>
        rw [canon_one _ _ _ _ h h2, canon_one _ _ _ _ h h2, ih]
theorem canon_length (l : List UInt8) : ∀ cp pd, (canonL l cp pd).length ≤ 2 * l.length := by
  induction l with
  | nil => intro _ _; simp [canonL]
  | cons c l ih =>
    intro cp pd
    by_cases h : c = 46
    · subst h
      rw [canon_dot]
      have := ih false pd
      simp only [List.length_cons]
      omega
    · have := ih true (digC c)
      cases h2 : (cp && (pd != digC c)) with
      | true =>
        rw [canon_two _ _ _ _ h h2]
        simp only [List.length_cons]
        omega
      | false =>
        rw [canon_one _ _ _ _ h h2]
        simp only [List.length_cons]
        omega
theorem canon_ascii (l : List UInt8) : (∀ c ∈ l, c.toNat < 128) → ∀ cp pd, ∀ c ∈ canonL l cp pd, c.toNat < 128 := by
  induction l with
  | nil => intro _ _ _ c hc; simp [canonL] at hc
  | cons a l ih =>
    intro ha cp pd c hc
    have h0 := ha a (by simp)
    have ih := ih (fun x hx => ha x (by simp [hx]))
    have p46 : (46 : UInt8).toNat < 128 := by decide
    by_cases h : a = 46
    · subst h
      rw [canon_dot] at hc
      rcases List.mem_cons.1 hc with rfl | hc
      · exact p46
      · exact ih _ _ c hc
    · cases h2 : (cp && (pd != digC a)) with
      | true =>
        rw [canon_two _ _ _ _ h h2] at hc
        rcases List.mem_cons.1 hc with rfl | hc
        · exact p46
        · rcases List.mem_cons.1 hc with rfl | hc
          · exact h0
          · exact ih _ _ c hc
      | false =>
        rw [canon_one _ _ _ _ h h2] at hc
        rcases List.mem_cons.1 hc with rfl | hc
        · exact h0
        · exact ih _ _ c hc
theorem c46 (c : UInt8) : (c.toNat : Int) = 46 ↔ c = 46 := ⟨fun h => UInt8.toNat_inj.1 (by have : (46 : UInt8).toNat = 46 := rfl; omega), fun h => by rw [h]; rfl⟩
/-- What stands ahead of a place. -/
def Prev (l : List UInt8) (i : Nat) (cp pd : Bool) : Prop := (i = 0 ∧ cp = false) ∨ (∃ h : i - 1 < l.length, 0 < i ∧ (l[i - 1]'h = 46 ∧ cp = false ∨ ¬ l[i - 1]'h = 46 ∧ cp = true ∧ pd = dg (l[i - 1]'h)))
theorem canon_l (l : List UInt8) (hl : l.length ≤ 100000) (d : Nat) : ∀ (i : Nat) (A : List UInt8) (cp pd : Bool), i + d = l.length → A.length ≤ 2 * i → Prev l i cp pd →
    Ev (fun k => spec_RubyCanonical.l0 k (ofL l) (numsOf A) (i : Int)) (ofL (A ++ canonL (l.drop i) cp pd)) := by
  have hs := ofL_size l
  induction d with
  | zero =>
    intro i A cp pd h ha hp
    refine Ev.step (fun _ => by rw [spec_RubyCanonical.l0]) (ev_neg (by omega) (ev_now ?_))
    rw [List.drop_of_length_le (by omega), strOf_numsOf]
    simp [canonL]
  | succ d ih =>
    intro i A cp pd h ha hp
    have hi : i < l.length := by omega
    have hc := bt_ofL l i hi
    have e : l.drop i = l[i] :: l.drop (i + 1) := List.drop_eq_getElem_cons hi
    have hn := numsOf_length A
    have hw : wrap64 ((i : Int) + 1) = ((i + 1 : Nat) : Int) := wrap_nat (by omega)
    have hd := isDigit_f l[i]
    have next1 : ∀ pd', dg l[i] = pd' → ¬ l[i] = 46 → (cp && (pd != dg l[i])) = false → Ev (fun k => spec_RubyCanonical.l0 k (ofL l) (numsOf A ++ [(l[i].toNat : Int)]) ((i + 1 : Nat) : Int)) (ofL (A ++ canonL (l.drop i) cp pd)) := by
      intro pd' hpd hne hq
      rw [numsOf_one, numsOf_append]
      refine ev_eq (ih (i + 1) (A ++ [l[i]]) true pd' (by omega) (by simp; omega) (Or.inr ⟨by simpa using hi, by omega, Or.inr ⟨by simpa using hne, rfl, by simp [hpd]⟩⟩)) ?_
      rw [e, canon_one _ _ _ _ hne hq, List.append_assoc]
      rw [← hpd]
      rfl
    rcases hp with ⟨rfl, rfl⟩ | ⟨hj, hi0, hp⟩
    · refine Ev.step (fun _ => by rw [spec_RubyCanonical.l0, hc, hw]) (ev_pos (by omega) (ev_neg (by omega) (ev_pos (by omega) (ev_pos (by omega) ?_))))
      by_cases h46 : l[0] = 46
      · rw [numsOf_one, numsOf_append]
        refine ev_eq (ih 1 (A ++ [l[0]]) false pd (by omega) (by simp; omega) (Or.inr ⟨by omega, by omega, Or.inl ⟨h46, rfl⟩⟩)) ?_
        rw [e, h46, canon_dot]
        simp
      · exact next1 _ rfl h46 rfl
    · have hb : bt (ofL l) (wrap64 ((i : Int) - 1)) = (l[i - 1].toNat : Int) := by
        rw [wrap_in (by omega) (by omega), show (i : Int) - 1 = ((i - 1 : Nat) : Int) by omega]
        exact bt_ofL l (i - 1) hj
      have hw1 : wrap64 ((i : Int) - 1) = (i : Int) - 1 := wrap_in (by omega) (by omega)
      refine Ev.step (fun _ => by rw [spec_RubyCanonical.l0, hc, hw, hb, hd, isDigit_f, Option.bind_some, Option.bind_some, Option.bind_some]) (ev_pos (by omega) (ev_pos (by omega) (ev_pos (by omega) ?_)))
      by_cases h46 : l[i] = 46
      · refine ev_pos ((c46 _).2 h46) (ev_pos (by omega) ?_)
        rw [numsOf_one, numsOf_append]
        refine ev_eq (ih (i + 1) (A ++ [l[i]]) false pd (by omega) (by simp; omega) (Or.inr ⟨by simpa using hi, by omega, Or.inl ⟨by simpa using h46, rfl⟩⟩)) ?_
        rw [e, h46, canon_dot]
        simp
      · refine ev_neg (fun hh => h46 ((c46 _).1 hh)) (ev_pos (by omega) (ev_pos (by omega) ?_))
        rcases hp with ⟨hp, rfl⟩ | ⟨hp, rfl, rfl⟩
        · refine ev_pos ((c46 _).2 hp) (ev_pos (by omega) ?_)
          exact next1 _ rfl h46 rfl
        · refine ev_neg (fun hh => hp ((c46 _).1 hh)) ?_
          cases h2 : (dg l[i] != dg l[i - 1]) with
          | true =>
            refine ev_t (ev_pos (by omega) (ev_pos (by rw [List.length_append]; simp; omega) ?_))
            have h3 : (true && (dg l[i - 1] != digC l[i])) = true := by
              rw [Bool.true_and]
              show (dg l[i - 1] != dg l[i]) = true
              rw [← h2]
              cases dg l[i] <;> cases dg l[i - 1] <;> rfl
            have h46n : [(46 : Int)] = numsOf [46] := rfl
            rw [numsOf_one, h46n, numsOf_append, numsOf_append]
            refine ev_eq (ih (i + 1) ((A ++ [46]) ++ [l[i]]) true (dg l[i]) (by omega) (by simp; omega) (Or.inr ⟨by simpa using hi, by omega, Or.inr ⟨by simpa using h46, rfl, by simp⟩⟩)) ?_
            rw [e, canon_two _ _ _ _ h46 h3, List.append_assoc, List.append_assoc]
            rfl
          | false =>
            refine ev_f (ev_pos (by omega) ?_)
            refine next1 _ rfl h46 ?_
            rw [Bool.true_and, ← h2]
            cases dg l[i] <;> cases dg l[i - 1] <;> rfl
theorem canon_ev (l : List UInt8) (hl : l.length ≤ 100000) : Ev (fun k => spec_RubyCanonical.f k (ofL l)) (ofL (canonL l false true)) := by
  have := canon_l l hl l.length 0 [] false true (by omega) (by simp) (Or.inl ⟨rfl, rfl⟩)
  exact this
theorem cutP_sizes (p : UInt8 → Bool) (l : List UInt8) : (cutP p l).length ≤ l.length + 1 ∧ ∀ x ∈ cutP p l, x.length ≤ l.length := by
  induction l with
  | nil => simp [cutP]
  | cons c l ih =>
    unfold cutP
    split
    · constructor
      · simp; omega
      · intro x hx
        rcases List.mem_cons.1 hx with rfl | hx
        · simp
        · have := ih.2 x hx
          simp; omega
    · cases e : cutP p l with
      | nil => exact absurd e (cutP_ne p l)
      | cons y r =>
        rw [e] at ih
        obtain ⟨h1, h2⟩ := ih
        constructor
        · simp at h1 ⊢; omega
        · intro x hx
          rcases List.mem_cons.1 hx with rfl | hx
          · have := h2 y (by simp)
            simp; omega
          · have := h2 x (by simp [hx])
            simp; omega
/-- The pieces of a version's text. -/
def rbPcs (l : List UInt8) : List (List UInt8) := cutP ptB (canonL l false true)
theorem rubyKnown_ev (l : List UInt8) (hl : l.length ≤ 10000) : ∃ r, Ev (fun k => spec_RubyKnown.f k (ofL l)) r ∧ (r = true → (∀ c ∈ l, c.toNat < 128) ∧ segK (rbPcs l) = true) := by
  obtain ⟨b, hb, ha⟩ := ascii_ev (ofL l) (by rw [ofL_size]; omega)
  cases b with
  | false =>
    refine ⟨false, ?_, by simp⟩
    unfold spec_RubyKnown.f
    exact Ev.bind hb (ev_f (ev_now rfl))
  | true =>
    have hlen := canon_length l false true
    obtain ⟨s1, s2⟩ := cutP_sizes ptB (canonL l false true)
    refine ⟨segK (rbPcs l), ?_, fun hr => ⟨fun c hc => ?_, hr⟩⟩
    · unfold spec_RubyKnown.f
      refine Ev.bind hb (ev_t (Ev.bind (canon_ev l (by omega)) (Ev.bind (cut_ev _ (by omega) 42) (Ev.bind (seg_ev _ (by omega) ?_) (ev_now rfl)))))
      intro x hx
      have := s2 x hx
      omega
    · obtain ⟨j, hj, rfl⟩ := List.mem_iff_getElem.1 hc
      exact ha rfl j (by rw [ofL_size]; exact hj)
theorem rbPcs_sizes (l : List UInt8) : (rbPcs l).length ≤ 2 * l.length + 1 ∧ ∀ x ∈ rbPcs l, x.length ≤ 2 * l.length := by
  have hlen := canon_length l false true
  obtain ⟨s1, s2⟩ := cutP_sizes ptB (canonL l false true)
  exact ⟨by unfold rbPcs; omega, fun x hx => by have := s2 x hx; omega⟩
theorem canonF (l : List UInt8) (hl : l.length ≤ 100000) (ha : ∀ c ∈ l, c.toNat < 128) : semantic_canonicalizeRubyGemVersion.f (ofL l) = some (ofL (canonL l false true)) := by
  have h1 : decide (∀ i : Nat, (h : i < (ofL l).size) → ((ofL l)[i]'h).toNat < 128) = true := decide_eq_true fun i h => by
    rw [ofL_get]
    exact ha _ (List.getElem_mem _)
  have h2 : decide ((ofL l).size ≤ 140737488351) = true := decide_eq_true (by rw [ofL_size]; omega)
  unfold semantic_canonicalizeRubyGemVersion.f
  rw [h1, h2]
  rfl
end Go.Proofs.YtmhlmkefnmdbcaaDoor.Com

namespace Go.Proofs.YtmhlmkefnmdbcaaDoor.Com
open Go Go.RowKit Go.Proofs.YtmhlmkefnmdbcaaDoor.Z Go.Proofs.YtmhlmkefnmdbcaaDoor.Evs Go.Proofs.YtmhlmkefnmdbcaaDoor.By Go.Proofs.YtmhlmkefnmdbcaaDoor.Ss Go.Proofs.YtmhlmkefnmdbcaaDoorW.PrintWords Go.Proofs.YtmhlmkefnmdbcaaDoorW.PrintLast
set_option linter.unusedVariables false
set_option linter.unusedSimpArgs false

/-- How many segments stay. -/
def tz (l : List ByteArray) : Nat → Nat
  | 0 => 0
  | n + 1 => if (l.getD n ByteArray.empty).toList = ([48] : List UInt8) then tz l n else n + 1
theorem tz_le (l : List ByteArray) : ∀ n, tz l n ≤ n
  | 0 => Nat.le_refl _
  | n + 1 => by
    unfold tz
    split
    · exact Nat.le_succ_of_le (tz_le l n)
    · exact Nat.le_refl _
theorem zeros_l (l : List ByteArray) (hl : l.length ≤ 1000000) : ∀ n : Nat, n ≤ l.length → Ev (fun k => semantic_removeZeros.l0 k l ((n : Int) - 1)) (l.take (tz l n))
  | 0, _ => by
    have h : ((0 : Nat) : Int) - 1 = -1 := by omega
    have hm : mx (-1 : Int) 0 = 0 := by unfold mx; simp
    rw [h]
    refine Ev.step (fun _ => by rw [semantic_removeZeros.l0, hm]) (ev_neg (by omega) (ev_pos (by omega) (ev_pos (by omega) (ev_now ?_))))
    rfl
  | n + 1, hn => by
    have h : ((n + 1 : Nat) : Int) - 1 = (n : Int) := by omega
    have hw : wrap64 ((n : Int) + 1) = ((n + 1 : Nat) : Int) := wrap_nat (by omega)
    have hw2 : wrap64 ((n : Int) - 1) = (n : Int) - 1 := wrap_in (by omega) (by omega)
    have hm : mx ((n + 1 : Nat) : Int) 0 = ((n + 1 : Nat) : Int) := by unfold mx; rw [if_neg (by omega)]
    rw [h]
    unfold tz
    by_cases c : (l.getD n ByteArray.empty).toList = ([48] : List UInt8)
    · rw [if_pos c]
      exact Ev.step (fun _ => by rw [semantic_removeZeros.l0, rdOf_nat, hw2]) (ev_pos (by omega) (ev_pos (by omega) (ev_pos (by omega) (ev_pos c (zeros_l l hl n (by omega))))))
    · rw [if_neg c]
      refine Ev.step (fun _ => by rw [semantic_removeZeros.l0, rdOf_nat, hw, hm]) (ev_pos (by omega) (ev_pos (by omega) (ev_pos (by omega) (ev_neg c (ev_pos (by omega) (ev_pos (by omega) (ev_now ?_)))))))
      rfl
theorem zeros_f (l : List ByteArray) (hl : l.length ≤ 1000000) : Ev (fun k => semantic_removeZeros.f k l) (l.take (tz l l.length)) := by
  unfold semantic_removeZeros.f
  rw [wrap_in (by omega) (by omega)]
  exact zeros_l l hl l.length (Nat.le_refl _)
theorem trim_l (l : List ByteArray) (hl : l.length ≤ 1000000) : ∀ n : Nat, n ≤ l.length → Ev (fun k => spec_RubyTrim.l0 k l (n : Int)) (l.take (tz l n))
  | 0, _ => by
    refine Ev.step (fun _ => by rw [spec_RubyTrim.l0]) (ev_neg (by omega) (ev_pos (by omega) (ev_pos (by omega) (ev_pos (by simp) (ev_now ?_)))))
    rfl
  | n + 1, hn => by
    have hw2 : wrap64 (((n + 1 : Nat) : Int) - 1) = (n : Int) := (wrap_in (by omega) (by omega)).trans (by omega)
    unfold tz
    by_cases c : (l.getD n ByteArray.empty).toList = ([48] : List UInt8)
    · rw [if_pos c]
      exact Ev.step (fun _ => by rw [spec_RubyTrim.l0, hw2, rdOf_nat]) (ev_pos (by omega) (ev_pos (by omega) (ev_pos (by omega) (ev_pos c (trim_l l hl n (by omega))))))
    · rw [if_neg c]
      refine Ev.step (fun _ => by rw [spec_RubyTrim.l0, hw2, rdOf_nat]) (ev_pos (by omega) (ev_pos (by omega) (ev_pos (by omega) (ev_neg c (ev_pos (by omega) (ev_pos (by omega) (ev_pos (by simp; omega) (ev_now ?_))))))))
      rfl
theorem dig_sg {l : List UInt8} (h : allD l = true) : sgN (ofL l) = 0 ∧ sgB (ofL l) = false := by
  cases l with
  | nil => cases h
  | cons c r =>
    have h0 : 0 < (ofL (c :: r)).size := by rw [ofL_size]; simp
    have hg : (ofL (c :: r))[0]'h0 = c := rfl
    have hd : dg c = true := by
      unfold allD at h
      rw [Bool.and_eq_true] at h
      exact List.all_eq_true.1 h.1 c (by simp)
    have h1 : ¬ c = 45 := fun e => by subst e; revert hd; decide
    have h2 : ¬ c = 43 := fun e => by subst e; revert hd; decide
    unfold sgN sgB
    rw [dif_pos h0, dif_pos h0, hg, if_neg (by simp [h1, h2])]
    exact ⟨rfl, beq_eq_false_iff_ne.2 h1⟩
theorem cvt_digits {l : List UInt8} (h : allD l = true) : cvt (ofL l) = some (Bv.decV l) := by
  obtain ⟨h1, h2⟩ := dig_sg h
  have hb := h
  unfold allD at hb
  rw [Bool.and_eq_true] at hb
  have hl : 0 < l.length := of_decide_eq_true hb.2
  unfold cvt
  rw [h1, h2, bl_ofL, List.drop_zero, if_pos ⟨fun e => by rw [e] at hl; simp at hl, hb.1⟩]
  rfl
theorem cvt_other {l : List UInt8} (h : allD l = false) (hs : signed l = false) : cvt (ofL l) = none := by
  refine if_neg ?_
  rw [bl_ofL]
  rintro ⟨h1, h2⟩
  cases l with
  | nil => exact h1 (by simp)
  | cons c r =>
    have h0 : 0 < (ofL (c :: r)).size := by rw [ofL_size]; simp
    have hg : (ofL (c :: r))[0]'h0 = c := rfl
    have hn : sgN (ofL (c :: r)) = if c = 45 ∨ c = 43 then 1 else 0 := by
      unfold sgN
      rw [dif_pos h0, hg]
    rw [hn] at h1 h2
    by_cases hc : c = 45 ∨ c = 43
    · rw [if_pos hc] at h1 h2
      have e : signed (c :: r) = allD r := by
        have : (c == 45 || c == 43) = true := by
          rcases hc with rfl | rfl <;> rfl
        simp only [signed, this, Bool.true_and]
      rw [e] at hs
      unfold allD at hs
      have h3 : r.all dg = true := h2
      have h4 : 0 < r.length := List.length_pos_iff.2 h1
      rw [h3, decide_eq_true h4] at hs
      cases hs
    · rw [if_neg hc] at h1 h2
      unfold allD at h
      have h3 : (c :: r).all dg = true := h2
      rw [h3, decide_eq_true (by simp)] at h
      cases h
theorem cmpI_Z (a b : Int) : cmpI a b = Bn.cmpZ a b := rfl
theorem cmpD_Z {a b : List UInt8} (ha : allD a = true) (hb : allD b = true) : cmpD a b = Bn.cmpZ (Bv.decV a) (Bv.decV b) := by
  unfold allD at ha hb
  rw [Bool.and_eq_true] at ha hb
  exact Bv.dec_cmp a b ha.1 hb.1
theorem cmpZ_range (a b : Int) : Bn.cmpZ a b = -1 ∨ Bn.cmpZ a b = 0 ∨ Bn.cmpZ a b = 1 := by
  unfold Bn.cmpZ
  split
  · simp
  · split <;> simp
theorem cmpZ_anti (a b : Int) : Bn.cmpZ b a = -Bn.cmpZ a b := by
  unfold Bn.cmpZ
  rcases Int.lt_trichotomy a b with h | h | h
  · rw [if_neg (by omega), if_pos h, if_pos h]
    rfl
  · rw [if_neg (by omega), if_neg (by omega), if_neg (by omega), if_neg (by omega)]
    rfl
  · rw [if_pos h, if_neg (by omega), if_pos h]
theorem rbC_range (x y : ByteArray) : rbC x y = -1 ∨ rbC x y = 0 ∨ rbC x y = 1 := by
  unfold rbC
  split
  · exact cmpZ_range _ _
  · exact cmpB_range _ _
  · simp
  · simp
theorem rbC_anti (x y : ByteArray) : rbC y x = -rbC x y := by
  unfold rbC
  cases cvt x <;> cases cvt y
  · exact cmpB_anti _ _
  · rfl
  · rfl
  · exact cmpZ_anti _ _
theorem rbsC_range : ∀ l r : List ByteArray, rbsC l r = -1 ∨ rbsC l r = 0 ∨ rbsC l r = 1
  | [], [] => .inr (.inl (by rw [rbsC]))
  | x :: l, [] => by
    rw [rbsC]
    split
    · exact rbsC_range l []
    · exact rbC_range _ _
  | [], y :: r => by
    rw [rbsC]
    split
    · exact rbsC_range [] r
    · exact rbC_range _ _
  | x :: l, y :: r => by
    rw [rbsC]
    split
    · exact rbsC_range l r
    · exact rbC_range _ _
theorem rbsC_anti : ∀ l r : List ByteArray, rbsC r l = -rbsC l r
  | [], [] => by rw [rbsC]; rfl
  | x :: l, [] => by
    rw [rbsC, rbsC, rbC_anti x rbZ]
    by_cases h : rbC x rbZ = 0
    · rw [if_pos h, if_pos (by omega), rbsC_anti l []]
    · rw [if_neg h, if_neg (by omega)]
  | [], y :: r => by
    rw [rbsC, rbsC, rbC_anti rbZ y]
    by_cases h : rbC rbZ y = 0
    · rw [if_pos h, if_pos (by omega), rbsC_anti [] r]
    · rw [if_neg h, if_neg (by omega)]
  | x :: l, y :: r => by
    rw [rbsC, rbsC, rbC_anti x y]
    by_cases h : rbC x y = 0
    · rw [if_pos h, if_pos (by omega), rbsC_anti l r]
    · rw [if_neg h, if_neg (by omega)]
/-- A list without its zeros at the end. -/
def trimZ (l : List ByteArray) : List ByteArray := l.take (tz l l.length)
theorem trimZ_sub (l : List ByteArray) : ∀ x ∈ trimZ l, x ∈ l := fun x hx => List.mem_of_mem_take hx
theorem trimZ_len (l : List ByteArray) : (trimZ l).length ≤ l.length := by
  unfold trimZ
  rw [List.length_take]
  omega
theorem trim_ev (l : List ByteArray) (hl : l.length ≤ 1000000) : Ev (fun k => spec_RubyTrim.f k l) (trimZ l) := trim_l l hl l.length (Nat.le_refl _)
theorem rbNum_ev (x : List UInt8) (hx : x.length ≤ 100000) : Ev (fun k => spec_rubyNumber.f k (ofL x)) (rbN (ofL x)) := by
  have hn := number_ev x hx
  rw [numS_cvt] at hn
  unfold spec_rubyNumber.f
  refine Ev.bind hn (ev_now ?_)
  unfold rbN
  cases cvt (ofL x) <;> rfl
theorem tw_all : ∀ l : List ByteArray, (∀ x ∈ l, rbN x = true) → l.takeWhile rbN = l ∧ l.dropWhile rbN = []
  | [], _ => ⟨rfl, rfl⟩
  | x :: l, h => by
    obtain ⟨h1, h2⟩ := tw_all l (fun y hy => h y (by simp [hy]))
    have hx := h x (by simp)
    rw [List.takeWhile_cons, if_pos hx, List.dropWhile_cons, if_pos hx, h1, h2]
    exact ⟨rfl, rfl⟩
theorem groups_l (l : List (List UInt8)) (hl : l.length ≤ 1000000) (hz : ∀ x ∈ l, x.length ≤ 100000) (d : Nat) : ∀ i : Nat, i + d = l.length → (∀ x ∈ (l.map ofL).take i, rbN x = true) → Ev (fun k => spec_RubyGroups.l0 k (l.map ofL) (i : Int)) ((l.map ofL).takeWhile rbN, (l.map ofL).dropWhile rbN) := by
  induction d with
  | zero =>
    intro i h ha
    rw [List.take_of_length_le (by rw [List.length_map]; omega)] at ha
    obtain ⟨e1, e2⟩ := tw_all (l.map ofL) ha
    have hm : (l.map ofL).length = l.length := List.length_map ..
    refine Ev.step (fun _ => by rw [spec_RubyGroups.l0]) (ev_neg (by omega) (ev_pos (by omega) (ev_pos (by omega) ?_)))
    rw [Int.toNat_natCast, List.take_of_length_le (by omega), List.drop_of_length_le (by omega), e1, e2]
    exact ev_pos (by simp; omega) (ev_pos (by simp) (ev_now (by simp)))
  | succ d ih =>
    intro i h ha
    have hi : i < l.length := by omega
    have hm : (l.map ofL).length = l.length := List.length_map ..
    have hr := rd_map l i hi
    have hn := rbNum_ev l[i] (hz _ (List.getElem_mem hi))
    have e : (l.map ofL).drop i = ofL l[i] :: (l.map ofL).drop (i + 1) := by
      rw [List.drop_eq_getElem_cons (by omega), List.getElem_map]
    refine Ev.step (fun _ => by rw [spec_RubyGroups.l0, hr, wrap_nat (by omega)]) (ev_pos (by omega) (ev_pos (by omega) (Ev.bind hn ?_)))
    cases hb : rbN (ofL l[i]) with
    | true =>
      refine ev_t (ih (i + 1) (by omega) ?_)
      intro x hx
      rw [List.take_succ_eq_append_getElem (by omega)] at hx
      rcases List.mem_append.1 hx with hx | hx
      · exact ha x hx
      · have : x = ofL l[i] := by simpa using hx
        rw [this]
        exact hb
    | false =>
      have hs := List.take_append_drop i (l.map ofL)
      have e1 : (l.map ofL).takeWhile rbN = (l.map ofL).take i := by
        conv => lhs; rw [← hs]
        rw [List.takeWhile_append_of_pos ha, e, List.takeWhile_cons, if_neg (by rw [hb]; decide), List.append_nil]
      have e2 : (l.map ofL).dropWhile rbN = (l.map ofL).drop i := by
        conv => lhs; rw [← hs]
        rw [List.dropWhile_append_of_pos ha, e, List.dropWhile_cons, if_neg (by rw [hb]; decide)]
      have h1 : ((l.map ofL).take i).length ≤ 1000000 := by rw [List.length_take]; omega
      have h2 : ((l.map ofL).drop i).length ≤ 1000000 := by rw [List.length_drop]; omega
      rw [Int.toNat_natCast, e1, e2]
      refine ev_f (ev_pos (by omega) (ev_pos ?_ (ev_pos ?_ (ev_now (by simp)))))
      · show 0 + _ < _
        omega
      · show 0 + _ < _
        omega
theorem groups_ev (l : List (List UInt8)) (hl : l.length ≤ 1000000) (hz : ∀ x ∈ l, x.length ≤ 100000) : Ev (fun k => spec_RubyGroups.f k (l.map ofL)) ((l.map ofL).takeWhile rbN, (l.map ofL).dropWhile rbN) := groups_l l hl hz l.length 0 (by omega) (by simp)
/-- The segments of a version's text. -/
def rbSg (ps : List ByteArray) : List ByteArray := trimZ (ps.takeWhile rbN) ++ trimZ (ps.dropWhile rbN)
def rbS (l : List UInt8) : List ByteArray := rbSg ((rbPcs l).map ofL)
theorem rbSg_sub (ps : List ByteArray) : ∀ x ∈ rbSg ps, x ∈ ps := by
  intro x hx
  rcases List.mem_append.1 hx with hx | hx
  · exact (List.takeWhile_sublist _).subset (trimZ_sub _ x hx)
  · exact (List.dropWhile_sublist _).subset (trimZ_sub _ x hx)
theorem tw_len (ps : List ByteArray) : (ps.takeWhile rbN).length ≤ ps.length ∧ (ps.dropWhile rbN).length ≤ ps.length := ⟨(List.takeWhile_sublist _).length_le, (List.dropWhile_sublist _).length_le⟩
theorem rbSg_len (ps : List ByteArray) : (rbSg ps).length ≤ 2 * ps.length := by
  have h1 := trimZ_len (ps.takeWhile rbN)
  have h2 := trimZ_len (ps.dropWhile rbN)
  obtain ⟨h3, h4⟩ := tw_len ps
  unfold rbSg
  rw [List.length_append]
  omega
theorem rbS_fit (l : List UInt8) (hl : l.length ≤ 10000) : rbFit ((rbPcs l).map ofL) = true ∧ rbFit (rbS l) = true := by
  obtain ⟨s1, s2⟩ := rbPcs_sizes l
  have h1 : ∀ x ∈ (rbPcs l).map ofL, x.size ≤ 1000000 := by
    intro x hx
    obtain ⟨y, hy, rfl⟩ := List.mem_map.1 hx
    rw [ofL_size]
    have := s2 y hy
    omega
  refine ⟨List.all_eq_true.2 fun x hx => decide_eq_true (h1 x hx), List.all_eq_true.2 fun x hx => decide_eq_true (h1 x (rbSg_sub _ x hx))⟩
theorem canonSegs_ev (l : List UInt8) (hl : l.length ≤ 10000) : Ev (fun k => semantic_canonicalSegments.f k ((rbPcs l).map ofL)) (rbS l) := by
  obtain ⟨s1, s2⟩ := rbPcs_sizes l
  have hm : ((rbPcs l).map ofL).length = (rbPcs l).length := List.length_map ..
  obtain ⟨h3, h4⟩ := tw_len ((rbPcs l).map ofL)
  have hg : semantic_groupSegments.f ((rbPcs l).map ofL) = some (((rbPcs l).map ofL).takeWhile rbN, ((rbPcs l).map ofL).dropWhile rbN) := by
    unfold semantic_groupSegments.f
    rw [(rbS_fit l hl).1, decide_eq_true (by omega)]
    rfl
  have h5 := trimZ_len (((rbPcs l).map ofL).takeWhile rbN)
  have h6 := trimZ_len (((rbPcs l).map ofL).dropWhile rbN)
  unfold semantic_canonicalSegments.f
  rw [hg]
  refine ev_some ?_
  refine Ev.bind (zeros_f _ (by show (List.takeWhile rbN _).length ≤ _; omega)) (Ev.bind (zeros_f _ (by show (List.dropWhile rbN _).length ≤ _; omega)) (ev_pos ?_ (ev_now rfl)))
  show (trimZ (((rbPcs l).map ofL).takeWhile rbN)).length + (trimZ (((rbPcs l).map ofL).dropWhile rbN)).length < _
  omega
theorem splitF (l : List UInt8) (hl : l.length ≤ 10000) : semantic_zzSplit.f (ofL (canonL l false true)) (⟨#[46]⟩ : ByteArray) = some ((rbPcs l).map ofL) := by
  have hlen := canon_length l false true
  unfold semantic_zzSplit.f
  rw [if_pos ⟨by rw [ofL_size]; omega, rfl⟩, bl_ofL]
  rfl
theorem implParse_ev (l : List UInt8) (hl : l.length ≤ 10000) (ha : ∀ c ∈ l, c.toNat < 128) : Ev (fun k => semantic_ParseRubyGemsVersion.f k (ofL l)) (ofL l, rbS l) := by
  unfold semantic_ParseRubyGemsVersion.f
  rw [canonF l (by omega) ha]
  refine ev_some ?_
  show Ev (fun k => (semantic_zzSplit.f (ofL (canonL l false true)) (⟨#[46]⟩ : ByteArray)).bind fun t126 => (semantic_canonicalSegments.f k t126).bind fun t129 => some (ofL l, t129)) _
  rw [splitF l hl]
  refine ev_some ?_
  exact Ev.bind (canonSegs_ev l hl) (ev_now rfl)
theorem rbCompF (o o' : ByteArray) (x y : List ByteArray) (hx : rbFit x = true) (hy : rbFit y = true) : semantic_RubyGemsVersion_compare.f o x o' y = some (rbsC x y) := by
  unfold semantic_RubyGemsVersion_compare.f semantic_compareRubyGemsComponents.f
  rw [hx, hy]
  rfl
theorem implCmp_ev (a b : List UInt8) (ha : a.length ≤ 10000) (hb : b.length ≤ 10000) (ka : ∀ c ∈ a, c.toNat < 128) (kb : ∀ c ∈ b, c.toNat < 128) : Ev (fun k => impl_RubyCompare.f k (ofL a) (ofL b)) (rbsC (rbS a) (rbS b), true) := by
  unfold impl_RubyCompare.f
  refine Ev.bind (implParse_ev a ha ka) (Ev.bind (implParse_ev b hb kb) ?_)
  show Ev (fun k => (semantic_RubyGemsVersion_compare.f (ofL a) (rbS a) (ofL b) (rbS b)).bind fun t => some (t, true)) _
  rw [rbCompF _ _ _ _ (rbS_fit a ha).2 (rbS_fit b hb).2]
  exact ev_now rfl
theorem implText_ev (a b : List UInt8) (ha : a.length ≤ 10000) (hb : b.length ≤ 10000) (ka : ∀ c ∈ a, c.toNat < 128) (kb : ∀ c ∈ b, c.toNat < 128) : Ev (fun k => impl_RubyCompareText.f k (ofL a) (ofL b)) (rbsC (rbS a) (rbS b), true) := by
  unfold impl_RubyCompareText.f
  refine Ev.bind (implParse_ev a ha ka) ?_
  have h : Ev (fun k => semantic_RubyGemsVersion_CompareStr.f k (ofL a) (rbS a) (ofL b)) (rbsC (rbS a) (rbS b), none) := by
    unfold semantic_RubyGemsVersion_CompareStr.f
    refine Ev.bind (implParse_ev b hb kb) ?_
    show Ev (fun k => (semantic_RubyGemsVersion_compare.f (ofL a) (rbS a) (ofL b) (rbS b)).bind fun t => some (t, none)) _
    rw [rbCompF _ _ _ _ (rbS_fit a ha).2 (rbS_fit b hb).2]
    exact ev_now rfl
  exact Ev.bind h (ev_pos rfl (ev_now rfl))
theorem specParse_ev (l : List UInt8) (hl : l.length ≤ 10000) : Ev (fun k => spec_RubyParse.f k (ofL l)) (rbS l) := by
  obtain ⟨s1, s2⟩ := rbPcs_sizes l
  have hlen := canon_length l false true
  have hm : ((rbPcs l).map ofL).length = (rbPcs l).length := List.length_map ..
  obtain ⟨h3, h4⟩ := tw_len ((rbPcs l).map ofL)
  have h5 := trimZ_len (((rbPcs l).map ofL).takeWhile rbN)
  have h6 := trimZ_len (((rbPcs l).map ofL).dropWhile rbN)
  unfold spec_RubyParse.f
  refine Ev.bind (canon_ev l (by omega)) (Ev.bind (cut_ev _ (by omega) 42) (Ev.bind (groups_ev (rbPcs l) (by omega) (fun x hx => by have := s2 x hx; omega)) ?_))
  refine Ev.bind (trim_ev _ (by show (List.takeWhile rbN _).length ≤ _; omega)) (Ev.bind (trim_ev _ (by show (List.dropWhile rbN _).length ≤ _; omega)) (ev_pos ?_ (ev_now rfl)))
  show (trimZ (((rbPcs l).map ofL).takeWhile rbN)).length + (trimZ (((rbPcs l).map ofL).dropWhile rbN)).length < _
  omega
/-- A known list of segments. -/
def KnL (l : List ByteArray) : Prop := l.length ≤ 1000000 ∧ ∀ x ∈ l, x.size ≤ 1000000 ∧ signed (bl x) = false
theorem KnL_rbS (l : List UInt8) (hl : l.length ≤ 10000) (hk : segK (rbPcs l) = true) : KnL (rbS l) := by
  obtain ⟨s1, s2⟩ := rbPcs_sizes l
  have hm : ((rbPcs l).map ofL).length = (rbPcs l).length := List.length_map ..
  have h1 := rbSg_len ((rbPcs l).map ofL)
  refine ⟨by unfold rbS; omega, fun x hx => ?_⟩
  obtain ⟨y, hy, rfl⟩ := List.mem_map.1 (rbSg_sub _ x hx)
  have := s2 y hy
  refine ⟨by rw [ofL_size]; omega, ?_⟩
  rw [bl_ofL]
  unfold segK idK at hk
  rw [Bool.and_eq_true] at hk
  have := List.all_eq_true.1 hk.2 y hy
  simpa using this
theorem signed_Z : signed (bl rbZ) = false := by decide
/-- How two segments compare, as the page has it. -/
def pgR (x y : List UInt8) : Int := if allD x && allD y then cmpD x y else if allD x then 1 else if allD y then -1 else Lib.compareBytes x y
theorem pgR_rbC {x y : List UInt8} (hx : signed x = false) (hy : signed y = false) : rbC (ofL x) (ofL y) = pgR x y := by
  unfold rbC pgR
  cases ha : allD x <;> cases hb : allD y
  · rw [cvt_other ha hx, cvt_other hb hy]
    rfl
  · rw [cvt_other ha hx, cvt_digits hb]
    rfl
  · rw [cvt_digits ha, cvt_other hb hy]
    rfl
  · rw [cvt_digits ha, cvt_digits hb]
    exact (cmpD_Z ha hb).symm
theorem j3_ev (l r : List ByteArray) (i : Int) (x y : ByteArray) (hx : x.size ≤ 1000000) (hy : y.size ≤ 1000000) (sx : signed (bl x) = false) (sy : signed (bl y) = false) (s : Int) (hs : rbC x y = 0 → Ev (fun k => spec_RubySegments.l0 k l r (wrap64 (i + 1))) s) (hs' : ¬ rbC x y = 0 → s = rbC x y) : Ev (fun k => spec_RubySegments.j3 k l r i x y) s := by
  have hp := pgR_rbC sx sy
  rw [ofL_bl, ofL_bl] at hp
  have hdx := digits_ev (bl x) (by rw [bl_length]; omega)
  have hdy := digits_ev (bl y) (by rw [bl_length]; omega)
  rw [ofL_bl] at hdx hdy
  have hon := orderNumbers_ev (bl x) (bl y) (by rw [bl_length]; omega) (by rw [bl_length]; omega)
  rw [ofL_bl, ofL_bl] at hon
  have hor := order_f (bl x) (bl y)
  rw [ofL_bl, ofL_bl] at hor
  have fin : ∀ (v : Int), rbC x y = v → Ev (fun k => if v = 0 then spec_RubySegments.l0 k l r (wrap64 (i + 1)) else some v) s := by
    intro v hv
    by_cases h0 : v = 0
    · exact ev_pos h0 (hs (by omega))
    · exact ev_neg h0 (ev_now (by rw [hs' (by omega), hv]))
  refine Ev.step (fun _ => by rw [spec_RubySegments.j3]) (Ev.bind hdx (Ev.bind hdy ?_))
  unfold pgR at hp
  cases ha : allD (bl x) <;> cases hb : allD (bl y) <;> rw [ha, hb] at hp
  · refine ev_f (Ev.step (fun _ => by rw [spec_RubySegments.j4, hor, Option.bind_some]) ?_)
    exact ev_f (ev_f (ev_f (fin _ hp)))
  · refine ev_f (Ev.step (fun _ => by rw [spec_RubySegments.j4]) ?_)
    exact ev_f (ev_f (ev_t (fin _ hp)))
  · refine ev_t (Ev.step (fun _ => by rw [spec_RubySegments.j4]) ?_)
    exact ev_f (ev_t (fin _ hp))
  · refine ev_t (Ev.step (fun _ => by rw [spec_RubySegments.j4]) ?_)
    exact ev_t (Ev.bind hon (fin _ hp))
theorem rd_at' (l : List ByteArray) (i : Nat) (h : i < l.length) : rdOf ByteArray.empty l (i : Int) = rbGet l i := by
  rw [rdOf_nat, rbGet_in h, List.getD_eq_getElem?_getD, List.getElem?_eq_getElem h]
  rfl
theorem KnL_get {l : List ByteArray} (h : KnL l) (i : Nat) : (rbGet l i).size ≤ 1000000 ∧ signed (bl (rbGet l i)) = false := by
  by_cases hi : i < l.length
  · rw [rbGet_in hi]
    exact h.2 _ (List.getElem_mem hi)
  · rw [rbGet_out (by omega)]
    exact ⟨by decide, signed_Z⟩
theorem segs_l (l r : List ByteArray) (hl : KnL l) (hr : KnL r) (d : Nat) : ∀ i : Nat, i + d = max l.length r.length → Ev (fun k => spec_RubySegments.l0 k l r (i : Int)) (rbsC (l.drop i) (r.drop i)) := by
  have b1 := hl.1
  have b2 := hr.1
  induction d with
  | zero =>
    intro i h
    have h1 : l.length ≤ i := by have := Nat.le_max_left l.length r.length; omega
    have h2 : r.length ≤ i := by have := Nat.le_max_right l.length r.length; omega
    refine Ev.step (fun _ => by rw [spec_RubySegments.l0]) (ev_neg (by omega) ?_)
    have e0 : rbsC [] [] = 0 := by rw [rbsC]
    rw [decide_eq_false (by omega), List.drop_of_length_le h1, List.drop_of_length_le h2, e0]
    exact Ev.step (fun _ => by rw [spec_RubySegments.j1]) (ev_f (ev_now rfl))
  | succ d ih =>
    intro i h
    have hw : wrap64 ((i : Int) + 1) = ((i + 1 : Nat) : Int) := wrap_nat (by omega)
    have next := ih (i + 1) (by omega)
    rw [← hw] at next
    have hst := rbsC_step l r i (by omega)
    have k1 := KnL_get hl i
    have k2 := KnL_get hr i
    have j3 := j3_ev l r (i : Int) (rbGet l i) (rbGet r i) k1.1 k2.1 k1.2 k2.2 (rbsC (l.drop i) (r.drop i)) (fun h0 => by rw [hst, if_pos h0]; exact next) (fun h0 => by rw [hst, if_neg h0])
    have j2 : Ev (fun k => spec_RubySegments.j2 k l r (i : Int) (rbGet l i) (⟨#[48]⟩ : ByteArray)) (rbsC (l.drop i) (r.drop i)) := by
      refine Ev.step (fun _ => by rw [spec_RubySegments.j2]) ?_
      by_cases h2 : i < r.length
      · rw [rd_at' r i h2]
        exact ev_pos (by omega) (ev_pos (by omega) j3)
      · refine ev_neg (by omega) ?_
        have e : rbGet r i = (⟨#[48]⟩ : ByteArray) := rbGet_out (by omega)
        rw [e] at j3
        exact j3
    have j1 : Ev (fun k => spec_RubySegments.j1 k l r (i : Int) true) (rbsC (l.drop i) (r.drop i)) := by
      refine Ev.step (fun _ => by rw [spec_RubySegments.j1]) (ev_t ?_)
      by_cases h1 : i < l.length
      · rw [rd_at' l i h1]
        exact ev_pos (by omega) (ev_pos (by omega) j2)
      · refine ev_neg (by omega) ?_
        have e : rbGet l i = (⟨#[48]⟩ : ByteArray) := rbGet_out (by omega)
        rw [e] at j2
        exact j2
    refine Ev.step (fun _ => by rw [spec_RubySegments.l0]) ?_
    by_cases h1 : i < l.length
    · exact ev_pos (by omega) j1
    · refine ev_neg (by omega) ?_
      rw [decide_eq_true (by omega)]
      exact j1
theorem segs_ev (l r : List ByteArray) (hl : KnL l) (hr : KnL r) : Ev (fun k => spec_RubySegments.f k l r) (rbsC l r) := segs_l l r hl hr (max l.length r.length) 0 (by omega)
theorem specCmp_ev (a b : List UInt8) (ha : a.length ≤ 10000) (hb : b.length ≤ 10000) (ka : segK (rbPcs a) = true) (kb : segK (rbPcs b) = true) : Ev (fun k => spec_RubyCompare.f k (ofL a) (ofL b)) (rbsC (rbS a) (rbS b), true) := by
  unfold spec_RubyCompare.f
  exact Ev.bind (specParse_ev a ha) (Ev.bind (specParse_ev b hb) (Ev.bind (segs_ev _ _ (KnL_rbS a ha ka) (KnL_rbS b hb kb)) (ev_now rfl)))
end Go.Proofs.YtmhlmkefnmdbcaaDoor.Com

namespace Go.Proofs.YtmhlmkefnmdbcaaDoor.Com
open Go.RowKit Go.Proofs.YtmhlmkefnmdbcaaDoor.Z Go.Proofs.YtmhlmkefnmdbcaaDoor.Evs Go.Proofs.YtmhlmkefnmdbcaaDoorW.PrintWords Go.Proofs.YtmhlmkefnmdbcaaDoorW.PrintLast
set_option linter.unusedVariables false
set_option linter.unusedSimpArgs false

/-- short: an answer; where it is true the list is short and its texts are. -/
theorem short_l (l : List ByteArray) (hl : (l.length : Int) < 9223372036854775807) (d : Nat) : ∀ i : Nat, i + d = l.length →
    ∃ b, Ev (fun k => laws_short.l0 k l l (l.length : Int) (i : Int)) b ∧ (b = true → l.length ≤ 150 ∧ ∀ j, i ≤ j → j < l.length → (l.getD j ByteArray.empty).size ≤ 1500) := by
  induction d with
  | zero =>
    intro i h
    exact ⟨_, Ev.step (fun _ => by rw [laws_short.l0]) (ev_neg (by omega) (Ev.now _)), fun hb => ⟨by simp at hb; omega, fun j h1 h2 => by omega⟩⟩
  | succ d ih =>
    intro i h
    obtain ⟨b, hb, hq⟩ := ih (i + 1) (by omega)
    by_cases c : ((rdOf ByteArray.empty l (i : Int)).size : Int) > 1500
    · exact ⟨false, Ev.step (fun _ => by rw [laws_short.l0]) (ev_pos (by omega) (ev_pos (by omega) (ev_pos (by omega) (ev_pos c (Ev.now _))))), fun h => by cases h⟩
    · refine ⟨b, Ev.step (fun _ => by rw [laws_short.l0, wrap_nat (by omega)]) (ev_pos (by omega) (ev_pos (by omega) (ev_pos (by omega) (ev_neg c hb)))), fun h => ⟨(hq h).1, fun j h1 h2 => ?_⟩⟩
      by_cases e : j = i
      · subst e; rw [rdOf_nat] at c; omega
      · exact (hq h).2 j (by omega) h2
theorem short_ev (l : List ByteArray) (hl : (l.length : Int) < 9223372036854775807) : ∃ b, Ev (fun k => laws_short.f k l) b ∧ (b = true → l.length ≤ 150 ∧ ∀ j, j < l.length → (l.getD j ByteArray.empty).size ≤ 1500) := by
  obtain ⟨b, hb, hq⟩ := short_l l hl l.length 0 (by omega)
  exact ⟨b, hb, fun h => ⟨(hq h).1, fun j hj => (hq h).2 j (by omega) hj⟩⟩

theorem short2 (a b : ByteArray) : ∃ r, Ev (fun k => laws_short.f k [a, b]) r ∧ (r = true → a.size ≤ 1500 ∧ b.size ≤ 1500) := by
  obtain ⟨r, hr, hq⟩ := short_ev [a, b] (by simp)
  exact ⟨r, hr, fun h => ⟨(hq h).2 0 (by simp), (hq h).2 1 (by simp)⟩⟩
theorem short1 (a : ByteArray) : ∃ r, Ev (fun k => laws_short.f k [a]) r ∧ (r = true → a.size ≤ 1500) := by
  obtain ⟨r, hr, hq⟩ := short_ev [a] (by simp)
  exact ⟨r, hr, fun h => (hq h).2 0 (by simp)⟩
theorem short3 (a b c : ByteArray) : ∃ r, Ev (fun k => laws_short.f k [a, b, c]) r ∧ (r = true → a.size ≤ 1500 ∧ b.size ≤ 1500 ∧ c.size ≤ 1500) := by
  obtain ⟨r, hr, hq⟩ := short_ev [a, b, c] (by simp)
  exact ⟨r, hr, fun h => ⟨(hq h).2 0 (by simp), (hq h).2 1 (by simp), (hq h).2 2 (by simp)⟩⟩
theorem short4 (a b c d : ByteArray) : ∃ r, Ev (fun k => laws_short.f k [a, b, c, d]) r ∧ (r = true → a.size ≤ 1500 ∧ b.size ≤ 1500 ∧ c.size ≤ 1500 ∧ d.size ≤ 1500) := by
  obtain ⟨r, hr, hq⟩ := short_ev [a, b, c, d] (by simp)
  exact ⟨r, hr, fun h => ⟨(hq h).2 0 (by simp), (hq h).2 1 (by simp), (hq h).2 2 (by simp), (hq h).2 3 (by simp)⟩⟩
end Go.Proofs.YtmhlmkefnmdbcaaDoor.Com

namespace Go.Proofs.YtmhlmkefnmdbcaaDoor.Pure
open Go.RowKit Go.Proofs.YtmhlmkefnmdbcaaDoor.Z Go.Proofs.YtmhlmkefnmdbcaaDoor.Evs Go.Proofs.YtmhlmkefnmdbcaaDoor.By Go.Proofs.YtmhlmkefnmdbcaaDoor.Com Go.Proofs.YtmhlmkefnmdbcaaDoorW.PrintWords Go.Proofs.YtmhlmkefnmdbcaaDoorW.PrintLast
set_option linter.unusedVariables false
set_option linter.unusedSimpArgs false

theorem told_ev (l : List UInt8) (hl : l.length ≤ 10000) (ha : ∀ c ∈ l, c.toNat < 128) : Ev (fun k => impl_RubyParse.f k (ofL l)) (rbS l) := by
  obtain ⟨s1, s2⟩ := rbPcs_sizes l
  have h1 := rbSg_len ((rbPcs l).map ofL)
  have hm : ((rbPcs l).map ofL).length = (rbPcs l).length := List.length_map ..
  have h2 : (rbS l).length ≤ 100000 := by unfold rbS; omega
  unfold impl_RubyParse.f
  refine Ev.bind (implParse_ev l hl ha) ?_
  unfold semantic_ZZRubyTold.f
  refine ev_some ?_
  show Ev (fun k => if ([] : List ByteArray).length + (rbS l).length < 8796093022208 then some ([] ++ rbS l) else none) _
  rw [List.nil_append]
  exact ev_pos (by show 0 + _ < _; omega) (ev_now rfl)
theorem segF (x y : List ByteArray) (hx : rbFit x = true) (hy : rbFit y = true) : impl_RubySegments.f x y = some (rbsC x y) := by
  unfold impl_RubySegments.f semantic_ZZRubySegments.f semantic_compareRubyGemsComponents.f
  rw [hx, hy]
  rfl
theorem FnRubyRoads : laws_FnRubyRoads.Pure := by
  intro a0 b0 h0 h1
  refine Ev.rounds ?_
  rw [← ofL_bl a0, ← ofL_bl b0]
  generalize bl a0 = a
  generalize bl b0 = b
  unfold laws_FnRubyRoads.f
  have skip0 : Ev (fun k => laws_FnRubyRoads.j0 k (ofL a) (ofL b) true) true := Ev.step (fun _ => by rw [laws_FnRubyRoads.j0]) (ev_t (ev_now rfl))
  have skip1 : Ev (fun k => laws_FnRubyRoads.j1 k (ofL a) (ofL b) true) true := Ev.step (fun _ => by rw [laws_FnRubyRoads.j1]) (ev_t (ev_now rfl))
  refine ev_ite (fun _ => skip0) (fun _ => ?_)
  cases decide (((ofL b).size : Int) > 2147483647) with
  | true => exact skip0
  | false =>
    refine Ev.step (fun _ => by rw [laws_FnRubyRoads.j0]) (ev_f ?_)
    obtain ⟨r, e, s⟩ := short2 (ofL a) (ofL b)
    refine Ev.bind e ?_
    cases r with
    | false => exact ev_f skip1
    | true =>
      obtain ⟨s0, s1⟩ := s rfl
      rw [ofL_size] at s0 s1
      obtain ⟨p, e0, k0⟩ := rubyKnown_ev a (by omega)
      obtain ⟨q, e1, k1⟩ := rubyKnown_ev b (by omega)
      refine ev_t (Ev.bind e0 ?_)
      cases p with
      | false => exact ev_f skip1
      | true =>
        refine ev_t (Ev.bind e1 ?_)
        cases q with
        | false => exact skip1
        | true =>
          obtain ⟨aa, ka⟩ := k0 rfl
          obtain ⟨ab, kb⟩ := k1 rfl
          have c2 := implCmp_ev a b (by omega) (by omega) aa ab
          have t1 := told_ev a (by omega) aa
          have t2 := told_ev b (by omega) ab
          refine Ev.step (fun _ => by rw [laws_FnRubyRoads.j1]) ?_
          refine ev_neg (by decide) (Ev.bind c2 (ev_pos rfl (Ev.bind t1 (Ev.bind t2 ?_))))
          rw [segF _ _ (rbS_fit a (by omega)).2 (rbS_fit b (by omega)).2]
          refine ev_some ?_
          exact ev_now (by simp)
end Go.Proofs.YtmhlmkefnmdbcaaDoor.Pure

namespace Go.Proofs.YtmhlmkefnmdbcaaDoor.fnRubyRoads
open Go.ChangeShapes Go.WideShapes Go.ChangeAt Go.RowKit Go.Proofs.YtmhlmkefnmdbcaaDoor.Op Go.Proofs.YtmhlmkefnmdbcaaDoor.Z Go.Proofs.YtmhlmkefnmdbcaaDoorW.PrintWords
open Go.ChangeMaps (open_string shut_string)
set_option linter.unusedVariables false
set_option linter.unusedSimpArgs false
theorem own : ownKnob Tryd.prog.godebug = none := by kernel_rfl
theorem laidOut : laidOutB Tryd.prog = true := by kernel_rfl
noncomputable def low (os : Os) : Nat := (World.settled Tryd.prog os).heap.size
def put (h : Array Obj) (g : Nat) (cs : Array Value) : Array Obj := h.modify g fun
  | .cells _ t frozen => .cells cs t frozen
  | o => o
/-- A world for the witness: the listed variables hold what their initialisers lay. -/
noncomputable def laidWorld (os : Os) : World :=
  let w0 := World.holding Tryd.prog os ⟨#[(.cells #[.string ⟨#[69, 79, 70]⟩] 178), (.cells #[.string ⟨#[110, 117, 109, 98, 101, 114, 32, 104, 97, 115, 32, 110, 111, 32, 100, 105, 103, 105, 116, 115]⟩] 178), (.cells #[.string ⟨#[39, 95, 39, 32, 109, 117, 115, 116, 32, 115, 101, 112, 97, 114, 97, 116, 101, 32, 115, 117, 99, 99, 101, 115, 115, 105, 118, 101, 32, 100, 105, 103, 105, 116, 115]⟩] 178), (.cells #[.string ⟨#[105, 110, 118, 97, 108, 105, 100, 32, 118, 101, 114, 115, 105, 111, 110]⟩] 178), (.cells #[.string ⟨#[118, 101, 114, 115, 105, 111, 110, 32, 105, 115, 32, 110, 111, 116, 32, 111, 102, 32, 116, 104, 101, 32, 115, 97, 109, 101, 32, 101, 99, 111, 115, 121, 115, 116, 101, 109]⟩] 178)], #[], []⟩
  { w0 with heap := put (put (put (put (put (w0.heap) 2 #[.iface 163 (.pointer (some ⟨low os + 0, 0, none⟩))]) 5 #[.iface 163 (.pointer (some ⟨low os + 1, 0, none⟩))]) 4 #[.iface 163 (.pointer (some ⟨low os + 2, 0, none⟩))]) 0 #[.iface 163 (.pointer (some ⟨low os + 3, 0, none⟩))]) 1 #[.iface 163 (.pointer (some ⟨low os + 4, 0, none⟩))] }
set_option maxRecDepth 100000 in
theorem laid_met (os : Os) : laidMet Tryd.prog Rows.fnRubyRoadsRow.laid ((laidWorld os).forCall (fun _ _ => 0) ⟨#[], #[.string ByteArray.empty, .string ByteArray.empty], []⟩).memory :=
  laidMet_of_run3 8 (by kernel_rfl) (by kernel_rfl) (by kernel_rfl)
set_option maxRecDepth 100000 in
theorem reads (os : Os) {H : Type} (enc : TypeId × Value → H) : DataW.whole enc Tryd.prog ((laidWorld os).forCall (fun _ _ => 0) ⟨#[], #[.string ByteArray.empty, .string ByteArray.empty], []⟩).memory Tryd.f10.params.toList Rows.fnRubyRoadsSpec.vars false #[.string ByteArray.empty, .string ByteArray.empty].toList 8 = some ([.lit (.string []), .lit (.string [])], [], []) := by kernel_rfl
set_option maxRecDepth 100000 in
theorem lifted (os : Os) (started : os.Started) (H : Type) (enc : TypeId × Value → H) (F : Stop.Interp) :
    ReturnsInHanded {} Tryd.checked os 10 .any ((OpenSpec.ofChange Rows.fnRubyRoadsSpec).preRow enc Tryd.prog Tryd.f10 Rows.fnRubyRoadsRow.domain false Rows.fnRubyRoadsRow.laid) (((OpenSpec.ofChange Rows.fnRubyRoadsSpec).at F).post enc Tryd.prog Tryd.f10 false true false false) := by
  refine returnsInHanded_of_row (C := Tryd.checked) (s := OpenSpec.ofChange Rows.fnRubyRoadsSpec) own started (by kernel_rfl) Tryd.func10
    (witness_row_atRef (enc := enc) (C := Tryd.checked) false (laidWorld os) #[.string ByteArray.empty, .string ByteArray.empty] rfl (by kernel_rfl) (by kernel_rfl) (by kernel_rfl)
      (OpenSpec.preRow_of_cond 8 (reads os enc) (by kernel_rfl) (fun k hk => by cases hk) (by kernel_rfl) (laid_met os))) ?_
  intro W base args ds gs before hval0 hW hcnd hk0 hsz0 hL hSh hho
  have hsz : (DataW.weightsEach Tryd.prog (Tryd.f10.params.toList ++ Rows.fnRubyRoadsSpec.plain.varTypes Tryd.prog) (ds ++ gs)).all (· ≤ reachBytes) = true := hsz0
  have hval : ∀ (j : Nat) t v, Tryd.f10.params[j]? = some t → args[j]? = some v → Value.okWide Tryd.prog W .any base t v := hval0
  have hW' := hW
  obtain ⟨p, q, hA0, hV, rfl, hfz, hnd⟩ := hW
  have hA : DataW.TrodAll enc Tryd.prog W 0 (fun _ => true) true Tryd.f10.params.toList args.toList ds p := hA0
  rw [Tryd.params10] at hA hval hsz
  obtain ⟨v0, vs0, d0, ds0, p0, q0, hargs, rfl, rfl, h0, r0⟩ := trodAll_cons hA
  obtain ⟨v1, vs1, d1, ds1, p1, q1, rfl, rfl, rfl, h1, r1⟩ := trodAll_cons r0
  obtain ⟨rfl, rfl, rfl⟩ := trodAll_nil r1
  obtain rfl : args = #[v0, v1] := by cases args; simp_all
  obtain ⟨rfl, rfl⟩ := trodVars_none hV
  obtain ⟨a0, rfl, rfl, rfl, y0⟩ := open_string Tryd.underlying9 (hval 0 9 v0 rfl rfl) h0
  have w0 : a0.size ≤ 140737488351232 := by
    have z := sized_string hsz (j := 0) (t := 9) rfl rfl
    rw [Array.length_toList] at z
    exact z
  obtain ⟨a1, rfl, rfl, rfl, y1⟩ := open_string Tryd.underlying9 (hval 1 9 v1 rfl rfl) h1
  have w1 : a1.size ≤ 140737488351232 := by
    have z := sized_string hsz (j := 1) (t := 9) rfl rfl
    rw [Array.length_toList] at z
    exact z
  clear hA0 hval0 hsz0 hsz
  refine (laws_FnRubyRoads.walk Pure.FnRubyRoads a0 a1 W w0 w1  (Gw.gw_of (l := Rows.fnRubyRoadsRow.laid) hL (List.Mem.head _) (List.Mem.tail _ (List.Mem.head _)) (List.Mem.tail _ (List.Mem.tail _ (List.Mem.tail _ (List.Mem.head _)))))).mono fun e W' ⟨he, bel⟩ => ?_
  subst he
  exact ⟨_, rfl, _, _, _, [], _, [], hW', trodAll_mk1 (shut_bool Tryd.underlying4 _), (trodAll_cons_mk (shut_string Tryd.underlying9 y0) (trodAll_cons_mk (shut_string Tryd.underlying9 y1) trodAll_mk0)), rfl, bel.frame _, fun h => by cases h⟩
theorem said : Rows.FnRubyRoadsSaid :=
  OpenClaim.holds_of_cond 10 Tryd.f10 rfl rfl rfl rfl rfl rfl rfl ⟨rfl, rfl, rfl, rfl, rfl⟩ rfl rfl rfl rfl rfl (by kernel_rfl) Tryd.func10 (by kernel_rfl)
    (of_decide_eq_true (by kernel_rfl)) (by unfold Func.isWrapper; first | (rw [if_pos (by decide +kernel)]; kernel_rfl) | (rw [if_neg (by decide +kernel)]; exact ⟨rfl, rfl⟩))
    (fun os started H enc _ F => by rw [OpenClaim.pre_eq_preRow]; exact lifted os started H enc F)
theorem plain (f : FuncId) (fn : Func) (hf : Tryd.pinned.checked.prog.funcNamed "pub-seniority/laws.FnRubyRoads" = some f) (hfn : Tryd.pinned.checked.prog.funcs[f]? = some fn) :
    true = Tryd.pinned.checked.prog.looks [] ∧ ∀ (j : Nat) t, fn.params[j]? = some t → Tryd.pinned.checked.prog.wantsStandIn t = false := by
  obtain rfl : f = 10 := Option.some.inj ((show Tryd.prog.funcNamed "pub-seniority/laws.FnRubyRoads" = some 10 by kernel_rfl).symm.trans hf) |>.symm
  obtain rfl : fn = Tryd.f10 := (Option.some.inj (Tryd.func10.symm.trans hfn)).symm
  refine ⟨by kernel_rfl, fun j t ht => ?_⟩
  rw [Tryd.params10] at ht
  have h2 : ([9, 9] : List TypeId).all (fun t => !Tryd.prog.wantsStandIn t) = true := by kernel_rfl
  have h3 := List.all_eq_true.1 h2 t (by have := Array.mem_of_getElem? ht; simpa using this)
  exact (show Tryd.prog.wantsStandIn t = false from by simpa using h3)
theorem proved : Rows.FnRubyRoadsCardSaid :=
  Claim7.holds_tied_plain_at .later [] _ _ _ _ said (fun _ h => by cases h) (by kernel_rfl) (fun _ h => by cases h) fnRubyRoads_row_tie rfl ⟨rfl, rfl⟩ (by kernel_rfl) rfl plain (by kernel_rfl)
#print axioms proved
end Go.Proofs.YtmhlmkefnmdbcaaDoor.fnRubyRoads
namespace Go.Proofs.YtmhlmkefnmdbcaaDoor
/-- The card, under a short name, for the claim. -/
theorem fnRubyRoads_holds : Rows.FnRubyRoadsCardSaid := fnRubyRoads.proved
end Go.Proofs.YtmhlmkefnmdbcaaDoor
