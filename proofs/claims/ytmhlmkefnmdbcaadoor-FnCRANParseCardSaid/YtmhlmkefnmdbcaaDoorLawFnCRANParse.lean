/- FnCRANParse: which numbers a CRAN version has, and which texts are none. No condition beyond the row's own. -/
import Derived.Test.YtmhlmkefnmdbcaaDoorZ2
import Derived.Test.YtmhlmkefnmdbcaaDoorEv
import Derived.Test.YtmhlmkefnmdbcaaDoorBy
import Derived.Test.YtmhlmkefnmdbcaaDoorZ9
import Derived.Test.YtmhlmkefnmdbcaaDoorSsC
import Derived.Test.YtmhlmkefnmdbcaaDoorBv
import Derived.Test.YtmhlmkefnmdbcaaDoorComV
import Derived.Test.YtmhlmkefnmdbcaaDoorZ5
import Derived.Test.YtmhlmkefnmdbcaaDoorZ8
import Derived.Test.YtmhlmkefnmdbcaaDoorZ10
import Derived.Test.YtmhlmkefnmdbcaaDoorRows
import Derived.Test.YtmhlmkefnmdbcaaDoorOp
import Derived.Test.YtmhlmkefnmdbcaaDoorCards
import Derived.Test.YtmhlmkefnmdbcaaDoorTie
import Derived.Test.YtmhlmkefnmdbcaaDoorGl
import Derived.Deep.DeepHandedRow
import Derived.Deep.DeepWitnessRowRef
import Derived.Deep.DeepLaidRun
import Derived.WalkKit
import Derived.ProofKit
import Derived.OpenShut
import Derived.ShutString
import Derived.ChangeOld
import Derived.Below
import Derived.SizedLaws
namespace Go.Proofs.YtmhlmkefnmdbcaaDoor.Com
open Go.RowKit Go.Proofs.YtmhlmkefnmdbcaaDoor.Z Go.Proofs.YtmhlmkefnmdbcaaDoor.Evs Go.Proofs.YtmhlmkefnmdbcaaDoorW.PrintWords Go.Proofs.YtmhlmkefnmdbcaaDoorW.PrintLast
set_option linter.unusedVariables false
set_option linter.unusedSimpArgs false

/-- short: an answer; where it is true the list is short and its texts are. -/
theorem short_l (l : List ByteArray) (hl : (l.length : Int) < 9223372036854775807) (d : Nat) : ∀ i : Nat, i + d = l.length →
    ∃ b, Ev (fun k => laws_short.l0 k l l (l.length : Int) (i : Int)) b ∧ (b = true → l.length ≤ 150 ∧ ∀ j, i ≤ j → j < l.length → (l.getD j ByteArray.empty).size ≤ 1500) := by
  induction d with
  | zero =>
    intro i h
    exact ⟨_, Ev.step (fun _ => by rw [laws_short.l0]) (ev_neg (by omega) (Ev.now _)), fun hb => ⟨by simp at hb; omega, fun j h1 h2 => by omega⟩⟩
  | succ d ih =>
    intro i h
    obtain ⟨b, hb, hq⟩ := ih (i + 1) (by omega)
    by_cases c : ((rdOf ByteArray.empty l (i : Int)).size : Int) > 1500
    · exact ⟨false, Ev.step (fun _ => by rw [laws_short.l0]) (ev_pos (by omega) (ev_pos (by omega) (ev_pos (by omega) (ev_pos c (Ev.now _))))), fun h => by cases h⟩
    · refine ⟨b, Ev.step (fun _ => by rw [laws_short.l0, wrap_nat (by omega)]) (ev_pos (by omega) (ev_pos (by omega) (ev_pos (by omega) (ev_neg c hb)))), fun h => ⟨(hq h).1, fun j h1 h2 => ?_⟩⟩
      by_cases e : j = i
      · subst e; rw [rdOf_nat] at c; omega
      · exact (hq h).2 j (by omega) h2
theorem short_ev (l : List ByteArray) (hl : (l.length : Int) < 9223372036854775807) : ∃ b, Ev (fun k => laws_short.f k l) b ∧ (b = true → l.length ≤ 150 ∧ ∀ j, j < l.length → (l.getD j ByteArray.empty).size ≤ 1500) := by
  obtain ⟨b, hb, hq⟩ := short_l l hl l.length 0 (by omega)
  exact ⟨b, hb, fun h => ⟨(hq h).1, fun j hj => (hq h).2 j (by omega) hj⟩⟩

theorem short2 (a b : ByteArray) : ∃ r, Ev (fun k => laws_short.f k [a, b]) r ∧ (r = true → a.size ≤ 1500 ∧ b.size ≤ 1500) := by
  obtain ⟨r, hr, hq⟩ := short_ev [a, b] (by simp)
  exact ⟨r, hr, fun h => ⟨(hq h).2 0 (by simp), (hq h).2 1 (by simp)⟩⟩
theorem short1 (a : ByteArray) : ∃ r, Ev (fun k => laws_short.f k [a]) r ∧ (r = true → a.size ≤ 1500) := by
  obtain ⟨r, hr, hq⟩ := short_ev [a] (by simp)
  exact ⟨r, hr, fun h => (hq h).2 0 (by simp)⟩
theorem short3 (a b c : ByteArray) : ∃ r, Ev (fun k => laws_short.f k [a, b, c]) r ∧ (r = true → a.size ≤ 1500 ∧ b.size ≤ 1500 ∧ c.size ≤ 1500) := by
  obtain ⟨r, hr, hq⟩ := short_ev [a, b, c] (by simp)
  exact ⟨r, hr, fun h => ⟨(hq h).2 0 (by simp), (hq h).2 1 (by simp), (hq h).2 2 (by simp)⟩⟩
theorem short4 (a b c d : ByteArray) : ∃ r, Ev (fun k => laws_short.f k [a, b, c, d]) r ∧ (r = true → a.size ≤ 1500 ∧ b.size ≤ 1500 ∧ c.size ≤ 1500 ∧ d.size ≤ 1500) := by
  obtain ⟨r, hr, hq⟩ := short_ev [a, b, c, d] (by simp)
  exact ⟨r, hr, fun h => ⟨(hq h).2 0 (by simp), (hq h).2 1 (by simp), (hq h).2 2 (by simp), (hq h).2 3 (by simp)⟩⟩
end Go.Proofs.YtmhlmkefnmdbcaaDoor.Com

namespace Go.Proofs.YtmhlmkefnmdbcaaDoor.Com
open Go.RowKit Go.Proofs.YtmhlmkefnmdbcaaDoor.Z Go.Proofs.YtmhlmkefnmdbcaaDoor.Evs Go.Proofs.YtmhlmkefnmdbcaaDoor.By Go.Proofs.YtmhlmkefnmdbcaaDoorW.PrintWords Go.Proofs.YtmhlmkefnmdbcaaDoorW.PrintLast
set_option linter.unusedVariables false
set_option linter.unusedSimpArgs false

/-- The place of the first byte of a sort; -1 without one. -/
def idxI (c : UInt8) (l : List UInt8) : Int := if (l.dropWhile (· != c)) = [] then -1 else ((l.takeWhile (· != c)).length : Int)
theorem byte_eq (a c : UInt8) : ((a.toNat : Int) = (c.toNat : Int)) ↔ a = c := ⟨fun h => UInt8.toNat_inj.1 (by omega), fun h => by rw [h]⟩
theorem idx_split (c : UInt8) (l : List UInt8) : ∀ i : Nat, (∀ x ∈ l.take i, (x != c) = true) → l.takeWhile (· != c) = l.take i ++ (l.drop i).takeWhile (· != c) ∧ l.dropWhile (· != c) = (l.drop i).dropWhile (· != c) := by
  intro i h
  have e := List.take_append_drop i l
  constructor
  · conv => lhs; rw [← e]
    exact List.takeWhile_append_of_pos h
  · conv => lhs; rw [← e]
    exact List.dropWhile_append_of_pos h
theorem index_l (c : UInt8) (l : List UInt8) (hl : l.length ≤ 140737488351232) (d : Nat) : ∀ i : Nat, i + d = l.length → (∀ x ∈ l.take i, (x != c) = true) → Ev (fun k => spec_indexOf.l0 k (ofL l) (c.toNat : Int) (i : Int)) (idxI c l) := by
  have hs := ofL_size l
  induction d with
  | zero =>
    intro i h hp
    refine Ev.step (fun _ => by rw [spec_indexOf.l0]) (ev_neg (by omega) (ev_now ?_))
    have := (idx_split c l i hp).2
    rw [List.drop_of_length_le (by omega)] at this
    rw [idxI, if_pos (show List.dropWhile (fun x => x != c) l = [] from this)]
  | succ d ih =>
    intro i h hp
    have hi : i < l.length := by omega
    have hc := bt_ofL l i hi
    refine Ev.step (fun _ => by rw [spec_indexOf.l0, hc, wrap_nat (by omega)]) (ev_pos (by omega) (ev_pos (by omega) ?_))
    by_cases e : l[i]'hi = c
    · refine ev_pos ((byte_eq _ _).2 e) (ev_now ?_)
      have h1 := idx_split c l i hp
      rw [List.drop_eq_getElem_cons hi, List.dropWhile_cons, List.takeWhile_cons, if_neg (by simp [e]), if_neg (by simp [e])] at h1
      have h2 : ¬ List.dropWhile (fun x => x != c) l = [] := fun hh => by
        have := h1.2.symm.trans hh
        cases this
      rw [idxI, if_neg h2, h1.1, List.append_nil, List.length_take]
      omega
    · refine ev_neg (fun h => e ((byte_eq _ _).1 h)) (ih (i + 1) (by omega) (fun x hx => ?_))
      rw [List.take_succ_eq_append_getElem hi, List.mem_append] at hx
      rcases hx with hx | hx
      · exact hp x hx
      · simp at hx
        subst hx
        simpa using e
theorem index_ev (c : UInt8) (l : List UInt8) (hl : l.length ≤ 140737488351232) : Ev (fun k => spec_indexOf.f k (ofL l) (c.toNat : Int)) (idxI c l) := index_l c l hl l.length 0 (by omega) (by simp)
end Go.Proofs.YtmhlmkefnmdbcaaDoor.Com

namespace Go.Proofs.YtmhlmkefnmdbcaaDoor.Com
open Go Go.RowKit Go.Proofs.YtmhlmkefnmdbcaaDoor.Z Go.Proofs.YtmhlmkefnmdbcaaDoor.Evs Go.Proofs.YtmhlmkefnmdbcaaDoor.By Go.Proofs.YtmhlmkefnmdbcaaDoor.Bv Go.Proofs.YtmhlmkefnmdbcaaDoor.Ss Go.Proofs.YtmhlmkefnmdbcaaDoorW.PrintWords Go.Proofs.YtmhlmkefnmdbcaaDoorW.PrintLast
set_option linter.unusedVariables false
set_option linter.unusedSimpArgs false
theorem sg_of (l : List UInt8) : l.drop (sgN (ofL l)) = (sgn l).2 ∧ sgB (ofL l) = (sgn l).1 := by
  cases l with
  | nil => exact ⟨rfl, rfl⟩
  | cons c r =>
    have h0 : 0 < (ofL (c :: r)).size := by rw [ofL_size]; simp
    have hg : (ofL (c :: r))[0]'h0 = c := rfl
    have e : sgn (c :: r) = if c = 43 then (false, r) else if c = 45 then (true, r) else (false, c :: r) := rfl
    unfold sgN sgB
    rw [dif_pos h0, dif_pos h0, hg, e]
    by_cases h1 : c = 43
    · subst h1
      exact ⟨rfl, rfl⟩
    · rw [if_neg h1]
      by_cases h2 : c = 45
      · subst h2
        exact ⟨rfl, rfl⟩
      · rw [if_neg h2, if_neg (by simp [h1, h2])]
        exact ⟨rfl, beq_eq_false_iff_ne.2 h2⟩
/-- The number that a text is. -/
def valS (l : List UInt8) : Option Int := if allD (sgn l).2 then some (if (sgn l).1 then -decV (sgn l).2 else decV (sgn l).2) else none
theorem cvt_val (l : List UInt8) : cvt (ofL l) = valS l := by
  obtain ⟨h1, h2⟩ := sg_of l
  unfold cvt valS
  rw [bl_ofL, h1, h2]
  by_cases ha : allD (sgn l).2 = true
  · have hb := ha
    unfold allD at hb
    rw [Bool.and_eq_true] at hb
    have hl : 0 < (sgn l).2.length := of_decide_eq_true hb.2
    rw [if_pos ha, if_pos ⟨fun h => by rw [h] at hl; simp at hl, hb.1⟩]
  · rw [if_neg ha, if_neg]
    rintro ⟨h3, h4⟩
    apply ha
    unfold allD
    rw [h4, decide_eq_true (List.length_pos_iff.2 h3)]
    rfl
theorem numS_cvt (l : List UInt8) : ofN (numS l) = match cvt (ofL l) with | none => (false, (⟨#[]⟩ : ByteArray), false) | some z => (decide (z < 0), plainS z, true) := by
  rw [cvt_val]
  unfold valS numS ofN
  by_cases ha : allD (sgn l).2 = true
  · rw [if_pos ha, if_pos ha]
    have hd := allD_all ha
    have h0 := (decV_bounds _ hd).1
    have hv := magB_val _ hd
    have hc := magB_can _ hd
    have hz : ((sgn l).2 |> decV).natAbs = (decV (sgn l).2).toNat := by omega
    have hm : magB (sgn l).2 = magOf (decV (sgn l).2).toNat := magOf_of hc (by rw [hv]; omega)
    have he : decide (0 < decV (sgn l).2) = !(magB (sgn l).2).isEmpty := by
      cases hb : magB (sgn l).2 with
      | nil =>
        rw [hb] at hv
        have : (0 : Int) = decV (sgn l).2 := hv
        rw [← this]
        rfl
      | cons x r =>
        rw [hb] at hv hc
        have h1 := canB_pos hc
        have h2 := beV_nonneg r
        have h3 := pow256_pos r.length
        have h4 : beV (x :: r) = (x.toNat : Int) * 256 ^ r.length + beV r := rfl
        have h5 : (1 : Int) * 1 ≤ (x.toNat : Int) * 256 ^ r.length := Int.mul_le_mul (by omega) h3 (by omega) (by omega)
        have h6 : 0 < decV (sgn l).2 := by omega
        rw [decide_eq_true h6]
        rfl
    show ((sgn l).1 && !(magB (sgn l).2).isEmpty, ofL (magB (sgn l).2), true) = (decide ((if (sgn l).1 = true then -decV (sgn l).2 else decV (sgn l).2) < 0), plainS _, true)
    have hp : plainS (if (sgn l).1 = true then -decV (sgn l).2 else decV (sgn l).2) = ofL (magB (sgn l).2) := by
      unfold plainS
      rw [hm]
      congr 2
      split <;> omega
    rw [hp, ← he]
    cases hs : (sgn l).1
    · have : decide ((if false = true then -decV (sgn l).2 else decV (sgn l).2) < 0) = false := decide_eq_false (by simp; omega)
      rw [this]
      rfl
    · have : decide ((if true = true then -decV (sgn l).2 else decV (sgn l).2) < 0) = decide (0 < decV (sgn l).2) := by simp
      rw [this]
      rfl
  · rw [if_neg ha, if_neg ha]
    rfl
end Go.Proofs.YtmhlmkefnmdbcaaDoor.Com

namespace Go.Proofs.YtmhlmkefnmdbcaaDoor.Com
open Go.RowKit Go.Proofs.YtmhlmkefnmdbcaaDoor.Z Go.Proofs.YtmhlmkefnmdbcaaDoor.Evs Go.Proofs.YtmhlmkefnmdbcaaDoor.By Go.Proofs.YtmhlmkefnmdbcaaDoorW.PrintWords Go.Proofs.YtmhlmkefnmdbcaaDoorW.PrintLast
set_option linter.unusedVariables false
set_option linter.unusedSimpArgs false

def mkB (c : UInt8) : Bool := c == 46 || c == 45
theorem cranMark_f (c : UInt8) : spec_cranMark.f (c.toNat : Int) = some (mkB c) := by
  have h6 : ((c.toNat : Int) = 46) ↔ c = 46 := ⟨fun h => UInt8.toNat_inj.1 (by have : (46 : UInt8).toNat = 46 := rfl; omega), fun h => by rw [h]; rfl⟩
  have h5 : ((c.toNat : Int) = 45) ↔ c = 45 := ⟨fun h => UInt8.toNat_inj.1 (by have : (45 : UInt8).toNat = 45 := rfl; omega), fun h => by rw [h]; rfl⟩
  unfold spec_cranMark.f mkB
  by_cases e6 : c = 46
  · subst e6
    simp
  · have n6 : ¬ ((c.toNat : Int) = 46) := fun h => e6 (h6.1 h)
    have b6 : (c == 46) = false := beq_eq_false_iff_ne.2 e6
    by_cases e5 : c = 45
    · subst e5
      simp
    · have n5 : ¬ ((c.toNat : Int) = 45) := fun h => e5 (h5.1 h)
      have b5 : (c == 45) = false := beq_eq_false_iff_ne.2 e5
      simp [n6, n5, b6, b5]
theorem cutM_l (l : List UInt8) (hl : l.length ≤ 100000) (d : Nat) : ∀ (i f : Nat) (acc : List ByteArray), i + d = l.length → f ≤ i → acc.length ≤ i →
    Ev (fun k => spec_cut_cranMark.l0 k (ofL l) acc (f : Int) (i : Int)) (acc ++ (onto ((l.take i).drop f) (cutP mkB (l.drop i))).map ofL) := by
  have hs := ofL_size l
  have hext : ∀ i f : Nat, (ofL l).extract ((f : Int)).toNat ((i : Int)).toNat = ofL ((l.take i).drop f) := fun i f => by rw [Int.toNat_natCast, Int.toNat_natCast, ofL_extract]
  induction d with
  | zero =>
    intro i f acc h hf ha
    have e : l.drop i = [] := List.drop_of_length_le (by omega)
    rw [e]
    refine Ev.step (fun _ => by rw [spec_cut_cranMark.l0, hext, wrap_nat (by omega)]) (ev_pos (by omega) (ev_pos (by omega) (ev_pos (by omega) (ev_pos (by omega) (ev_pos (by omega) ?_)))))
    refine Ev.step (fun _ => by rw [spec_cut_cranMark.l0]) (ev_neg (by omega) (ev_now ?_))
    simp [cutP, onto]
  | succ d ih =>
    intro i f acc h hf ha
    have hc := bt_ofL l i (by omega)
    have e : l.drop i = l[i]'(by omega) :: l.drop (i + 1) := List.drop_eq_getElem_cons (by omega)
    have et : l.take (i + 1) = l.take i ++ [l[i]'(by omega)] := (List.take_append_getElem (by omega)).symm
    refine Ev.step (fun _ => by rw [spec_cut_cranMark.l0, hc, cranMark_f, Option.bind_some, hext, wrap_nat (by omega)]) (ev_pos (by omega) (ev_neg (by omega) (ev_pos (by omega) (ev_pos (by omega) ?_))))
    cases hp : mkB (l[i]'(by omega)) with
    | true =>
      refine ev_t (ev_pos (by omega) (ev_pos (by omega) (ev_pos (by omega) ?_)))
      refine ev_eq (ih (i + 1) (i + 1) (acc ++ [ofL ((l.take i).drop f)]) (by omega) (Nat.le_refl _) (by simp; omega)) ?_
      have e0 : (l.take (i + 1)).drop (i + 1) = [] := List.drop_of_length_le (by rw [List.length_take]; omega)
      rw [e, onto_cut _ _ _ _ hp, e0, onto_nil]
      simp
    | false =>
      refine ev_f ?_
      refine ev_eq (ih (i + 1) f acc (by omega) (by omega) (by omega)) ?_
      rw [e, onto_cons _ _ _ _ hp, et, List.drop_append_of_le_length (by simp; omega)]
theorem cutM_ev (l : List UInt8) (hl : l.length ≤ 100000) (n : Nat) : Ev (fun k => spec_cut_cranMark.f k (ofL l) n) ((cutP mkB l).map ofL) := by
  unfold spec_cut_cranMark.f
  have := cutM_l l hl l.length 0 0 [] (by omega) (Nat.le_refl _) (by simp)
  simpa [onto_nil] using this
end Go.Proofs.YtmhlmkefnmdbcaaDoor.Com

namespace Go.Proofs.YtmhlmkefnmdbcaaDoor.Com
open Go Go.RowKit Go.Proofs.YtmhlmkefnmdbcaaDoor.Z Go.Proofs.YtmhlmkefnmdbcaaDoor.Evs Go.Proofs.YtmhlmkefnmdbcaaDoor.By Go.Proofs.YtmhlmkefnmdbcaaDoorW.PrintWords Go.Proofs.YtmhlmkefnmdbcaaDoorW.PrintLast
set_option linter.unusedVariables false
set_option linter.unusedSimpArgs false
theorem cutP_zr : ∀ l : List UInt8, cutP (· == 46) (l.map (zrF 45 46)) = cutP mkB l
  | [] => rfl
  | c :: l => by
    have ih := cutP_zr l
    rw [List.map_cons, cutP, cutP, ih]
    by_cases h6 : c = 46
    · subst h6
      rfl
    · by_cases h5 : c = 45
      · subst h5
        rfl
      · have hz : zrF 45 46 c = c := if_neg h5
        have hm : mkB c = false := by simp [mkB, h6, h5]
        rw [hz, hm, if_neg (by simpa using h6), if_neg (by decide)]
def crR (acc : List CPI) : Option (List Int) → List CPI × Bool
  | none => ([], false)
  | some zs => (acc ++ zs.map plI, true)
theorem parse_l (ps : List (List UInt8)) (hl : ps.length ≤ 100001) (hz : ∀ x ∈ ps, x.length ≤ 100000) (d : Nat) : ∀ (i : Nat) (acc : List CPI), i + d = ps.length → acc.length ≤ i → Ev (fun k => spec_CRANParse.l0 k acc (ps.map ofL) (i : Int)) (crR acc (cvs ((ps.map ofL).drop i))) := by
  induction d with
  | zero =>
    intro i acc h ha
    refine Ev.step (fun _ => by rw [spec_CRANParse.l0]) (ev_neg (by rw [List.length_map]; omega) (ev_now ?_))
    rw [List.drop_of_length_le (by rw [List.length_map]; omega)]
    simp [cvs, crR]
  | succ d ih =>
    intro i acc h ha
    have hi : i < ps.length := by omega
    have hr : rdOf ByteArray.empty (ps.map ofL) (i : Int) = ofL ps[i] := by
      rw [rdOf_nat, List.getD_eq_getElem?_getD, List.getElem?_map, List.getElem?_eq_getElem hi]
      rfl
    have hn := number_ev ps[i] (hz _ (List.getElem_mem hi))
    rw [numS_cvt] at hn
    have e : (ps.map ofL).drop i = ofL ps[i] :: (ps.map ofL).drop (i + 1) := by
      rw [List.drop_eq_getElem_cons (by rw [List.length_map]; exact hi), List.getElem_map]
    refine Ev.step (fun _ => by rw [spec_CRANParse.l0, hr, wrap_nat (by omega)]) (ev_pos (by rw [List.length_map]; omega) (ev_pos (by omega) (Ev.bind hn ?_)))
    rw [e, cvs]
    cases hc : Ss.cvt (ofL ps[i]) with
    | none => exact ev_f (ev_now rfl)
    | some z =>
      refine ev_t (ev_pos (by omega) ?_)
      refine ev_eq (ih (i + 1) (acc ++ [plI z]) (by omega) (by simp; omega)) ?_
      cases cvs ((ps.map ofL).drop (i + 1)) with
      | none => rfl
      | some zs => simp [crR]
theorem parse_ev (l : List UInt8) (hl : l.length ≤ 100000) : Ev (fun k => spec_CRANParse.f k (ofL l)) (crR [] (crP (ofL l))) := by
  unfold spec_CRANParse.f crP
  by_cases h0 : l = []
  · subst h0
    refine ev_pos (by rw [toList_ofL]) (ev_now ?_)
    rw [if_pos (by rw [ofL_size]; rfl)]
    rfl
  · have hs : ¬ (ofL l).size = 0 := by rw [ofL_size]; exact fun h => h0 (List.eq_nil_of_length_eq_zero h)
    refine ev_neg (by rw [toList_ofL]; exact h0) (Ev.bind (cutM_ev l hl 37) ?_)
    have hp : crPs (ofL l) = (cutP mkB l).map ofL := by
      unfold crPs
      rw [bl_ofL, cutP_zr]
    obtain ⟨h1, h2⟩ := cutP_len mkB l
    have := parse_l (cutP mkB l) (by omega) (fun x hx => by have := h2 x hx; omega) (cutP mkB l).length 0 [] (by omega) (Nat.le_refl _)
    rw [if_neg hs, hp]
    exact this
theorem ints_l (l : List CPI) (hl : l.length ≤ 1000000) (d : Nat) : ∀ i : Nat, i + d = l.length → Ev (fun k => laws_ints.l0 k l l (l.length : Int) (i : Int)) true := by
  induction d with
  | zero =>
    intro i h
    exact Ev.step (fun _ => by rw [laws_ints.l0]) (ev_neg (by omega) (ev_now rfl))
  | succ d ih =>
    intro i h
    refine Ev.step (fun _ => by rw [laws_ints.l0, wrap_nat (by omega)]) (ev_pos (by omega) (ev_pos (by omega) (ev_pos (by omega) (ev_pos (by omega) (ev_neg (by simp) (ih (i + 1) (by omega)))))))
theorem ints_ev (l : List CPI) (hl : l.length ≤ 1000000) : Ev (fun k => laws_ints.f k l l) true := by
  unfold laws_ints.f
  exact ev_pos rfl (ints_l l hl l.length 0 (by omega))
end Go.Proofs.YtmhlmkefnmdbcaaDoor.Com

namespace Go.Proofs.YtmhlmkefnmdbcaaDoor.Pure
open Go.RowKit Go.Proofs.YtmhlmkefnmdbcaaDoor.Z Go.Proofs.YtmhlmkefnmdbcaaDoor.Evs Go.Proofs.YtmhlmkefnmdbcaaDoor.By Go.Proofs.YtmhlmkefnmdbcaaDoor.Com Go.Proofs.YtmhlmkefnmdbcaaDoorW.PrintWords Go.Proofs.YtmhlmkefnmdbcaaDoorW.PrintLast
set_option linter.unusedVariables false
set_option linter.unusedSimpArgs false

theorem cran_f (a : ByteArray) (ha : a.size ≤ 100000) : impl_CRANParse.f a = some (crR [] (crP a)) := by
  unfold impl_CRANParse.f
  rw [if_pos ha]
  cases crP a <;> rfl
theorem FnCRANParse : laws_FnCRANParse.Pure := by
  intro a h0
  refine Ev.rounds ?_
  unfold laws_FnCRANParse.f
  have skip : Ev (fun k => laws_FnCRANParse.j0 k a true) true := Ev.step (fun _ => by rw [laws_FnCRANParse.j0]) (ev_t (ev_now rfl))
  refine ev_ite (fun _ => ev_now rfl) (fun _ => ?_)
  obtain ⟨r, e, s⟩ := short1 a
  refine Ev.bind e ?_
  cases r with
  | false => exact ev_f skip
  | true =>
    have hs := s rfl
    have hi := index_ev 43 (bl a) (by rw [bl_length]; omega)
    have hc : ((43 : UInt8).toNat : Int) = 43 := rfl
    rw [ofL_bl, hc] at hi
    have hp := parse_ev (bl a) (by rw [bl_length]; omega)
    rw [ofL_bl] at hp
    have key : Ev (fun k => laws_FnCRANParse.j0 k a false) true := by
      refine Ev.step (fun _ => by rw [laws_FnCRANParse.j0, cran_f a (by omega)]) (ev_f ?_)
      refine ev_some (Ev.bind hp (ev_pos (by simp) ?_))
      have hl : (crR [] (crP a)).1.length ≤ 1000000 := by
        cases hcr : crP a with
        | none => simp [crR]
        | some zs =>
          have := (crP_small hcr).1
          simp [crR]
          omega
      exact Ev.bind (ints_ev _ hl) (ev_now rfl)
    have hk : Ev (fun k => spec_CRANKnown.f k a) (decide (idxI 43 (bl a) < 0)) := by
      unfold spec_CRANKnown.f
      exact Ev.bind hi (ev_now rfl)
    refine ev_t (Ev.bind hk ?_)
    cases decide (idxI 43 (bl a) < 0) with
    | false => exact skip
    | true => exact key
end Go.Proofs.YtmhlmkefnmdbcaaDoor.Pure

namespace Go.Proofs.YtmhlmkefnmdbcaaDoor.fnCRANParse
open Go.ChangeShapes Go.WideShapes Go.ChangeAt Go.RowKit Go.Proofs.YtmhlmkefnmdbcaaDoor.Op Go.Proofs.YtmhlmkefnmdbcaaDoor.Z Go.Proofs.YtmhlmkefnmdbcaaDoorW.PrintWords
open Go.ChangeMaps (open_string shut_string)
set_option linter.unusedVariables false
set_option linter.unusedSimpArgs false
theorem own : ownKnob Tryd.prog.godebug = none := by kernel_rfl
theorem laidOut : laidOutB Tryd.prog = true := by kernel_rfl
noncomputable def low (os : Os) : Nat := (World.settled Tryd.prog os).heap.size
def put (h : Array Obj) (g : Nat) (cs : Array Value) : Array Obj := h.modify g fun
  | .cells _ t frozen => .cells cs t frozen
  | o => o
/-- A world for the witness: the listed variables hold what their initialisers lay. -/
noncomputable def laidWorld (os : Os) : World :=
  let w0 := World.holding Tryd.prog os ⟨#[(.cells #[.string ⟨#[69, 79, 70]⟩] 178), (.cells #[.string ⟨#[110, 117, 109, 98, 101, 114, 32, 104, 97, 115, 32, 110, 111, 32, 100, 105, 103, 105, 116, 115]⟩] 178), (.cells #[.string ⟨#[39, 95, 39, 32, 109, 117, 115, 116, 32, 115, 101, 112, 97, 114, 97, 116, 101, 32, 115, 117, 99, 99, 101, 115, 115, 105, 118, 101, 32, 100, 105, 103, 105, 116, 115]⟩] 178), (.cells #[.string ⟨#[105, 110, 118, 97, 108, 105, 100, 32, 118, 101, 114, 115, 105, 111, 110]⟩] 178)], #[], []⟩
  { w0 with heap := put (put (put (put (w0.heap) 2 #[.iface 163 (.pointer (some ⟨low os + 0, 0, none⟩))]) 5 #[.iface 163 (.pointer (some ⟨low os + 1, 0, none⟩))]) 4 #[.iface 163 (.pointer (some ⟨low os + 2, 0, none⟩))]) 0 #[.iface 163 (.pointer (some ⟨low os + 3, 0, none⟩))] }
set_option maxRecDepth 100000 in
theorem laid_met (os : Os) : laidMet Tryd.prog Rows.fnCRANParseRow.laid ((laidWorld os).forCall (fun _ _ => 0) ⟨#[], #[.string ByteArray.empty], []⟩).memory :=
  laidMet_of_run3 8 (by kernel_rfl) (by kernel_rfl) (by kernel_rfl)
set_option maxRecDepth 100000 in
theorem reads (os : Os) {H : Type} (enc : TypeId × Value → H) : DataW.whole enc Tryd.prog ((laidWorld os).forCall (fun _ _ => 0) ⟨#[], #[.string ByteArray.empty], []⟩).memory Tryd.f3.params.toList Rows.fnCRANParseSpec.vars false #[.string ByteArray.empty].toList 8 = some ([.lit (.string [])], [], []) := by kernel_rfl
set_option maxRecDepth 100000 in
theorem lifted (os : Os) (started : os.Started) (H : Type) (enc : TypeId × Value → H) (F : Stop.Interp) :
    ReturnsInHanded {} Tryd.checked os 3 .any ((OpenSpec.ofChange Rows.fnCRANParseSpec).preRow enc Tryd.prog Tryd.f3 Rows.fnCRANParseRow.domain false Rows.fnCRANParseRow.laid) (((OpenSpec.ofChange Rows.fnCRANParseSpec).at F).post enc Tryd.prog Tryd.f3 false true false false) := by
  refine returnsInHanded_of_row (C := Tryd.checked) (s := OpenSpec.ofChange Rows.fnCRANParseSpec) own started (by kernel_rfl) Tryd.func3
    (witness_row_atRef (enc := enc) (C := Tryd.checked) false (laidWorld os) #[.string ByteArray.empty] rfl (by kernel_rfl) (by kernel_rfl) (by kernel_rfl)
      (OpenSpec.preRow_of_cond 8 (reads os enc) (by kernel_rfl) (fun k hk => by cases hk) (by kernel_rfl) (laid_met os))) ?_
  intro W base args ds gs before hval0 hW hcnd hk0 hsz0 hL hSh hho
  have hsz : (DataW.weightsEach Tryd.prog (Tryd.f3.params.toList ++ Rows.fnCRANParseSpec.plain.varTypes Tryd.prog) (ds ++ gs)).all (· ≤ reachBytes) = true := hsz0
  have hval : ∀ (j : Nat) t v, Tryd.f3.params[j]? = some t → args[j]? = some v → Value.okWide Tryd.prog W .any base t v := hval0
  have hW' := hW
  obtain ⟨p, q, hA0, hV, rfl, hfz, hnd⟩ := hW
  have hA : DataW.TrodAll enc Tryd.prog W 0 (fun _ => true) true Tryd.f3.params.toList args.toList ds p := hA0
  rw [Tryd.params3] at hA hval hsz
  obtain ⟨v0, vs0, d0, ds0, p0, q0, hargs, rfl, rfl, h0, r0⟩ := trodAll_cons hA
  obtain ⟨rfl, rfl, rfl⟩ := trodAll_nil r0
  obtain rfl : args = #[v0] := by cases args; simp_all
  obtain ⟨rfl, rfl⟩ := trodVars_none hV
  obtain ⟨a0, rfl, rfl, rfl, y0⟩ := open_string Tryd.underlying9 (hval 0 9 v0 rfl rfl) h0
  have w0 : a0.size ≤ 140737488351232 := by
    have z := sized_string hsz (j := 0) (t := 9) rfl rfl
    rw [Array.length_toList] at z
    exact z
  clear hA0 hval0 hsz0 hsz
  refine (laws_FnCRANParse.walk Pure.FnCRANParse a0 W w0  (Gw.gw_of (l := Rows.fnCRANParseRow.laid) hL (List.Mem.head _) (List.Mem.tail _ (List.Mem.head _)) (List.Mem.tail _ (List.Mem.tail _ (List.Mem.tail _ (List.Mem.head _)))))).mono fun e W' ⟨he, bel⟩ => ?_
  subst he
  exact ⟨_, rfl, _, _, _, [], _, [], hW', trodAll_mk1 (shut_bool Tryd.underlying4 _), (trodAll_cons_mk (shut_string Tryd.underlying9 y0) trodAll_mk0), rfl, bel.frame _, fun h => by cases h⟩
theorem said : Rows.FnCRANParseSaid :=
  OpenClaim.holds_of_cond 3 Tryd.f3 rfl rfl rfl rfl rfl rfl rfl ⟨rfl, rfl, rfl, rfl, rfl⟩ rfl rfl rfl rfl rfl (by kernel_rfl) Tryd.func3 (by kernel_rfl)
    (of_decide_eq_true (by kernel_rfl)) (by unfold Func.isWrapper; first | (rw [if_pos (by decide +kernel)]; kernel_rfl) | (rw [if_neg (by decide +kernel)]; exact ⟨rfl, rfl⟩))
    (fun os started H enc _ F => by rw [OpenClaim.pre_eq_preRow]; exact lifted os started H enc F)
theorem plain (f : FuncId) (fn : Func) (hf : Tryd.pinned.checked.prog.funcNamed "pub-seniority/laws.FnCRANParse" = some f) (hfn : Tryd.pinned.checked.prog.funcs[f]? = some fn) :
    true = Tryd.pinned.checked.prog.looks [] ∧ ∀ (j : Nat) t, fn.params[j]? = some t → Tryd.pinned.checked.prog.wantsStandIn t = false := by
  obtain rfl : f = 3 := Option.some.inj ((show Tryd.prog.funcNamed "pub-seniority/laws.FnCRANParse" = some 3 by kernel_rfl).symm.trans hf) |>.symm
  obtain rfl : fn = Tryd.f3 := (Option.some.inj (Tryd.func3.symm.trans hfn)).symm
  refine ⟨by kernel_rfl, fun j t ht => ?_⟩
  rw [Tryd.params3] at ht
  have h2 : ([9] : List TypeId).all (fun t => !Tryd.prog.wantsStandIn t) = true := by kernel_rfl
  have h3 := List.all_eq_true.1 h2 t (by have := Array.mem_of_getElem? ht; simpa using this)
  exact (show Tryd.prog.wantsStandIn t = false from by simpa using h3)
theorem proved : Rows.FnCRANParseCardSaid :=
  Claim7.holds_tied_plain_at .later [] _ _ _ _ said (fun _ h => by cases h) (by kernel_rfl) (fun _ h => by cases h) fnCRANParse_row_tie rfl ⟨rfl, rfl⟩ (by kernel_rfl) rfl plain (by kernel_rfl)
#print axioms proved
end Go.Proofs.YtmhlmkefnmdbcaaDoor.fnCRANParse
namespace Go.Proofs.YtmhlmkefnmdbcaaDoor
/-- The card, under a short name, for the claim. -/
theorem fnCRANParse_holds : Rows.FnCRANParseCardSaid := fnCRANParse.proved
end Go.Proofs.YtmhlmkefnmdbcaaDoor
