/- FnCRANSorted: a list of CRAN versions that is put in order by the program is in the order of package_version. No condition beyond the row's own. -/
import Derived.Test.YtmhlmkefnmdbcaaDoorZ1
import Derived.Test.YtmhlmkefnmdbcaaDoorBv
import Derived.Test.YtmhlmkefnmdbcaaDoorComD
import Derived.Test.YtmhlmkefnmdbcaaDoorSsC
import Derived.Test.YtmhlmkefnmdbcaaDoorBy
import Derived.Test.YtmhlmkefnmdbcaaDoorZ10
import Derived.Test.YtmhlmkefnmdbcaaDoorEv
import Derived.Test.YtmhlmkefnmdbcaaDoorZ5
import Derived.Test.YtmhlmkefnmdbcaaDoorZ8
import Derived.Test.YtmhlmkefnmdbcaaDoorZ9
import Derived.Test.YtmhlmkefnmdbcaaDoorLx
import Derived.Test.YtmhlmkefnmdbcaaDoorZ11
import Derived.Test.YtmhlmkefnmdbcaaDoorRows
import Derived.Test.YtmhlmkefnmdbcaaDoorOp
import Derived.Test.YtmhlmkefnmdbcaaDoorCards
import Derived.Test.YtmhlmkefnmdbcaaDoorTie
import Derived.Test.YtmhlmkefnmdbcaaDoorGl
import Derived.Deep.DeepHandedRow
import Derived.Deep.DeepWitnessRowRef
import Derived.Deep.DeepLaidRun
import Derived.WalkKit
import Derived.ProofKit
import Derived.OpenShut
import Derived.ShutString
import Derived.ChangeOld
import Derived.Below
import Derived.SizedLaws
namespace Go.Proofs.YtmhlmkefnmdbcaaDoor.Com
open Go Go.RowKit Go.Proofs.YtmhlmkefnmdbcaaDoor.Z Go.Proofs.YtmhlmkefnmdbcaaDoor.Evs Go.Proofs.YtmhlmkefnmdbcaaDoor.By Go.Proofs.YtmhlmkefnmdbcaaDoor.Bv Go.Proofs.YtmhlmkefnmdbcaaDoorW.PrintWords Go.Proofs.YtmhlmkefnmdbcaaDoorW.PrintLast
set_option linter.unusedVariables false
set_option linter.unusedSimpArgs false

theorem rd_mid (pre rest : List Int) (x : Int) : rd (pre ++ x :: rest) (pre.length : Int) = x := by
  rw [rd_nat, List.getD_eq_getElem?_getD, List.getElem?_append_right (Nat.le_refl _), Nat.sub_self]
  rfl
theorem set_mid (pre rest : List Int) (x y : Int) : (pre ++ x :: rest).set pre.length y = (pre ++ [y]) ++ rest := by
  rw [List.set_append_right _ _ (Nat.le_refl _), Nat.sub_self]
  simp
theorem int_l1 (s : List UInt8) (i : Int) (r : Bool × ByteArray) : ∀ (rest pre : List Int) (c : Int), Byt rest → 0 ≤ c → c ≤ 9 → pre.length + rest.length ≤ 1000000 →
    Ev (fun k => spec_intOf.l0 k (ofL s) (pre ++ mulA rest c) (wrap64 (i + 1))) r → Ev (fun k => spec_intOf.l1 k (ofL s) (pre ++ rest) i c (pre.length : Int)) r
  | [], pre, c, _, h0, h9, hl, hk => by
    rw [List.append_nil]
    refine Ev.step (fun _ => by rw [spec_intOf.l1]) ?_
    refine ev_neg (by omega) ?_
    rw [mulA] at hk
    have hl' : pre.length + 0 ≤ 1000000 := hl
    by_cases hc : 0 < c
    · rw [if_pos hc] at hk
      refine ev_pos hc (ev_pos (by omega) ?_)
      have e : c % 256 = c := by omega
      rw [e]
      exact hk
    · rw [if_neg hc, List.append_nil] at hk
      exact ev_neg (by omega) hk
  | x :: rest, pre, c, hb, h0, h9, hl, hk => by
    have hx := hb.head
    have hl' : (x :: rest).length = rest.length + 1 := rfl
    have hlen : (pre ++ x :: rest).length = pre.length + (x :: rest).length := List.length_append
    have e1 : wrap64 (rd (pre ++ x :: rest) (pre.length : Int)) = x := by rw [rd_mid, wrap_in (by omega) (by omega)]
    have e2 : wrap64 (10 * x) = 10 * x := wrap_in (by omega) (by omega)
    have e3 : wrap64 (c + 10 * x) = c + 10 * x := wrap_in (by omega) (by omega)
    have e4 : Int.tmod (c + 10 * x) 256 % 256 = (c + 10 * x) % 256 := by
      rw [Int.tmod_eq_emod_of_nonneg (by omega)]
      omega
    have e5 : wrap64 (Int.tdiv (c + 10 * x) 256) = (c + 10 * x) / 256 := by
      rw [Int.tdiv_eq_ediv_of_nonneg (by omega), wrap_in (by omega) (by omega)]
    have e6 : wrap64 ((pre.length : Int) + 1) = ((pre ++ [(c + 10 * x) % 256]).length : Int) := by
      rw [wrap_nat (by omega), List.length_append, List.length_singleton]
    refine Ev.step (fun _ => by rw [spec_intOf.l1, e1, e2, e3, e4, e5, Int.toNat_natCast, set_mid, e6]) ?_
    refine ev_pos (by omega) (ev_pos (by omega) ?_)
    refine int_l1 s i r rest (pre ++ [(c + 10 * x) % 256]) ((c + 10 * x) / 256) hb.tail (by omega) (by omega) (by rw [List.length_append, List.length_singleton]; omega) ?_
    rw [mulA] at hk
    rw [List.append_assoc]
    exact hk
theorem int_l2 (m : List Int) (hm : m.length ≤ 1000000) (d : Nat) : ∀ j : Nat, j + d = m.length → Ev (fun k => spec_intOf.l2 k m (List.replicate d 0 ++ (m.take j).reverse) (j : Int)) (false, strOfNums m.reverse) := by
  induction d with
  | zero =>
    intro j h
    refine Ev.step (fun _ => by rw [spec_intOf.l2]) (ev_neg (by omega) (ev_now ?_))
    rw [List.take_of_length_le (by omega)]
    rfl
  | succ d ih =>
    intro j h
    have hj : j < m.length := by omega
    have e1 : wrap64 ((m.length : Int) - 1) = (m.length : Int) - 1 := wrap_in (by omega) (by omega)
    have e2 : wrap64 ((m.length : Int) - 1 - (j : Int)) = (d : Int) := by rw [wrap_in (by omega) (by omega)]; omega
    have e3 : rd m (j : Int) = m[j] := by
      rw [rd_nat, List.getD_eq_getElem?_getD, List.getElem?_eq_getElem hj]
      rfl
    have e4 : (List.replicate (d + 1) (0 : Int) ++ (m.take j).reverse).set d m[j] = List.replicate d 0 ++ (m.take (j + 1)).reverse := by
      rw [List.take_succ_eq_append_getElem hj, List.reverse_append, List.reverse_singleton, List.replicate_succ', List.append_assoc, List.set_append_right _ _ (by simp), List.length_replicate, Nat.sub_self]
      rfl
    have hlen : (List.replicate (d + 1) (0 : Int) ++ (m.take j).reverse).length = m.length := by
      rw [List.length_append, List.length_replicate, List.length_reverse, List.length_take]
      omega
    refine Ev.step (fun _ => by rw [spec_intOf.l2, e1, e2, e3, Int.toNat_natCast, e4, wrap_nat (by omega)]) ?_
    exact ev_pos (by omega) (ev_pos (by omega) (ev_pos (by omega) (ev_pos (by omega) (ih (j + 1) (by omega)))))
theorem int_l0 (s : List UInt8) (hs : s.length ≤ 100000) (hd : s.all dg = true) (d : Nat) : ∀ i : Nat, i + d = s.length → Ev (fun k => spec_intOf.l0 k (ofL s) (magL (s.take i)) (i : Int)) (false, strOfNums (magL s).reverse) := by
  have hz := ofL_size s
  induction d with
  | zero =>
    intro i h
    have hm := (mag_all s.length s rfl hd).2.2.2
    rw [List.take_of_length_le (by omega)]
    refine Ev.step (fun _ => by rw [spec_intOf.l0, Int.toNat_natCast]) ?_
    refine ev_neg (by omega) (ev_pos (by omega) (ev_pos (by omega) ?_))
    have := int_l2 (magL s) (by omega) (magL s).length 0 (by omega)
    simpa using this
  | succ d ih =>
    intro i h
    have hi : i < s.length := by omega
    have hc := bt_ofL s i hi
    have hall : (s.take i).all dg = true := by
      rw [List.all_eq_true] at *
      exact fun c hc => hd c (List.mem_of_mem_take hc)
    obtain ⟨m1, m2, m3, m4⟩ := mag_all (s.take i).length (s.take i) rfl hall
    have hdi : dg s[i] = true := List.all_eq_true.1 hd _ (List.getElem_mem hi)
    have hr := dv_range hdi
    have e1 : ((s[i].toNat : Int) - 48) % 256 = dv s[i] := by unfold dv at *; omega
    have hl : (s.take i).length ≤ i := List.length_take_le _ _
    refine Ev.step (fun _ => by rw [spec_intOf.l0, hc, e1]) ?_
    refine ev_pos (by omega) (ev_pos (by omega) ?_)
    have nx := ih (i + 1) (by omega)
    rw [List.take_succ_eq_append_getElem hi, magL_snoc, ← wrap_nat (by omega)] at nx
    exact int_l1 s (i : Int) _ (magL (s.take i)) [] (dv s[i]) m2 hr.1 hr.2 (by simp only [List.length_nil]; omega) nx
theorem intOf_ev (s : List UInt8) (hs : s.length ≤ 100000) (hd : s.all dg = true) : Ev (fun k => spec_intOf.f k (ofL s)) (false, ofL (magB s)) := by
  have := int_l0 s hs hd s.length 0 (by omega)
  rw [← magB_nums s hd, strOf_numsOf] at this
  exact this
/-- A sign ahead, and what is behind. -/
def sgn : List UInt8 → Bool × List UInt8
  | [] => (false, [])
  | c :: r => if c = 43 then (false, r) else if c = 45 then (true, r) else (false, c :: r)
/-- The number that a text is, as the reference reads it. -/
def numS (s : List UInt8) : Bool × List UInt8 × Bool := if allD (sgn s).2 then ((sgn s).1 && !(magB (sgn s).2).isEmpty, magB (sgn s).2, true) else (false, [], false)
def ofN (p : Bool × List UInt8 × Bool) : Bool × ByteArray × Bool := (p.1, ofL p.2.1, p.2.2)
theorem allD_all {l : List UInt8} (h : allD l = true) : l.all dg = true := by
  unfold allD at h
  rw [Bool.and_eq_true] at h
  exact h.1
theorem num_j1 (t : List UInt8) (ht : t.length ≤ 100000) (neg : Bool) : Ev (fun k => spec_Number.j1 k (ofL t) neg) (ofN (if allD t then (neg && !(magB t).isEmpty, magB t, true) else (false, [], false))) := by
  refine Ev.step (fun _ => by rw [spec_Number.j1]) (Ev.bind (digits_ev t (by omega)) ?_)
  cases h : allD t with
  | false => exact ev_f (ev_now rfl)
  | true =>
    refine ev_t (Ev.bind (intOf_ev t ht (allD_all h)) ?_)
    cases neg with
    | false => exact ev_f (ev_now rfl)
    | true =>
      refine ev_t (ev_now ?_)
      show (!(ofL (magB t)).toList.isEmpty, ofL (magB t), true) = _
      rw [toList_ofL]
      rfl
theorem n43 (c : UInt8) : ((c.toNat : Int) = 43) ↔ c = 43 := ⟨fun h => UInt8.toNat_inj.1 (by have : (43 : UInt8).toNat = 43 := rfl; omega), fun h => by rw [h]; rfl⟩
theorem n45 (c : UInt8) : ((c.toNat : Int) == 45) = decide (c = 45) := by
  rw [Bool.eq_iff_iff, beq_iff_eq, decide_eq_true_iff]
  exact ⟨fun h => UInt8.toNat_inj.1 (by have : (45 : UInt8).toNat = 45 := rfl; omega), fun h => by rw [h]; rfl⟩
theorem number_ev (s : List UInt8) (hs : s.length ≤ 100000) : Ev (fun k => spec_Number.f k (ofL s)) (ofN (numS s)) := by
  unfold spec_Number.f
  cases s with
  | nil =>
    refine ev_neg (by rw [ofL_size]; simp) ?_
    refine Ev.step (fun _ => by rw [spec_Number.j0]) ?_
    exact ev_f (num_j1 [] (by simp) false)
  | cons c r =>
    have hb : bt (ofL (c :: r)) 0 = (c.toNat : Int) := bt_ofL (c :: r) 0 (by simp)
    have hz := ofL_size (c :: r)
    have hl : (c :: r).length = r.length + 1 := rfl
    have hx : (ofL (c :: r)).extract 1 (ofL (c :: r)).size = ofL r := by
      rw [ofL_size, ofL_extract, List.take_length]
      rfl
    rw [hb, n45]
    refine ev_pos (by omega) (ev_pos (by omega) ?_)
    by_cases h1 : c = 43
    · refine ev_pos ((n43 c).2 h1) ?_
      refine Ev.step (fun _ => by rw [spec_Number.j0, hb, n45, hx]) ?_
      refine ev_t (ev_pos (by omega) (ev_pos (by omega) ?_))
      have h2 : ¬ c = 45 := fun e => by rw [h1] at e; cases e
      rw [decide_eq_false h2, numS, show sgn (c :: r) = (false, r) from if_pos h1]
      exact num_j1 r (by omega) false
    · refine ev_neg (fun h => h1 ((n43 c).1 h)) ?_
      by_cases h2 : c = 45
      · rw [decide_eq_true h2]
        refine Ev.step (fun _ => by rw [spec_Number.j0, hb, n45, hx, decide_eq_true h2]) ?_
        refine ev_t (ev_pos (by omega) (ev_pos (by omega) ?_))
        rw [numS, show sgn (c :: r) = (true, r) from (if_neg h1).trans (if_pos h2)]
        exact num_j1 r (by omega) true
      · rw [decide_eq_false h2]
        refine Ev.step (fun _ => by rw [spec_Number.j0]) ?_
        rw [numS, show sgn (c :: r) = (false, c :: r) from (if_neg h1).trans (if_neg h2)]
        exact ev_f (num_j1 (c :: r) (by omega) false)
end Go.Proofs.YtmhlmkefnmdbcaaDoor.Com

namespace Go.Proofs.YtmhlmkefnmdbcaaDoor.Com
open Go Go.RowKit Go.Proofs.YtmhlmkefnmdbcaaDoor.Z Go.Proofs.YtmhlmkefnmdbcaaDoor.Evs Go.Proofs.YtmhlmkefnmdbcaaDoor.By Go.Proofs.YtmhlmkefnmdbcaaDoor.Bv Go.Proofs.YtmhlmkefnmdbcaaDoor.Ss Go.Proofs.YtmhlmkefnmdbcaaDoorW.PrintWords Go.Proofs.YtmhlmkefnmdbcaaDoorW.PrintLast
set_option linter.unusedVariables false
set_option linter.unusedSimpArgs false
theorem sg_of (l : List UInt8) : l.drop (sgN (ofL l)) = (sgn l).2 ∧ sgB (ofL l) = (sgn l).1 := by
  cases l with
  | nil => exact ⟨rfl, rfl⟩
  | cons c r =>
    have h0 : 0 < (ofL (c :: r)).size := by rw [ofL_size]; simp
    have hg : (ofL (c :: r))[0]'h0 = c := rfl
    have e : sgn (c :: r) = if c = 43 then (false, r) else if c = 45 then (true, r) else (false, c :: r) := rfl
    unfold sgN sgB
    rw [dif_pos h0, dif_pos h0, hg, e]
    by_cases h1 : c = 43
    · subst h1
      exact ⟨rfl, rfl⟩
    · rw [if_neg h1]
      by_cases h2 : c = 45
      · subst h2
        exact ⟨rfl, rfl⟩
      · rw [if_neg h2, if_neg (by simp [h1, h2])]
        exact ⟨rfl, beq_eq_false_iff_ne.2 h2⟩
/-- The number that a text is. -/
def valS (l : List UInt8) : Option Int := if allD (sgn l).2 then some (if (sgn l).1 then -decV (sgn l).2 else decV (sgn l).2) else none
theorem cvt_val (l : List UInt8) : cvt (ofL l) = valS l := by
  obtain ⟨h1, h2⟩ := sg_of l
  unfold cvt valS
  rw [bl_ofL, h1, h2]
  by_cases ha : allD (sgn l).2 = true
  · have hb := ha
    unfold allD at hb
    rw [Bool.and_eq_true] at hb
    have hl : 0 < (sgn l).2.length := of_decide_eq_true hb.2
    rw [if_pos ha, if_pos ⟨fun h => by rw [h] at hl; simp at hl, hb.1⟩]
  · rw [if_neg ha, if_neg]
    rintro ⟨h3, h4⟩
    apply ha
    unfold allD
    rw [h4, decide_eq_true (List.length_pos_iff.2 h3)]
    rfl
theorem numS_cvt (l : List UInt8) : ofN (numS l) = match cvt (ofL l) with | none => (false, (⟨#[]⟩ : ByteArray), false) | some z => (decide (z < 0), plainS z, true) := by
  rw [cvt_val]
  unfold valS numS ofN
  by_cases ha : allD (sgn l).2 = true
  · rw [if_pos ha, if_pos ha]
    have hd := allD_all ha
    have h0 := (decV_bounds _ hd).1
    have hv := magB_val _ hd
    have hc := magB_can _ hd
    have hz : ((sgn l).2 |> decV).natAbs = (decV (sgn l).2).toNat := by omega
    have hm : magB (sgn l).2 = magOf (decV (sgn l).2).toNat := magOf_of hc (by rw [hv]; omega)
    have he : decide (0 < decV (sgn l).2) = !(magB (sgn l).2).isEmpty := by
      cases hb : magB (sgn l).2 with
      | nil =>
        rw [hb] at hv
        have : (0 : Int) = decV (sgn l).2 := hv
        rw [← this]
        rfl
      | cons x r =>
        rw [hb] at hv hc
        have h1 := canB_pos hc
        have h2 := beV_nonneg r
        have h3 := pow256_pos r.length
        have h4 : beV (x :: r) = (x.toNat : Int) * 256 ^ r.length + beV r := rfl
        have h5 : (1 : Int) * 1 ≤ (x.toNat : Int) * 256 ^ r.length := Int.mul_le_mul (by omega) h3 (by omega) (by omega)
        have h6 : 0 < decV (sgn l).2 := by omega
        rw [decide_eq_true h6]
        rfl
    show ((sgn l).1 && !(magB (sgn l).2).isEmpty, ofL (magB (sgn l).2), true) = (decide ((if (sgn l).1 = true then -decV (sgn l).2 else decV (sgn l).2) < 0), plainS _, true)
    have hp : plainS (if (sgn l).1 = true then -decV (sgn l).2 else decV (sgn l).2) = ofL (magB (sgn l).2) := by
      unfold plainS
      rw [hm]
      congr 2
      split <;> omega
    rw [hp, ← he]
    cases hs : (sgn l).1
    · have : decide ((if false = true then -decV (sgn l).2 else decV (sgn l).2) < 0) = false := decide_eq_false (by simp; omega)
      rw [this]
      rfl
    · have : decide ((if true = true then -decV (sgn l).2 else decV (sgn l).2) < 0) = decide (0 < decV (sgn l).2) := by simp
      rw [this]
      rfl
  · rw [if_neg ha, if_neg ha]
    rfl
end Go.Proofs.YtmhlmkefnmdbcaaDoor.Com

namespace Go.Proofs.YtmhlmkefnmdbcaaDoor.Com
open Go.RowKit Go.Proofs.YtmhlmkefnmdbcaaDoor.Z Go.Proofs.YtmhlmkefnmdbcaaDoor.Evs Go.Proofs.YtmhlmkefnmdbcaaDoor.By Go.Proofs.YtmhlmkefnmdbcaaDoorW.PrintWords Go.Proofs.YtmhlmkefnmdbcaaDoorW.PrintLast
set_option linter.unusedVariables false
set_option linter.unusedSimpArgs false

def mkB (c : UInt8) : Bool := c == 46 || c == 45
theorem cranMark_f (c : UInt8) : spec_cranMark.f (c.toNat : Int) = some (mkB c) := by
  have h6 : ((c.toNat : Int) = 46) ↔ c = 46 := ⟨fun h => UInt8.toNat_inj.1 (by have : (46 : UInt8).toNat = 46 := rfl; omega), fun h => by rw [h]; rfl⟩
  have h5 : ((c.toNat : Int) = 45) ↔ c = 45 := ⟨fun h => UInt8.toNat_inj.1 (by have : (45 : UInt8).toNat = 45 := rfl; omega), fun h => by rw [h]; rfl⟩
  unfold spec_cranMark.f mkB
  by_cases e6 : c = 46
  · subst e6
    simp
  · have n6 : ¬ ((c.toNat : Int) = 46) := fun h => e6 (h6.1 h)
    have b6 : (c == 46) = false := beq_eq_false_iff_ne.2 e6
    by_cases e5 : c = 45
    · subst e5
      simp
    · have n5 : ¬ ((c.toNat : Int) = 45) := fun h => e5 (h5.1 h)
      have b5 : (c == 45) = false := beq_eq_false_iff_ne.2 e5
      simp [n6, n5, b6, b5]
theorem cutM_l (l : List UInt8) (hl : l.length ≤ 100000) (d : Nat) : ∀ (i f : Nat) (acc : List ByteArray), i + d = l.length → f ≤ i → acc.length ≤ i →
    Ev (fun k => spec_cut_cranMark.l0 k (ofL l) acc (f : Int) (i : Int)) (acc ++ (onto ((l.take i).drop f) (cutP mkB (l.drop i))).map ofL) := by
  have hs := ofL_size l
  have hext : ∀ i f : Nat, (ofL l).extract ((f : Int)).toNat ((i : Int)).toNat = ofL ((l.take i).drop f) := fun i f => by rw [Int.toNat_natCast, Int.toNat_natCast, ofL_extract]
  induction d with
  | zero =>
    intro i f acc h hf ha
    have e : l.drop i = [] := List.drop_of_length_le (by omega)
    rw [e]
    refine Ev.step (fun _ => by rw [spec_cut_cranMark.l0, hext, wrap_nat (by omega)]) (ev_pos (by omega) (ev_pos (by omega) (ev_pos (by omega) (ev_pos (by omega) (ev_pos (by omega) ?_)))))
    refine Ev.step (fun _ => by rw [spec_cut_cranMark.l0]) (ev_neg (by omega) (ev_now ?_))
    simp [cutP, onto]
  | succ d ih =>
    intro i f acc h hf ha
    have hc := bt_ofL l i (by omega)
    have e : l.drop i = l[i]'(by omega) :: l.drop (i + 1) := List.drop_eq_getElem_cons (by omega)
    have et : l.take (i + 1) = l.take i ++ [l[i]'(by omega)] := (List.take_append_getElem (by omega)).symm
    refine Ev.step (fun _ => by rw [spec_cut_cranMark.l0, hc, cranMark_f, Option.bind_some, hext, wrap_nat (by omega)]) (ev_pos (by omega) (ev_neg (by omega) (ev_pos (by omega) (ev_pos (by omega) ?_))))
    cases hp : mkB (l[i]'(by omega)) with
    | true =>
      refine ev_t (ev_pos (by omega) (ev_pos (by omega) (ev_pos (by omega) ?_)))
      refine ev_eq (ih (i + 1) (i + 1) (acc ++ [ofL ((l.take i).drop f)]) (by omega) (Nat.le_refl _) (by simp; omega)) ?_
      have e0 : (l.take (i + 1)).drop (i + 1) = [] := List.drop_of_length_le (by rw [List.length_take]; omega)
      rw [e, onto_cut _ _ _ _ hp, e0, onto_nil]
      simp
    | false =>
      refine ev_f ?_
      refine ev_eq (ih (i + 1) f acc (by omega) (by omega) (by omega)) ?_
      rw [e, onto_cons _ _ _ _ hp, et, List.drop_append_of_le_length (by simp; omega)]
theorem cutM_ev (l : List UInt8) (hl : l.length ≤ 100000) (n : Nat) : Ev (fun k => spec_cut_cranMark.f k (ofL l) n) ((cutP mkB l).map ofL) := by
  unfold spec_cut_cranMark.f
  have := cutM_l l hl l.length 0 0 [] (by omega) (Nat.le_refl _) (by simp)
  simpa [onto_nil] using this
end Go.Proofs.YtmhlmkefnmdbcaaDoor.Com

namespace Go.Proofs.YtmhlmkefnmdbcaaDoor.Cw
open Go Go.RowKit Go.Proofs.YtmhlmkefnmdbcaaDoor.Z Go.Proofs.YtmhlmkefnmdbcaaDoor.Evs Go.Proofs.YtmhlmkefnmdbcaaDoor.By Go.Proofs.YtmhlmkefnmdbcaaDoor.Bv Go.Proofs.YtmhlmkefnmdbcaaDoorW.PrintWords Go.Proofs.YtmhlmkefnmdbcaaDoorW.PrintLast
set_option linter.unusedVariables false
set_option linter.unusedSimpArgs false

/-- A number by its sign and magnitude. -/
def zv (neg : Bool) (l : List UInt8) : Int := if neg then -beV l else beV l
def tidyL (l : List UInt8) : List UInt8 := l.dropWhile (· == 0)
theorem tidy_val (l : List UInt8) : beV (tidyL l) = beV l := by
  induction l with
  | nil => rfl
  | cons c l ih =>
    unfold tidyL
    rw [List.dropWhile_cons]
    split
    · rename_i h
      have h0 : c = 0 := by simpa using h
      subst h0
      rw [show List.dropWhile (fun x => x == 0) l = tidyL l from rfl, ih, beV]
      have : ((0 : UInt8).toNat : Int) = 0 := rfl
      rw [this, Int.zero_mul, Int.zero_add]
    · rfl
theorem tidy_head (l : List UInt8) (c : UInt8) (r : List UInt8) (h : tidyL l = c :: r) : 1 ≤ c.toNat := by
  induction l with
  | nil => simp [tidyL] at h
  | cons x l ih =>
    unfold tidyL at h
    rw [List.dropWhile_cons] at h
    split at h
    · exact ih h
    · rename_i hx
      obtain ⟨rfl, _⟩ := List.cons.inj h
      rcases Nat.eq_zero_or_pos x.toNat with h0 | h0
      · exact absurd (by simpa using UInt8.toNat_inj.1 (show x.toNat = (0 : UInt8).toNat from h0)) hx
      · exact h0
theorem tidy_le (l : List UInt8) : (tidyL l).length ≤ l.length := by
  induction l with
  | nil => simp [tidyL]
  | cons c l ih =>
    unfold tidyL
    rw [List.dropWhile_cons]
    split
    · have : (tidyL l).length ≤ l.length := ih
      simp only [List.length_cons]
      exact Nat.le_succ_of_le this
    · simp
theorem isEmpty_ofL (l : List UInt8) : (ofL l).toList.isEmpty = l.isEmpty := by rw [toList_ofL]
theorem tidy_l (neg : Bool) (n : Nat) : ∀ l : List UInt8, l.length = n → n ≤ 140737488351232 → Ev (fun k => spec_numTidy.l0 k neg (ofL l)) (neg && !(tidyL l).isEmpty, ofL (tidyL l)) := by
  induction n with
  | zero =>
    intro l h hl
    have : l = [] := List.length_eq_zero_iff.1 h
    subst this
    refine Ev.step (fun _ => by rw [spec_numTidy.l0]) (ev_neg (by rw [ofL_size]; simp) ?_)
    cases neg with
    | true => exact ev_t (ev_now (by rw [isEmpty_ofL]; rfl))
    | false => exact ev_f (ev_now rfl)
  | succ n ih =>
    intro l h hl
    obtain ⟨c, r, rfl⟩ : ∃ c r, l = c :: r := by
      cases l with
      | nil => simp at h
      | cons c r => exact ⟨c, r, rfl⟩
    have hb : bt (ofL (c :: r)) 0 = (c.toNat : Int) := bt_ofL (c :: r) 0 (by simp)
    have hs := ofL_size (c :: r)
    have hx : (ofL (c :: r)).extract 1 (ofL (c :: r)).size = ofL r := by rw [hs, ofL_extract, List.take_of_length_le (Nat.le_refl _)]; rfl
    refine Ev.step (fun _ => by rw [spec_numTidy.l0, hb, hx]) (ev_pos (by omega) (ev_pos (by omega) ?_))
    by_cases h0 : c = 0
    · subst h0
      refine ev_pos rfl (ev_pos (by omega) ?_)
      exact ih r (by simpa using h) (by omega)
    · have hne : ¬ (c.toNat : Int) = 0 := fun hh => h0 (UInt8.toNat_inj.1 (show c.toNat = (0 : UInt8).toNat by have : (0 : UInt8).toNat = 0 := rfl; omega))
      have ht : tidyL (c :: r) = c :: r := by
        unfold tidyL
        rw [List.dropWhile_cons, if_neg (by simpa using h0)]
      rw [ht]
      refine ev_neg hne ?_
      cases neg with
      | true => exact ev_t (ev_now (by rw [isEmpty_ofL]; rfl))
      | false => exact ev_f (ev_now rfl)
theorem tidy_ev (neg : Bool) (l : List UInt8) (hl : l.length ≤ 140737488351232) : Ev (fun k => spec_numTidy.f k neg (ofL l)) (neg && !(tidyL l).isEmpty, ofL (tidyL l)) := tidy_l neg l.length l rfl hl
theorem less_val : ∀ a b : List UInt8, a.length = b.length → (Op.bytesLess a b = true ↔ beV a < beV b)
  | [], [], _ => by simp [Op.bytesLess, beV]
  | [], _ :: _, h => by simp at h
  | _ :: _, [], h => by simp at h
  | x :: a, y :: b, h => by
    have hl : a.length = b.length := by simpa using h
    have ih := less_val a b hl
    have ha := beV_lt a
    have hb := beV_lt b
    have na := beV_nonneg a
    have nb := beV_nonneg b
    unfold beV
    rw [hl] at ha ⊢
    simp only [Op.bytesLess, Bool.or_eq_true, Bool.and_eq_true, decide_eq_true_eq, beq_iff_eq, ih]
    have hP := pow256_pos b.length
    rcases Nat.lt_trichotomy x.toNat y.toNat with h1 | h1 | h1
    · have hlt : x < y := h1
      have := mul_step hP (show (x.toNat : Int) + 1 ≤ (y.toNat : Int) by omega)
      exact ⟨fun _ => by omega, fun _ => .inl hlt⟩
    · have e : x = y := UInt8.toNat_inj.1 h1
      subst e
      have hn : ¬ x < x := fun h' => by have h' : x.toNat < x.toNat := h'; omega
      constructor
      · rintro (h' | ⟨_, h'⟩)
        · exact absurd h' hn
        · omega
      · intro h'
        exact .inr ⟨rfl, by omega⟩
    · have hn : ¬ x < y := fun h' => by have h' : x.toNat < y.toNat := h'; omega
      have hne : ¬ x = y := fun e => by subst e; omega
      have := mul_step hP (show (y.toNat : Int) + 1 ≤ (x.toNat : Int) by omega)
      constructor
      · rintro (h' | ⟨h', _⟩)
        · exact absurd h' hn
        · exact absurd h' hne
      · intro h'
        omega
theorem order_val (a b : List UInt8) (h : a.length = b.length) : spec_order.f (ofL a) (ofL b) = some (cmpZ (beV a) (beV b)) := by
  unfold spec_order.f cmpZ
  rw [toList_ofL, toList_ofL]
  by_cases h1 : beV a < beV b
  · rw [if_pos ((less_val a b h).2 h1), if_pos h1]
  · rw [if_neg (fun h' => h1 ((less_val a b h).1 h')), if_neg h1]
    by_cases h2 : beV b < beV a
    · rw [if_pos ((less_val b a h.symm).2 h2), if_pos h2]
    · rw [if_neg (fun h' => h2 ((less_val b a h.symm).1 h')), if_neg h2]
theorem len_val (a b : List UInt8) (h : a.length < b.length) (c : UInt8) (r : List UInt8) (hb : b = c :: r) (hc : 1 ≤ c.toNat) : beV a < beV b := by
  subst hb
  have h1 := beV_lt a
  have h2 := beV_nonneg r
  have h3 : (256 : Int) ^ a.length ≤ 256 ^ r.length := by
    have : (256 : Nat) ^ a.length ≤ 256 ^ r.length := Nat.pow_le_pow_right (by decide) (by simp at h; omega)
    have e2 : ((256 ^ a.length : Nat) : Int) ≤ ((256 ^ r.length : Nat) : Int) := Int.ofNat_le.2 this
    rwa [Int.natCast_pow, Int.natCast_pow] at e2
  have h4 : 1 * (256 : Int) ^ r.length ≤ (c.toNat : Int) * 256 ^ r.length := Int.mul_le_mul_of_nonneg_right (by omega) (by have := pow256_pos r.length; omega)
  rw [show beV (c :: r) = (c.toNat : Int) * 256 ^ r.length + beV r from rfl]
  omega
theorem orderInts_f (a b : Int) : spec_orderInts.f a b = some (cmpZ a b) := by
  unfold spec_orderInts.f cmpZ
  split
  · rfl
  · split
    · rfl
    · rfl
theorem cmpZ_same {a b c d : Int} (h1 : a < b ↔ c < d) (h2 : b < a ↔ d < c) : cmpZ a b = cmpZ c d := by
  unfold cmpZ
  by_cases x : a < b
  · rw [if_pos x, if_pos (h1.1 x)]
  · rw [if_neg x, if_neg (fun h => x (h1.2 h))]
    by_cases y : b < a
    · rw [if_pos y, if_pos (h2.1 y)]
    · rw [if_neg y, if_neg (fun h => y (h2.2 h))]
theorem j2_ev (n0 n1 : Bool) (a b : List UInt8) : Ev (fun k => spec_intOrder.j2 k n0 (ofL (tidyL a)) n1 (ofL (tidyL b))) (cmpZ (beV a) (beV b)) := by
  have va := tidy_val a
  have vb := tidy_val b
  refine Ev.step (fun _ => by rw [spec_intOrder.j2, ofL_size, ofL_size]) ?_
  by_cases h : (tidyL a).length = (tidyL b).length
  · refine ev_pos (by omega) ?_
    rw [order_val _ _ h, va, vb]
    exact ev_now rfl
  · refine ev_neg (by omega) ?_
    rw [orderInts_f]
    refine ev_now ?_
    by_cases h1 : (tidyL a).length < (tidyL b).length
    · obtain ⟨c, r, hb⟩ : ∃ c r, tidyL b = c :: r := by
        cases hx : tidyL b with
        | nil => rw [hx] at h1; simp at h1
        | cons c r => exact ⟨c, r, rfl⟩
      have := len_val _ _ h1 c r hb (tidy_head b c r hb)
      exact cmpZ_same (by omega) (by omega)
    · obtain ⟨c, r, ha⟩ : ∃ c r, tidyL a = c :: r := by
        cases hx : tidyL a with
        | nil => rw [hx, List.length_nil] at h h1; omega
        | cons c r => exact ⟨c, r, rfl⟩
      have := len_val (tidyL b) (tidyL a) (by omega) c r ha (tidy_head a c r ha)
      exact cmpZ_same (by omega) (by omega)
theorem tidy_empty {l : List UInt8} (h : (tidyL l).isEmpty = true) : beV l = 0 := by
  rw [← tidy_val, List.isEmpty_iff.1 h]
  rfl
theorem tidy_full {l : List UInt8} (h : (tidyL l).isEmpty = false) : 1 ≤ beV l := by
  obtain ⟨c, r, hc⟩ : ∃ c r, tidyL l = c :: r := by
    cases hx : tidyL l with
    | nil => rw [hx] at h; simp at h
    | cons c r => exact ⟨c, r, rfl⟩
  have := len_val [] (tidyL l) (by rw [hc]; simp) c r hc (tidy_head l c r hc)
  rw [tidy_val] at this
  have e : beV [] = 0 := rfl
  omega
theorem intOrder_ev (n0 n1 : Bool) (a b : List UInt8) (ha : a.length ≤ 140737488351232) (hb : b.length ≤ 140737488351232) : Ev (fun k => spec_intOrder.f k n0 (ofL a) n1 (ofL b)) (cmpZ (zv n0 a) (zv n1 b)) := by
  unfold spec_intOrder.f
  refine Ev.bind (tidy_ev n0 a ha) (Ev.bind (tidy_ev n1 b hb) ?_)
  unfold zv
  have na := beV_nonneg a
  have nb := beV_nonneg b
  have step : ∀ x y : Bool, x = true → y = true → x = y := fun x y hx hy => hx.trans hy.symm
  cases h0 : (n0 && !(tidyL a).isEmpty) with
  | true =>
    obtain ⟨rfl, e0⟩ : n0 = true ∧ (tidyL a).isEmpty = false := by simpa using h0
    have pa := tidy_full e0
    refine ev_t ?_
    cases h1 : (n1 && !(tidyL b).isEmpty) with
    | true =>
      obtain ⟨rfl, e1⟩ : n1 = true ∧ (tidyL b).isEmpty = false := by simpa using h1
      refine Ev.step (fun _ => by rw [spec_intOrder.j0]) (ev_neg (by simp) (ev_t ?_))
      refine Ev.step (fun _ => by rw [spec_intOrder.j1]) (ev_f (ev_t ?_))
      refine ev_eq (j2_ev _ _ b a) ?_
      exact cmpZ_same (by first | (simp; done) | (simp; omega)) (by first | (simp; done) | (simp; omega))
    | false =>
      have hb0 : 0 ≤ (if n1 = true then -beV b else beV b) := by
        cases n1 with
        | false => simpa using nb
        | true =>
          have := tidy_empty (show (tidyL b).isEmpty = true by simpa using h1)
          rw [this]
          decide
      refine Ev.step (fun _ => by rw [spec_intOrder.j0]) (ev_pos (by simp) (ev_now ?_))
      unfold cmpZ
      rw [if_pos (by simp; omega)]
  | false =>
    have ha0 : (if n0 = true then -beV a else beV a) = beV a := by
      cases n0 with
      | false => rfl
      | true =>
        have := tidy_empty (show (tidyL a).isEmpty = true by simpa using h0)
        rw [this]
        rfl
    rw [ha0]
    refine ev_f (Ev.step (fun _ => by rw [spec_intOrder.j0]) (ev_f (ev_f ?_)))
    cases h1 : (n1 && !(tidyL b).isEmpty) with
    | true =>
      obtain ⟨rfl, e1⟩ : n1 = true ∧ (tidyL b).isEmpty = false := by simpa using h1
      have pb := tidy_full e1
      refine Ev.step (fun _ => by rw [spec_intOrder.j1]) (ev_t (ev_now ?_))
      unfold cmpZ
      rw [if_neg (by simp; omega), if_pos (by simp; omega)]
    | false =>
      have hb0 : (if n1 = true then -beV b else beV b) = beV b := by
        cases n1 with
        | false => rfl
        | true =>
          have := tidy_empty (show (tidyL b).isEmpty = true by simpa using h1)
          rw [this]
          rfl
      rw [hb0]
      exact Ev.step (fun _ => by rw [spec_intOrder.j1]) (ev_f (ev_f (j2_ev _ _ a b)))
end Go.Proofs.YtmhlmkefnmdbcaaDoor.Cw

namespace Go.Proofs.YtmhlmkefnmdbcaaDoor.Com
open Go.RowKit Go.Proofs.YtmhlmkefnmdbcaaDoor.Z Go.Proofs.YtmhlmkefnmdbcaaDoor.Evs Go.Proofs.YtmhlmkefnmdbcaaDoor.By Go.Proofs.YtmhlmkefnmdbcaaDoorW.PrintWords Go.Proofs.YtmhlmkefnmdbcaaDoorW.PrintLast
set_option linter.unusedVariables false
set_option linter.unusedSimpArgs false

/-- The place of the first byte of a sort; -1 without one. -/
def idxI (c : UInt8) (l : List UInt8) : Int := if (l.dropWhile (· != c)) = [] then -1 else ((l.takeWhile (· != c)).length : Int)
theorem byte_eq (a c : UInt8) : ((a.toNat : Int) = (c.toNat : Int)) ↔ a = c := ⟨fun h => UInt8.toNat_inj.1 (by omega), fun h => by rw [h]⟩
theorem idx_split (c : UInt8) (l : List UInt8) : ∀ i : Nat, (∀ x ∈ l.take i, (x != c) = true) → l.takeWhile (· != c) = l.take i ++ (l.drop i).takeWhile (· != c) ∧ l.dropWhile (· != c) = (l.drop i).dropWhile (· != c) := by
  intro i h
  have e := List.take_append_drop i l
  constructor
  · conv => lhs; rw [← e]
    exact List.takeWhile_append_of_pos h
  · conv => lhs; rw [← e]
    exact List.dropWhile_append_of_pos h
theorem index_l (c : UInt8) (l : List UInt8) (hl : l.length ≤ 140737488351232) (d : Nat) : ∀ i : Nat, i + d = l.length → (∀ x ∈ l.take i, (x != c) = true) → Ev (fun k => spec_indexOf.l0 k (ofL l) (c.toNat : Int) (i : Int)) (idxI c l) := by
  have hs := ofL_size l
  induction d with
  | zero =>
    intro i h hp
    refine Ev.step (fun _ => by rw [spec_indexOf.l0]) (ev_neg (by omega) (ev_now ?_))
    have := (idx_split c l i hp).2
    rw [List.drop_of_length_le (by omega)] at this
    rw [idxI, if_pos (show List.dropWhile (fun x => x != c) l = [] from this)]
  | succ d ih =>
    intro i h hp
    have hi : i < l.length := by omega
    have hc := bt_ofL l i hi
    refine Ev.step (fun _ => by rw [spec_indexOf.l0, hc, wrap_nat (by omega)]) (ev_pos (by omega) (ev_pos (by omega) ?_))
    by_cases e : l[i]'hi = c
    · refine ev_pos ((byte_eq _ _).2 e) (ev_now ?_)
      have h1 := idx_split c l i hp
      rw [List.drop_eq_getElem_cons hi, List.dropWhile_cons, List.takeWhile_cons, if_neg (by simp [e]), if_neg (by simp [e])] at h1
      have h2 : ¬ List.dropWhile (fun x => x != c) l = [] := fun hh => by
        have := h1.2.symm.trans hh
        cases this
      rw [idxI, if_neg h2, h1.1, List.append_nil, List.length_take]
      omega
    · refine ev_neg (fun h => e ((byte_eq _ _).1 h)) (ih (i + 1) (by omega) (fun x hx => ?_))
      rw [List.take_succ_eq_append_getElem hi, List.mem_append] at hx
      rcases hx with hx | hx
      · exact hp x hx
      · simp at hx
        subst hx
        simpa using e
theorem index_ev (c : UInt8) (l : List UInt8) (hl : l.length ≤ 140737488351232) : Ev (fun k => spec_indexOf.f k (ofL l) (c.toNat : Int)) (idxI c l) := index_l c l hl l.length 0 (by omega) (by simp)
end Go.Proofs.YtmhlmkefnmdbcaaDoor.Com

namespace Go.Proofs.YtmhlmkefnmdbcaaDoor.Com
open Go.RowKit Go.Proofs.YtmhlmkefnmdbcaaDoor.Z Go.Proofs.YtmhlmkefnmdbcaaDoor.Evs Go.Proofs.YtmhlmkefnmdbcaaDoorW.PrintWords Go.Proofs.YtmhlmkefnmdbcaaDoorW.PrintLast
set_option linter.unusedVariables false
set_option linter.unusedSimpArgs false

theorem fits_l (l : List ByteArray) (hl : (l.length : Int) < 9223372036854775807) (d : Nat) : ∀ i : Nat, i + d = l.length → ∃ b, Ev (fun k => laws_zzFits1.l0 k l (l.length : Int) (i : Int)) b := by
  induction d with
  | zero =>
    intro i h
    refine ⟨true, Ev.step (fun _ => by rw [laws_zzFits1.l0]) (ev_neg (by omega) (Ev.now _))⟩
  | succ d ih =>
    intro i h
    obtain ⟨b, hb⟩ := ih (i + 1) (by omega)
    by_cases c : ((rdOf ByteArray.empty l (i : Int)).size : Int) > 2147483647
    · exact ⟨false, Ev.step (fun _ => by rw [laws_zzFits1.l0]) (ev_pos (by omega) (ev_pos (by omega) (ev_pos (by omega) (ev_pos c (Ev.now _)))))⟩
    · exact ⟨b, Ev.step (fun _ => by rw [laws_zzFits1.l0, wrap_nat (by omega)]) (ev_pos (by omega) (ev_pos (by omega) (ev_pos (by omega) (ev_neg c hb))))⟩
theorem fits_ev (l : List ByteArray) (hl : l.length ≤ 9223372036854775807) : ∃ b, Ev (fun k => laws_zzFits1.f k l) b := by
  unfold laws_zzFits1.f
  by_cases c : (l.length : Int) > 2147483647
  · exact ⟨_, ev_pos c (Ev.now _)⟩
  · obtain ⟨b, hb⟩ := fits_l l (by omega) l.length 0 (by omega)
    exact ⟨b, ev_neg c hb⟩
end Go.Proofs.YtmhlmkefnmdbcaaDoor.Com

namespace Go.Proofs.YtmhlmkefnmdbcaaDoor.Com
open Go.RowKit Go.Proofs.YtmhlmkefnmdbcaaDoor.Z Go.Proofs.YtmhlmkefnmdbcaaDoor.Evs Go.Proofs.YtmhlmkefnmdbcaaDoorW.PrintWords Go.Proofs.YtmhlmkefnmdbcaaDoorW.PrintLast
set_option linter.unusedVariables false
set_option linter.unusedSimpArgs false

/-- short: an answer; where it is true the list is short and its texts are. -/
theorem short_l (l : List ByteArray) (hl : (l.length : Int) < 9223372036854775807) (d : Nat) : ∀ i : Nat, i + d = l.length →
    ∃ b, Ev (fun k => laws_short.l0 k l l (l.length : Int) (i : Int)) b ∧ (b = true → l.length ≤ 150 ∧ ∀ j, i ≤ j → j < l.length → (l.getD j ByteArray.empty).size ≤ 1500) := by
  induction d with
  | zero =>
    intro i h
    exact ⟨_, Ev.step (fun _ => by rw [laws_short.l0]) (ev_neg (by omega) (Ev.now _)), fun hb => ⟨by simp at hb; omega, fun j h1 h2 => by omega⟩⟩
  | succ d ih =>
    intro i h
    obtain ⟨b, hb, hq⟩ := ih (i + 1) (by omega)
    by_cases c : ((rdOf ByteArray.empty l (i : Int)).size : Int) > 1500
    · exact ⟨false, Ev.step (fun _ => by rw [laws_short.l0]) (ev_pos (by omega) (ev_pos (by omega) (ev_pos (by omega) (ev_pos c (Ev.now _))))), fun h => by cases h⟩
    · refine ⟨b, Ev.step (fun _ => by rw [laws_short.l0, wrap_nat (by omega)]) (ev_pos (by omega) (ev_pos (by omega) (ev_pos (by omega) (ev_neg c hb)))), fun h => ⟨(hq h).1, fun j h1 h2 => ?_⟩⟩
      by_cases e : j = i
      · subst e; rw [rdOf_nat] at c; omega
      · exact (hq h).2 j (by omega) h2
theorem short_ev (l : List ByteArray) (hl : (l.length : Int) < 9223372036854775807) : ∃ b, Ev (fun k => laws_short.f k l) b ∧ (b = true → l.length ≤ 150 ∧ ∀ j, j < l.length → (l.getD j ByteArray.empty).size ≤ 1500) := by
  obtain ⟨b, hb, hq⟩ := short_l l hl l.length 0 (by omega)
  exact ⟨b, hb, fun h => ⟨(hq h).1, fun j hj => (hq h).2 j (by omega) hj⟩⟩

theorem short2 (a b : ByteArray) : ∃ r, Ev (fun k => laws_short.f k [a, b]) r ∧ (r = true → a.size ≤ 1500 ∧ b.size ≤ 1500) := by
  obtain ⟨r, hr, hq⟩ := short_ev [a, b] (by simp)
  exact ⟨r, hr, fun h => ⟨(hq h).2 0 (by simp), (hq h).2 1 (by simp)⟩⟩
theorem short1 (a : ByteArray) : ∃ r, Ev (fun k => laws_short.f k [a]) r ∧ (r = true → a.size ≤ 1500) := by
  obtain ⟨r, hr, hq⟩ := short_ev [a] (by simp)
  exact ⟨r, hr, fun h => (hq h).2 0 (by simp)⟩
theorem short3 (a b c : ByteArray) : ∃ r, Ev (fun k => laws_short.f k [a, b, c]) r ∧ (r = true → a.size ≤ 1500 ∧ b.size ≤ 1500 ∧ c.size ≤ 1500) := by
  obtain ⟨r, hr, hq⟩ := short_ev [a, b, c] (by simp)
  exact ⟨r, hr, fun h => ⟨(hq h).2 0 (by simp), (hq h).2 1 (by simp), (hq h).2 2 (by simp)⟩⟩
theorem short4 (a b c d : ByteArray) : ∃ r, Ev (fun k => laws_short.f k [a, b, c, d]) r ∧ (r = true → a.size ≤ 1500 ∧ b.size ≤ 1500 ∧ c.size ≤ 1500 ∧ d.size ≤ 1500) := by
  obtain ⟨r, hr, hq⟩ := short_ev [a, b, c, d] (by simp)
  exact ⟨r, hr, fun h => ⟨(hq h).2 0 (by simp), (hq h).2 1 (by simp), (hq h).2 2 (by simp), (hq h).2 3 (by simp)⟩⟩
end Go.Proofs.YtmhlmkefnmdbcaaDoor.Com

namespace Go.Proofs.YtmhlmkefnmdbcaaDoor.Com
open Go Go.RowKit Go.Proofs.YtmhlmkefnmdbcaaDoor.Z Go.Proofs.YtmhlmkefnmdbcaaDoor.Evs Go.Proofs.YtmhlmkefnmdbcaaDoor.By Go.Proofs.YtmhlmkefnmdbcaaDoor.Lx Go.Proofs.YtmhlmkefnmdbcaaDoorW.PrintWords Go.Proofs.YtmhlmkefnmdbcaaDoorW.PrintLast
set_option linter.unusedVariables false
set_option linter.unusedSimpArgs false
abbrev CPQ : Type := S58
/-- A number as plain data. -/
def plQ (z : Int) : CPQ := ⟨decide (z < 0), Ss.plainS z⟩
theorem cvsq_small : ∀ (ps : List ByteArray) (zs : List Int) (n : Nat), (∀ x ∈ ps, x.size ≤ n) → cvs ps = some zs → zs.length = ps.length ∧ ∀ z ∈ zs, z.natAbs ≤ Ss.tp n
  | [], zs, n, _, h => by
    have : zs = [] := (Option.some.inj h).symm
    subst this
    exact ⟨rfl, fun z hz => by simp at hz⟩
  | x :: ps, zs, n, hn, h => by
    rw [cvs] at h
    cases hc : Ss.cvt x with
    | none => rw [hc] at h; cases h
    | some z =>
      rw [hc] at h
      obtain ⟨l, hl, hz⟩ := Option.map_eq_some_iff.1 h
      subst hz
      obtain ⟨h1, h2⟩ := cvsq_small ps l n (fun y hy => hn y (by simp [hy])) hl
      refine ⟨by simp [h1], fun y hy => ?_⟩
      rcases List.mem_cons.1 hy with rfl | hy
      · exact Nat.le_trans (Ss.cvt_small hc) (Ss.tp_le (hn x (by simp)))
      · exact h2 y hy
theorem crPq_small {s : ByteArray} {zs : List Int} (h : crP s = some zs) : zs.length ≤ s.size + 1 ∧ ∀ z ∈ zs, z.natAbs ≤ Ss.tp s.size := by
  unfold crP at h
  split at h
  · have : zs = [] := (Option.some.inj h).symm
    subst this
    exact ⟨by simp, fun z hz => by simp at hz⟩
  · obtain ⟨h1, h2⟩ := crPs_len s
    obtain ⟨h3, h4⟩ := cvsq_small (crPs s) zs s.size h2 h
    exact ⟨by omega, h4⟩
theorem cutPq_zr : ∀ l : List UInt8, cutP (· == 46) (l.map (zrF 45 46)) = cutP mkB l
  | [] => rfl
  | c :: l => by
    have ih := cutPq_zr l
    rw [List.map_cons, cutP, cutP, ih]
    by_cases h6 : c = 46
    · subst h6
      rfl
    · by_cases h5 : c = 45
      · subst h5
        rfl
      · have hz : zrF 45 46 c = c := if_neg h5
        have hm : mkB c = false := by simp [mkB, h6, h5]
        rw [hz, hm, if_neg (by simpa using h6), if_neg (by decide)]
def crQ (acc : List CPQ) : Option (List Int) → List CPQ × Bool
  | none => ([], false)
  | some zs => (acc ++ zs.map plQ, true)
theorem parseq_l (ps : List (List UInt8)) (hl : ps.length ≤ 100001) (hz : ∀ x ∈ ps, x.length ≤ 100000) (d : Nat) : ∀ (i : Nat) (acc : List CPQ), i + d = ps.length → acc.length ≤ i → Ev (fun k => spec_CRANParse.l0 k acc (ps.map ofL) (i : Int)) (crQ acc (cvs ((ps.map ofL).drop i))) := by
  induction d with
  | zero =>
    intro i acc h ha
    refine Ev.step (fun _ => by rw [spec_CRANParse.l0]) (ev_neg (by rw [List.length_map]; omega) (ev_now ?_))
    rw [List.drop_of_length_le (by rw [List.length_map]; omega)]
    simp [cvs, crQ]
  | succ d ih =>
    intro i acc h ha
    have hi : i < ps.length := by omega
    have hr : rdOf ByteArray.empty (ps.map ofL) (i : Int) = ofL ps[i] := by
      rw [rdOf_nat, List.getD_eq_getElem?_getD, List.getElem?_map, List.getElem?_eq_getElem hi]
      rfl
    have hn := number_ev ps[i] (hz _ (List.getElem_mem hi))
    rw [numS_cvt] at hn
    have e : (ps.map ofL).drop i = ofL ps[i] :: (ps.map ofL).drop (i + 1) := by
      rw [List.drop_eq_getElem_cons (by rw [List.length_map]; exact hi), List.getElem_map]
    refine Ev.step (fun _ => by rw [spec_CRANParse.l0, hr, wrap_nat (by omega)]) (ev_pos (by rw [List.length_map]; omega) (ev_pos (by omega) (Ev.bind hn ?_)))
    rw [e, cvs]
    cases hc : Ss.cvt (ofL ps[i]) with
    | none => exact ev_f (ev_now rfl)
    | some z =>
      refine ev_t (ev_pos (by omega) ?_)
      refine ev_eq (ih (i + 1) (acc ++ [plQ z]) (by omega) (by simp; omega)) ?_
      cases cvs ((ps.map ofL).drop (i + 1)) with
      | none => rfl
      | some zs => simp [crQ]
theorem parseq_ev (l : List UInt8) (hl : l.length ≤ 100000) : Ev (fun k => spec_CRANParse.f k (ofL l)) (crQ [] (crP (ofL l))) := by
  unfold spec_CRANParse.f crP
  by_cases h0 : l = []
  · subst h0
    refine ev_pos (by rw [toList_ofL]) (ev_now ?_)
    rw [if_pos (by rw [ofL_size]; rfl)]
    rfl
  · have hs : ¬ (ofL l).size = 0 := by rw [ofL_size]; exact fun h => h0 (List.eq_nil_of_length_eq_zero h)
    refine ev_neg (by rw [toList_ofL]; exact h0) (Ev.bind (cutM_ev l hl 37) ?_)
    have hp : crPs (ofL l) = (cutP mkB l).map ofL := by
      unfold crPs
      rw [bl_ofL, cutPq_zr]
    obtain ⟨h1, h2⟩ := cutP_len mkB l
    have := parseq_l (cutP mkB l) (by omega) (fun x hx => by have := h2 x hx; omega) (cutP mkB l).length 0 [] (by omega) (Nat.le_refl _)
    rw [if_neg hs, hp]
    exact this
theorem magOf_len : ∀ (m n : Nat), n < 256 ^ m → (Ss.magOf n).length ≤ m
  | 0, n, h => by
    have : n = 0 := by rw [Nat.pow_zero] at h; omega
    rw [this, Ss.magOf_zero]
    simp
  | m + 1, n, h => by
    by_cases h0 : n = 0
    · rw [h0, Ss.magOf_zero]
      simp
    · have ih := magOf_len m (n / 256) (by rw [Nat.pow_succ] at h; omega)
      rw [Ss.magOf_pos h0, List.length_append]
      simp
      omega
theorem tp_256 : ∀ n : Nat, Ss.tp n < 256 ^ (n + 1)
  | 0 => by decide
  | n + 1 => by
    have ih := tp_256 n
    rw [Ss.tp_succ, Nat.pow_succ]
    omega
theorem mag_small {z : Int} {n : Nat} (h : z.natAbs ≤ Ss.tp n) : (Ss.magOf z.natAbs).length ≤ n + 1 := magOf_len _ _ (Nat.lt_of_le_of_lt h (tp_256 n))
theorem zv_mag' (z : Int) : Cw.zv (decide (z < 0)) (Ss.magOf z.natAbs) = z := by
  unfold Cw.zv
  rw [Ss.magOf_val]
  by_cases h : z < 0
  · rw [decide_eq_true h, if_pos rfl]
    omega
  · rw [decide_eq_false h, if_neg (by decide)]
    omega
theorem plQ_order (x y : Int) (n : Nat) (hn : n ≤ 100000) (hx : x.natAbs ≤ Ss.tp n) (hy : y.natAbs ≤ Ss.tp n) : Ev (fun k => spec_intOrder.f k (plQ x).f0 (plQ x).f1 (plQ y).f0 (plQ y).f1) (Bn.cmpZ x y) := by
  have h1 := mag_small hx
  have h2 := mag_small hy
  have h := Cw.intOrder_ev (decide (x < 0)) (decide (y < 0)) (Ss.magOf x.natAbs) (Ss.magOf y.natAbs) (by omega) (by omega)
  rw [zv_mag', zv_mag'] at h
  exact h
theorem plQ_rd (l : List Int) (i : Nat) (hi : i < l.length) : rd_T58 (l.map plQ) (i : Int) = plQ l[i] := by
  unfold rd_T58
  rw [Int.toNat_natCast, List.getD_eq_getElem?_getD, List.getElem?_map, List.getElem?_eq_getElem hi]
  rfl
theorem nth_in (l : List Int) (i : Nat) (h : i < l.length) : nth l i = l[i] := by
  rw [nth, List.getD_eq_getElem?_getD, List.getElem?_eq_getElem h]
  rfl
theorem nth_past (l : List Int) (i : Nat) (h : l.length ≤ i) : nth l i = 0 := by
  rw [nth, List.getD_eq_getElem?_getD, List.getElem?_eq_none h]
  rfl
theorem plQ_zero : plQ 0 = ⟨false, ⟨#[]⟩⟩ := by
  unfold plQ Ss.plainS
  rw [show (0 : Int).natAbs = 0 from rfl, Ss.magOf_zero]
  rfl
theorem csCmp_l (a b : List Int) (n : Nat) (hn : n ≤ 100000) (la : a.length ≤ 1000000) (lb : b.length ≤ 1000000) (ha : ∀ z ∈ a, z.natAbs ≤ Ss.tp n) (hb : ∀ z ∈ b, z.natAbs ≤ Ss.tp n) (d : Nat) : ∀ i : Nat, i + d = max a.length b.length → Ev (fun k => spec_CompareNumbers.l0 k (a.map plQ) (b.map plQ) (i : Int)) (cmpFrom a b d i) := by
  induction d with
  | zero =>
    intro i h
    have h1 : a.length ≤ i := by have := Nat.le_max_left a.length b.length; omega
    have h2 : b.length ≤ i := by have := Nat.le_max_right a.length b.length; omega
    refine Ev.step (fun _ => by rw [spec_CompareNumbers.l0]) (ev_neg (by rw [List.length_map]; omega) ?_)
    rw [decide_eq_false (by rw [List.length_map]; omega)]
    refine Ev.step (fun _ => by rw [spec_CompareNumbers.j1]) ?_
    exact ev_f (ev_now rfl)
  | succ d ih =>
    intro i h
    have hw : wrap64 ((i : Int) + 1) = ((i + 1 : Nat) : Int) := wrap_nat (by omega)
    have next := ih (i + 1) (by omega)
    have h0 : (0 : Int).natAbs ≤ Ss.tp n := by have := Ss.tp_pos n; omega
    have key : ∀ x y : Int, x.natAbs ≤ Ss.tp n → y.natAbs ≤ Ss.tp n → nth a i = x → nth b i = y →
        Ev (fun k => (spec_intOrder.f k (plQ x).f0 (plQ x).f1 (plQ y).f0 (plQ y).f1).bind fun t => if t = 0 then spec_CompareNumbers.l0 k (a.map plQ) (b.map plQ) (wrap64 ((i : Int) + 1)) else some t) (cmpFrom a b (d + 1) i) := by
      intro x y hx hy e1 e2
      refine Ev.bind (plQ_order x y n hn hx hy) ?_
      rw [cmpFrom, e1, e2, hw]
      by_cases hz : Bn.cmpZ x y = 0
      · rw [if_pos hz]
        exact ev_pos hz next
      · rw [if_neg hz]
        exact ev_neg hz (ev_now rfl)
    have j2 : ∀ x : Int, x.natAbs ≤ Ss.tp n → nth a i = x → Ev (fun k => spec_CompareNumbers.j2 k (a.map plQ) (b.map plQ) (i : Int) (plQ x).f0 (plQ x).f1 false ⟨#[]⟩) (cmpFrom a b (d + 1) i) := by
      intro x hx e1
      refine Ev.step (fun _ => by rw [spec_CompareNumbers.j2]) ?_
      by_cases h2 : i < b.length
      · refine ev_pos (by rw [List.length_map]; omega) (ev_pos (by omega) ?_)
        rw [plQ_rd b i h2]
        exact key x b[i] hx (hb _ (List.getElem_mem h2)) e1 (nth_in b i h2)
      · refine ev_neg (by rw [List.length_map]; omega) ?_
        have hk := key x 0 hx h0 e1 (nth_past _ _ (by omega))
        rw [plQ_zero] at hk
        exact hk
    have j1 : Ev (fun k => spec_CompareNumbers.j1 k (a.map plQ) (b.map plQ) (i : Int) true) (cmpFrom a b (d + 1) i) := by
      refine Ev.step (fun _ => by rw [spec_CompareNumbers.j1]) (ev_t ?_)
      by_cases h1 : i < a.length
      · refine ev_pos (by rw [List.length_map]; omega) (ev_pos (by omega) ?_)
        rw [plQ_rd a i h1]
        exact j2 a[i] (ha _ (List.getElem_mem h1)) (nth_in a i h1)
      · refine ev_neg (by rw [List.length_map]; omega) ?_
        have hk := j2 0 h0 (nth_past _ _ (by omega))
        rw [plQ_zero] at hk
        exact hk
    refine Ev.step (fun _ => by rw [spec_CompareNumbers.l0]) ?_
    by_cases h1 : i < a.length
    · exact ev_pos (by rw [List.length_map]; omega) j1
    · refine ev_neg (by rw [List.length_map]; omega) ?_
      rw [decide_eq_true (by rw [List.length_map]; omega)]
      exact j1
theorem csCmp_ev (a b : List Int) (n : Nat) (hn : n ≤ 100000) (la : a.length ≤ 1000000) (lb : b.length ≤ 1000000) (ha : ∀ z ∈ a, z.natAbs ≤ Ss.tp n) (hb : ∀ z ∈ b, z.natAbs ≤ Ss.tp n) : Ev (fun k => spec_CompareNumbers.f k (a.map plQ) (b.map plQ)) (cmpLists a b) := csCmp_l a b n hn la lb ha hb (max a.length b.length) 0 (by omega)
theorem cranSpec_ev {a b : ByteArray} {x y : List Int} (ha : a.size ≤ 1500) (hb : b.size ≤ 1500) (hx : crP a = some x) (hy : crP b = some y) : Ev (fun k => spec_CRANCompare.f k a b) (cranC x y, true) := by
  have p1 := parseq_ev (bl a) (by rw [bl_length]; omega)
  have p2 := parseq_ev (bl b) (by rw [bl_length]; omega)
  rw [ofL_bl] at p1 p2
  rw [hx] at p1
  rw [hy] at p2
  obtain ⟨l1, s1⟩ := crPq_small hx
  obtain ⟨l2, s2⟩ := crPq_small hy
  have hc := csCmp_ev x y 1500 (by omega) (by omega) (by omega) (fun z hz => Nat.le_trans (s1 z hz) (Ss.tp_le ha)) (fun z hz => Nat.le_trans (s2 z hz) (Ss.tp_le hb))
  unfold spec_CRANCompare.f
  refine Ev.bind p1 (Ev.bind p2 (ev_pos rfl ?_))
  show Ev (fun k => spec_CRANCompare.j0 k ([] ++ x.map plQ) ([] ++ y.map plQ) (!true)) _
  rw [List.nil_append, List.nil_append]
  refine Ev.step (fun _ => by rw [spec_CRANCompare.j0]) (ev_neg (by simp) (Ev.bind hc ?_))
  by_cases h0 : cmpLists x y = 0
  · have hv : cranC x y = if x.length = y.length then 0 else if y.length < x.length then 1 else -1 := if_pos h0
    refine ev_pos h0 ?_
    rw [hv]
    unfold spec_orderInts.f
    rw [List.length_map, List.length_map]
    rcases Nat.lt_trichotomy x.length y.length with h | h | h
    · rw [if_pos (by omega), if_neg (by omega), if_neg (by omega)]
      exact ev_now rfl
    · rw [if_neg (by omega), if_neg (by omega), if_pos h]
      exact ev_now rfl
    · rw [if_neg (by omega), if_pos (by omega), if_neg (by omega), if_pos (by omega)]
      exact ev_now rfl
  · have hv : cranC x y = cmpLists x y := if_neg h0
    rw [hv]
    exact ev_neg h0 (ev_now rfl)
theorem qchain_lex {x y z x' y' z' : Int} (h : Chained x y z) (h' : Chained x' y' z') : Chained (if x = 0 then x' else x) (if y = 0 then y' else y) (if z = 0 then z' else z) := by
  unfold Chained at h h' ⊢
  split <;> split <;> split <;> omega
theorem qchain_Z (a b c : Int) : Chained (Bn.cmpZ a b) (Bn.cmpZ b c) (Bn.cmpZ a c) := by
  unfold Chained Bn.cmpZ
  split <;> split <;> split <;> (try split) <;> (try split) <;> (try split) <;> omega
theorem qchain_from (a b c : List Int) : ∀ d i, Chained (cmpFrom a b d i) (cmpFrom b c d i) (cmpFrom a c d i)
  | 0, _ => by
    unfold Chained cmpFrom
    omega
  | d + 1, i => by
    have h := qchain_lex (qchain_Z (nth a i) (nth b i) (nth c i)) (qchain_from a b c d (i + 1))
    exact h
theorem qfrom_more (a b : List Int) : ∀ d e i, a.length ≤ i + d → b.length ≤ i + d → cmpFrom a b (d + e) i = cmpFrom a b d i
  | 0, 0, _, _, _ => rfl
  | 0, e + 1, i, h1, h2 => by
    have n1 : nth a i = 0 := by rw [nth, List.getD_eq_getElem?_getD, List.getElem?_eq_none (by omega)]; rfl
    have n2 : nth b i = 0 := by rw [nth, List.getD_eq_getElem?_getD, List.getElem?_eq_none (by omega)]; rfl
    have ih := qfrom_more a b 0 e (i + 1) (by omega) (by omega)
    rw [Nat.zero_add] at ih ⊢
    have hs : cmpFrom a b (e + 1) i = if Bn.cmpZ (nth a i) (nth b i) = 0 then cmpFrom a b e (i + 1) else Bn.cmpZ (nth a i) (nth b i) := rfl
    rw [hs, n1, n2, if_pos (by rfl), ih]
    rfl
  | d + 1, e, i, h1, h2 => by
    have ih := qfrom_more a b d e (i + 1) (by omega) (by omega)
    have : d + 1 + e = (d + e) + 1 := by omega
    rw [this, cmpFrom, cmpFrom, ih]
theorem qlists_from (a b : List Int) (d : Nat) (h1 : a.length ≤ d) (h2 : b.length ≤ d) : cmpLists a b = cmpFrom a b d 0 := by
  have e : d = max a.length b.length + (d - max a.length b.length) := by omega
  rw [cmpLists, e, qfrom_more a b _ _ 0 (by omega) (by omega)]
theorem qchain_lists (a b c : List Int) : Chained (cmpLists a b) (cmpLists b c) (cmpLists a c) := by
  have hd : a.length ≤ a.length + b.length + c.length ∧ b.length ≤ a.length + b.length + c.length ∧ c.length ≤ a.length + b.length + c.length := by omega
  rw [qlists_from a b _ hd.1 hd.2.1, qlists_from b c _ hd.2.1 hd.2.2, qlists_from a c _ hd.1 hd.2.2]
  exact qchain_from a b c _ 0
def qlenC (a b : List Int) : Int := if a.length = b.length then 0 else if b.length < a.length then 1 else -1
theorem qchain_len (a b c : List Int) : Chained (qlenC a b) (qlenC b c) (qlenC a c) := by
  unfold Chained qlenC
  split <;> split <;> split <;> (try split) <;> (try split) <;> (try split) <;> omega
theorem qchain_cran (a b c : List Int) : Chained (cranC a b) (cranC b c) (cranC a c) := qchain_lex (qchain_lists a b c) (qchain_len a b c)
theorem qZ_turn (x y : Int) : Bn.cmpZ y x = -Bn.cmpZ x y := by
  unfold Bn.cmpZ
  repeat' split
  all_goals omega
theorem qFrom_turn (a b : List Int) : ∀ d i, cmpFrom b a d i = -cmpFrom a b d i
  | 0, _ => rfl
  | d + 1, i => by
    rw [cmpFrom, cmpFrom, qZ_turn (nth a i) (nth b i)]
    by_cases h : Bn.cmpZ (nth a i) (nth b i) = 0
    · rw [if_pos h, if_pos (by omega), qFrom_turn a b d (i + 1)]
    · rw [if_neg h, if_neg (by omega)]
theorem qLists_turn (a b : List Int) : cmpLists b a = -cmpLists a b := by
  rw [cmpLists, cmpLists, Nat.max_comm, qFrom_turn]
theorem qCran_turn (a b : List Int) : cranC b a = -cranC a b := by
  unfold cranC
  rw [qLists_turn a b]
  by_cases h : cmpLists a b = 0
  · rw [if_pos h, if_pos (by omega)]
    rcases Nat.lt_trichotomy a.length b.length with h1 | h1 | h1
    · rw [if_neg (by omega), if_pos (by omega), if_neg (by omega), if_neg (by omega)]
      rfl
    · rw [if_pos (by omega), if_pos (by omega)]
      rfl
    · rw [if_neg (by omega), if_neg (by omega), if_neg (by omega), if_pos (by omega)]
  · rw [if_neg h, if_neg (by omega)]
end Go.Proofs.YtmhlmkefnmdbcaaDoor.Com

namespace Go.Proofs.YtmhlmkefnmdbcaaDoor.Pure
open Go.RowKit Go.Proofs.YtmhlmkefnmdbcaaDoor.Z Go.Proofs.YtmhlmkefnmdbcaaDoor.Evs Go.Proofs.YtmhlmkefnmdbcaaDoor.By Go.Proofs.YtmhlmkefnmdbcaaDoor.Com Go.Proofs.YtmhlmkefnmdbcaaDoorW.PrintWords Go.Proofs.YtmhlmkefnmdbcaaDoorW.PrintLast
set_option linter.unusedVariables false
set_option linter.unusedSimpArgs false

def crV (s : ByteArray) : List Int := (crP s).getD []
def crOK (s : ByteArray) : Prop := s.size ≤ 1500 ∧ crP s = some (crV s)
def crLe (a b : ByteArray) : Prop := cranC (crV a) (crV b) ≤ 0
def srt (l : List ByteArray) : Prop := l.Pairwise crLe ∧ ∀ s ∈ l, crOK s
theorem crLe_trans {a b c : ByteArray} (h1 : crLe a b) (h2 : crLe b c) : crLe a c := ((qchain_cran (crV a) (crV b) (crV c)).1 h1 h2).1
theorem crLe_turn {a b : ByteArray} (h : 0 < cranC (crV a) (crV b)) : crLe b a := by
  unfold crLe
  rw [qCran_turn (crV a) (crV b)]
  omega
theorem srt_ins {l : List ByteArray} {s : ByteArray} (k : Nat) (hs : crOK s) (hl : srt l) (h1 : ∀ x ∈ l.take k, crLe x s) (h2 : ∀ (h : k < l.length), 0 < cranC (crV l[k]) (crV s)) : srt (l.take k ++ ([s] ++ l.drop k)) := by
  have hp := hl.1
  rw [← List.take_append_drop k l] at hp
  obtain ⟨p1, p2, p3⟩ := List.pairwise_append.1 hp
  constructor
  · refine List.pairwise_append.2 ⟨p1, List.pairwise_cons.2 ⟨?_, p2⟩, ?_⟩
    · intro y hy
      have hy : y ∈ l.drop k := hy
      by_cases hk : k < l.length
      · have hq := crLe_turn (h2 hk)
        rw [List.drop_eq_getElem_cons hk] at hy p2
        rcases List.mem_cons.1 hy with rfl | hy
        · exact hq
        · exact crLe_trans hq ((List.pairwise_cons.1 p2).1 y hy)
      · rw [List.drop_of_length_le (by omega)] at hy
        simp at hy
    · intro x hx y hy
      rcases List.mem_cons.1 hy with rfl | hy
      · exact h1 x hx
      · exact p3 x hx y hy
  · intro x hx
    rcases List.mem_append.1 hx with hx | hx
    · exact hl.2 x (List.mem_of_mem_take hx)
    · rcases List.mem_cons.1 hx with rfl | hx
      · exact hs
      · exact hl.2 x (List.mem_of_mem_drop hx)
theorem cmp_f {a b : ByteArray} (ha : crOK a) (hb : crOK b) : impl_CRANCompare.f a b = some (cranC (crV a) (crV b), true) := by
  have h1 := ha.1
  have h2 := hb.1
  unfold impl_CRANCompare.f
  rw [if_pos ⟨by omega, by omega⟩, ha.2, hb.2]
theorem rd_in (l : List ByteArray) (i : Nat) (h : i < l.length) : rdOf ByteArray.empty l (i : Int) = l[i] := by
  rw [rdOf_nat, List.getD_eq_getElem?_getD, List.getElem?_eq_getElem h]
  rfl
theorem put_ev {F : Nat → List ByteArray → Option Bool} (out : List ByteArray) (s : ByteArray) (k : Nat) (hl : out.length ≤ 100) (h : Ev (fun n => F n (out.take k ++ ([s] ++ out.drop k))) true) :
    Ev (fun n => (some (out.take ((k : Int)).toNat : List ByteArray)).bind fun y186 => (some (([s] : List ByteArray) : List ByteArray)).bind fun y190 => (some (out.drop ((k : Int)).toNat : List ByteArray)).bind fun y193 => (if y190.length + y193.length < 8796093022208 then ((some (y190 ++ y193 : List ByteArray)).bind fun y197 => (if 0 < y197.length then (if y186.length + y197.length < 8796093022208 then (F n (y186 ++ y197)) else (none)) else (none))) else (none))) true := by
  rw [Int.toNat_natCast]
  have h1 : (out.drop k).length ≤ 100 := by rw [List.length_drop]; omega
  have h2 : (out.take k).length ≤ 100 := by rw [List.length_take]; omega
  have h3 : ([s] ++ out.drop k).length ≤ 101 := by simp; omega
  refine ev_some (ev_some (ev_some (ev_pos (by simp; omega) (ev_some (ev_pos (by simp) (ev_pos (by omega) h))))))
theorem l2_ev (src : List ByteArray) (len i : Int) (out : List ByteArray) (s : ByteArray) (hs : crOK s) (ho : srt out) (hl : out.length ≤ 100) (next : ∀ out', srt out' → out'.length = out.length + 1 → Ev (fun k => laws_FnCRANSorted.l1 k out' src len (wrap64 (i + 1))) true) (d : Nat) :
    ∀ k, k + d = out.length → (∀ x ∈ out.take k, crLe x s) → Ev (fun n => laws_FnCRANSorted.l2 n out s (k : Int) src len i) true := by
  induction d with
  | zero =>
    intro k h h1
    have hn : ([s] ++ out.drop k).length = 1 := by rw [List.drop_of_length_le (by omega)]; rfl
    have hI := srt_ins k hs ho h1 (fun hk => absurd hk (by omega))
    have hN := next _ hI (by rw [List.length_append, hn, List.length_take]; omega)
    refine Ev.step (fun _ => by rw [laws_FnCRANSorted.l2]) (ev_neg (by omega) (ev_pos (by omega) (ev_pos (by omega) ?_)))
    exact put_ev (F := fun n y => laws_FnCRANSorted.l1 n y src len (wrap64 (i + 1))) out s k hl hN
  | succ d ih =>
    intro k h h1
    have hk : k < out.length := by omega
    have hf := cmp_f (ho.2 _ (List.getElem_mem hk)) hs
    refine Ev.step (fun _ => by rw [laws_FnCRANSorted.l2, rd_in out k hk, hf, wrap_nat (i := k) (by omega)]) ?_
    refine ev_pos (by omega) (ev_pos (by omega) ?_)
    refine ev_some ?_
    refine ev_pos rfl ?_
    by_cases hc : cranC (crV out[k]) (crV s) > 0
    · refine ev_pos hc (ev_pos (by omega) ?_)
      have hn : ([s] ++ out.drop k).length = out.length - k + 1 := by simp
      have hI := srt_ins k hs ho h1 (fun _ => hc)
      have hN := next _ hI (by rw [List.length_append, hn, List.length_take]; omega)
      exact put_ev (F := fun n y => laws_FnCRANSorted.l1 n y src len (wrap64 (i + 1))) out s k hl hN
    · refine ev_neg hc (ih (k + 1) (by omega) ?_)
      intro x hx
      rw [List.take_succ_eq_append_getElem hk] at hx
      rcases List.mem_append.1 hx with hx | hx
      · exact h1 x hx
      · have : x = out[k] := by simpa using hx
        subst this
        show cranC _ _ ≤ 0
        omega
theorem l4_ev (out : List ByteArray) (ho : srt out) (hl : out.length ≤ 100) (len : Int) (i : Nat) (hi : i < out.length) (next : Ev (fun k => laws_FnCRANSorted.l3 k out len (wrap64 ((i : Int) + 1))) true) (d : Nat) :
    ∀ j, j + d = out.length → i < j → Ev (fun k => laws_FnCRANSorted.l4 k out (i : Int) (j : Int) len (i : Int)) true := by
  induction d with
  | zero =>
    intro j h hj
    exact Ev.step (fun _ => by rw [laws_FnCRANSorted.l4]) (ev_neg (by omega) next)
  | succ d ih =>
    intro j h hj
    have hjl : j < out.length := by omega
    have a1 := ho.2 _ (List.getElem_mem hi)
    have a2 := ho.2 _ (List.getElem_mem hjl)
    have hc := cranSpec_ev a1.1 a2.1 a1.2 a2.2
    have hle : cranC (crV out[i]) (crV out[j]) ≤ 0 := List.pairwise_iff_getElem.1 ho.1 i j hi hjl hj
    refine Ev.step (fun _ => by rw [laws_FnCRANSorted.l4, rd_in out i hi, rd_in out j hjl, wrap_nat (i := j) (by omega)]) ?_
    exact ev_pos (by omega) (ev_pos (by omega) (ev_pos (by omega) (ev_pos (by omega) (Ev.bind hc (ev_t (ev_neg (by show ¬ _ > 0; omega) (ih (j + 1) (by omega) (by omega))))))))
theorem l3_ev (out : List ByteArray) (ho : srt out) (hl : out.length ≤ 100) (d : Nat) : ∀ i, i + d = out.length → Ev (fun k => laws_FnCRANSorted.l3 k out (out.length : Int) (i : Int)) true := by
  induction d with
  | zero =>
    intro i h
    exact Ev.step (fun _ => by rw [laws_FnCRANSorted.l3]) (ev_neg (by omega) (ev_now rfl))
  | succ d ih =>
    intro i h
    have hw : wrap64 ((i : Int) + 1) = ((i + 1 : Nat) : Int) := wrap_nat (by omega)
    have hn := ih (i + 1) (by omega)
    rw [← hw] at hn
    have := l4_ev out ho hl (out.length : Int) i (by omega) hn (out.length - (i + 1)) (i + 1) (by omega) (by omega)
    exact Ev.step (fun _ => by rw [laws_FnCRANSorted.l3, hw]) (ev_pos (by omega) this)
theorem l1_ev (src : List ByteArray) (hs : ∀ s ∈ src, crOK s) (hl : src.length ≤ 50) (d : Nat) : ∀ i out, i + d = src.length → srt out → out.length = i → Ev (fun k => laws_FnCRANSorted.l1 k out src (src.length : Int) (i : Int)) true := by
  induction d with
  | zero =>
    intro i out h ho hn
    have h3 := l3_ev out ho (by omega) out.length 0 (by omega)
    refine Ev.step (fun _ => by rw [laws_FnCRANSorted.l1]) ?_
    exact ev_neg (by omega) h3
  | succ d ih =>
    intro i out h ho hn
    have hi : i < src.length := by omega
    have hw : wrap64 ((i : Int) + 1) = ((i + 1 : Nat) : Int) := wrap_nat (by omega)
    have := l2_ev src (src.length : Int) (i : Int) out src[i] (hs _ (List.getElem_mem hi)) ho (by omega) (fun out' h1 h2 => by rw [hw]; exact ih (i + 1) out' (by omega) h1 (by omega)) out.length 0 (by omega) (fun x hx => by simp at hx)
    refine Ev.step (fun _ => by rw [laws_FnCRANSorted.l1, rd_in src i hi]) ?_
    exact ev_pos (by omega) (ev_pos (by omega) (ev_pos (by omega) this))
theorem l0_ev (l : List ByteArray) (hl : l.length ≤ 50) (hz : ∀ s ∈ l, s.size ≤ 1500) (d : Nat) : ∀ i, i + d = l.length → (∀ s ∈ l.take i, crP s ≠ none) → Ev (fun k => laws_FnCRANSorted.l0 k l l (l.length : Int) (i : Int)) true := by
  induction d with
  | zero =>
    intro i h h1
    rw [List.take_of_length_le (by omega)] at h1
    refine Ev.step (fun _ => by rw [laws_FnCRANSorted.l0]) (ev_neg (by omega) ?_)
    exact l1_ev l (fun s hs => ⟨hz s hs, by
      unfold crV
      cases hp : crP s with
      | none => exact absurd hp (h1 s hs)
      | some x => rfl⟩) hl l.length 0 [] (by omega) ⟨List.Pairwise.nil, fun s hs => by simp at hs⟩ rfl
  | succ d ih =>
    intro i h h1
    have hi : i < l.length := by omega
    have hsz := hz _ (List.getElem_mem hi)
    have hp := parseq_ev (bl l[i]) (by rw [bl_length]; omega)
    rw [ofL_bl] at hp
    have hx := index_ev 43 (bl l[i]) (by rw [bl_length]; omega)
    have hc : ((43 : UInt8).toNat : Int) = 43 := rfl
    rw [ofL_bl, hc] at hx
    have hk : Ev (fun k => spec_CRANKnown.f k l[i]) (decide (idxI 43 (bl l[i]) < 0)) := by
      unfold spec_CRANKnown.f
      exact Ev.bind hx (ev_now rfl)
    refine Ev.step (fun _ => by rw [laws_FnCRANSorted.l0, rd_in l i hi, wrap_nat (by omega)]) (ev_pos (by omega) (ev_pos (by omega) (ev_pos (by omega) (Ev.bind hp ?_))))
    cases hq : crP l[i] with
    | none => exact ev_f (ev_now rfl)
    | some z =>
      refine ev_t (Ev.bind hk ?_)
      cases decide (idxI 43 (bl l[i]) < 0) with
      | false => exact ev_f (ev_now rfl)
      | true =>
        refine ev_t (ih (i + 1) (by omega) ?_)
        intro s hs
        rw [List.take_succ_eq_append_getElem hi] at hs
        rcases List.mem_append.1 hs with hs | hs
        · exact h1 s hs
        · have : s = l[i] := by simpa using hs
          subst this
          rw [hq]
          simp
theorem FnCRANSorted : laws_FnCRANSorted.Pure := by
  intro l h0
  refine Ev.rounds ?_
  unfold laws_FnCRANSorted.f
  have skip : Ev (fun k => laws_FnCRANSorted.j0 k l true) true := Ev.step (fun _ => by rw [laws_FnCRANSorted.j0]) (ev_t (ev_now rfl))
  obtain ⟨b, hb⟩ := fits_ev l h0
  refine Ev.bind hb ?_
  cases b with
  | false => exact ev_f (ev_now rfl)
  | true =>
    refine ev_t (ev_ite (fun _ => skip) (fun hl => ?_))
    obtain ⟨r, hr, hq⟩ := short_ev l (by omega)
    refine Ev.bind hr ?_
    cases r with
    | false => exact skip
    | true =>
      have hs := (hq rfl).2
      refine Ev.step (fun _ => by rw [laws_FnCRANSorted.j0]) ?_
      refine ev_neg (by decide) ?_
      refine l0_ev l (by omega) (fun s hs' => ?_) l.length 0 (by omega) (fun s hs => by simp at hs)
      obtain ⟨j, hj, rfl⟩ := List.mem_iff_getElem.1 hs'
      have := hs j hj
      rw [List.getD_eq_getElem?_getD, List.getElem?_eq_getElem hj] at this
      exact this
end Go.Proofs.YtmhlmkefnmdbcaaDoor.Pure

namespace Go.Proofs.YtmhlmkefnmdbcaaDoor.fnCRANSorted
open Go.ChangeShapes Go.WideShapes Go.ChangeAt Go.RowKit Go.Proofs.YtmhlmkefnmdbcaaDoor.Op Go.Proofs.YtmhlmkefnmdbcaaDoor.Z Go.Proofs.YtmhlmkefnmdbcaaDoorW.PrintWords
open Go.ChangeMaps (open_string shut_string)
set_option linter.unusedVariables false
set_option linter.unusedSimpArgs false
theorem own : ownKnob Tryd.prog.godebug = none := by kernel_rfl
theorem laidOut : laidOutB Tryd.prog = true := by kernel_rfl
noncomputable def low (os : Os) : Nat := (World.settled Tryd.prog os).heap.size
def put (h : Array Obj) (g : Nat) (cs : Array Value) : Array Obj := h.modify g fun
  | .cells _ t frozen => .cells cs t frozen
  | o => o
/-- A world for the witness: the listed variables hold what their initialisers lay. -/
noncomputable def laidWorld (os : Os) : World :=
  let w0 := World.holding Tryd.prog os ⟨#[(.cells #[.string ⟨#[69, 79, 70]⟩] 178), (.cells #[.string ⟨#[110, 117, 109, 98, 101, 114, 32, 104, 97, 115, 32, 110, 111, 32, 100, 105, 103, 105, 116, 115]⟩] 178), (.cells #[.string ⟨#[39, 95, 39, 32, 109, 117, 115, 116, 32, 115, 101, 112, 97, 114, 97, 116, 101, 32, 115, 117, 99, 99, 101, 115, 115, 105, 118, 101, 32, 100, 105, 103, 105, 116, 115]⟩] 178), (.cells #[.string ⟨#[105, 110, 118, 97, 108, 105, 100, 32, 118, 101, 114, 115, 105, 111, 110]⟩] 178), (.cells #[.string ⟨#[118, 101, 114, 115, 105, 111, 110, 32, 105, 115, 32, 110, 111, 116, 32, 111, 102, 32, 116, 104, 101, 32, 115, 97, 109, 101, 32, 101, 99, 111, 115, 121, 115, 116, 101, 109]⟩] 178)], #[], []⟩
  { w0 with heap := put (put (put (put (put (w0.heap) 2 #[.iface 163 (.pointer (some ⟨low os + 0, 0, none⟩))]) 5 #[.iface 163 (.pointer (some ⟨low os + 1, 0, none⟩))]) 4 #[.iface 163 (.pointer (some ⟨low os + 2, 0, none⟩))]) 0 #[.iface 163 (.pointer (some ⟨low os + 3, 0, none⟩))]) 1 #[.iface 163 (.pointer (some ⟨low os + 4, 0, none⟩))] }
set_option maxRecDepth 100000 in
theorem laid_met (os : Os) : laidMet Tryd.prog Rows.fnCRANSortedRow.laid ((laidWorld os).forCall (fun _ _ => 0) ⟨#[], #[.slice none 0 0], []⟩).memory :=
  laidMet_of_run3 8 (by kernel_rfl) (by kernel_rfl) (by kernel_rfl)
set_option maxRecDepth 100000 in
theorem reads (os : Os) {H : Type} (enc : TypeId × Value → H) : DataW.whole enc Tryd.prog ((laidWorld os).forCall (fun _ _ => 0) ⟨#[], #[.slice none 0 0], []⟩).memory Tryd.f4.params.toList Rows.fnCRANSortedSpec.vars false #[.slice none 0 0].toList 8 = some ([.nil], [], []) := by kernel_rfl
set_option maxRecDepth 100000 in
theorem lifted (os : Os) (started : os.Started) (H : Type) (enc : TypeId × Value → H) (F : Stop.Interp) :
    ReturnsInHanded {} Tryd.checked os 4 .any ((OpenSpec.ofChange Rows.fnCRANSortedSpec).preRow enc Tryd.prog Tryd.f4 Rows.fnCRANSortedRow.domain false Rows.fnCRANSortedRow.laid) (((OpenSpec.ofChange Rows.fnCRANSortedSpec).at F).post enc Tryd.prog Tryd.f4 false true false false) := by
  refine returnsInHanded_of_row (C := Tryd.checked) (s := OpenSpec.ofChange Rows.fnCRANSortedSpec) own started (by kernel_rfl) Tryd.func4
    (witness_row_atRef (enc := enc) (C := Tryd.checked) false (laidWorld os) #[.slice none 0 0] rfl (by kernel_rfl) (by kernel_rfl) (by kernel_rfl)
      (OpenSpec.preRow_of_cond 8 (reads os enc) (by kernel_rfl) (fun k hk => by cases hk) (by kernel_rfl) (laid_met os))) ?_
  intro W base args ds gs before hval0 hW hcnd hk0 hsz0 hL hSh hho
  have hsz : (DataW.weightsEach Tryd.prog (Tryd.f4.params.toList ++ Rows.fnCRANSortedSpec.plain.varTypes Tryd.prog) (ds ++ gs)).all (· ≤ reachBytes) = true := hsz0
  have hval : ∀ (j : Nat) t v, Tryd.f4.params[j]? = some t → args[j]? = some v → Value.okWide Tryd.prog W .any base t v := hval0
  have hW' := hW
  obtain ⟨p, q, hA0, hV, rfl, hfz, hnd⟩ := hW
  have hA : DataW.TrodAll enc Tryd.prog W 0 (fun _ => true) true Tryd.f4.params.toList args.toList ds p := hA0
  rw [Tryd.params4] at hA hval hsz
  obtain ⟨v0, vs0, d0, ds0, p0, q0, hargs, rfl, rfl, h0, r0⟩ := trodAll_cons hA
  obtain ⟨rfl, rfl, rfl⟩ := trodAll_nil r0
  obtain rfl : args = #[v0] := by cases args; simp_all
  obtain ⟨rfl, rfl⟩ := trodVars_none hV
  obtain ⟨A0, n0, c0, rfl⟩ := okWide_slice Tryd.underlying28 (hval 0 28 v0 rfl rfl)
  have k0 := h0
  have lt0 : ∀ x ∈ p0, x.block < W.heap.size := by obtain ⟨m, hm⟩ := k0; exact DataW.trod_lt m _ _ _ hm
  obtain ⟨l0, rfl, hc0, hr0, hm0⟩ := open_slice (Opens.slice Tryd.underlying28 (by kernel_rfl) (Opens.string Tryd.underlying9)) h0
  clear hA0 hval0 hsz0 hsz
  refine (laws_FnCRANSorted.walk Pure.FnCRANSorted A0 c0 l0 W hm0 hr0 hc0 (Gw.gw_of (l := Rows.fnCRANSortedRow.laid) hL (List.Mem.head _) (List.Mem.tail _ (List.Mem.head _)) (List.Mem.tail _ (List.Mem.tail _ (List.Mem.tail _ (List.Mem.head _)))))).mono fun e W' ⟨he, bel⟩ => ?_
  subst he
  exact ⟨_, rfl, _, _, _, [], _, [], hW', trodAll_mk1 (shut_bool Tryd.underlying4 _), (trodAll_cons_mk (Below.trod laidOut (by kernel_rfl) (of_decide_eq_true (by kernel_rfl)) k0 bel lt0) trodAll_mk0), rfl, bel.frame _, fun h => by cases h⟩
theorem said : Rows.FnCRANSortedSaid :=
  OpenClaim.holds_of_cond 4 Tryd.f4 rfl rfl rfl rfl rfl rfl rfl ⟨rfl, rfl, rfl, rfl, rfl⟩ rfl rfl rfl rfl rfl (by kernel_rfl) Tryd.func4 (by kernel_rfl)
    (of_decide_eq_true (by kernel_rfl)) (by unfold Func.isWrapper; first | (rw [if_pos (by decide +kernel)]; kernel_rfl) | (rw [if_neg (by decide +kernel)]; exact ⟨rfl, rfl⟩))
    (fun os started H enc _ F => by rw [OpenClaim.pre_eq_preRow]; exact lifted os started H enc F)
theorem plain (f : FuncId) (fn : Func) (hf : Tryd.pinned.checked.prog.funcNamed "pub-seniority/laws.FnCRANSorted" = some f) (hfn : Tryd.pinned.checked.prog.funcs[f]? = some fn) :
    true = Tryd.pinned.checked.prog.looks [] ∧ ∀ (j : Nat) t, fn.params[j]? = some t → Tryd.pinned.checked.prog.wantsStandIn t = false := by
  obtain rfl : f = 4 := Option.some.inj ((show Tryd.prog.funcNamed "pub-seniority/laws.FnCRANSorted" = some 4 by kernel_rfl).symm.trans hf) |>.symm
  obtain rfl : fn = Tryd.f4 := (Option.some.inj (Tryd.func4.symm.trans hfn)).symm
  refine ⟨by kernel_rfl, fun j t ht => ?_⟩
  rw [Tryd.params4] at ht
  have h2 : ([28] : List TypeId).all (fun t => !Tryd.prog.wantsStandIn t) = true := by kernel_rfl
  have h3 := List.all_eq_true.1 h2 t (by have := Array.mem_of_getElem? ht; simpa using this)
  exact (show Tryd.prog.wantsStandIn t = false from by simpa using h3)
theorem proved : Rows.FnCRANSortedCardSaid :=
  Claim7.holds_tied_plain_at .later [] _ _ _ _ said (fun _ h => by cases h) (by kernel_rfl) (fun _ h => by cases h) fnCRANSorted_row_tie rfl ⟨rfl, rfl⟩ (by kernel_rfl) rfl plain (by kernel_rfl)
#print axioms proved
end Go.Proofs.YtmhlmkefnmdbcaaDoor.fnCRANSorted
namespace Go.Proofs.YtmhlmkefnmdbcaaDoor
/-- The card, under a short name, for the claim. -/
theorem fnCRANSorted_holds : Rows.FnCRANSortedCardSaid := fnCRANSorted.proved
end Go.Proofs.YtmhlmkefnmdbcaaDoor
