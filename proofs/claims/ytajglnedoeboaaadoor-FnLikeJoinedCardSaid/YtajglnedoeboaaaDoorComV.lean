/- Which numbers the reference reads: intOf, Number. -/
import Derived.Test.YtajglnedoeboaaaDoorZ2
import Derived.Test.YtajglnedoeboaaaDoorBv
import Derived.Test.YtajglnedoeboaaaDoorComD
namespace Go.Proofs.YtajglnedoeboaaaDoor.Com
open Go Go.RowKit Go.Proofs.YtajglnedoeboaaaDoor.Z Go.Proofs.YtajglnedoeboaaaDoor.Evs Go.Proofs.YtajglnedoeboaaaDoor.By Go.Proofs.YtajglnedoeboaaaDoor.Bv Go.Proofs.YtajglnedoeboaaaDoorW.PrintWords Go.Proofs.YtajglnedoeboaaaDoorW.PrintLast
set_option linter.unusedVariables false
set_option linter.unusedSimpArgs false

theorem rd_mid (pre rest : List Int) (x : Int) : rd (pre ++ x :: rest) (pre.length : Int) = x := by
  rw [rd_nat, List.getD_eq_getElem?_getD, List.getElem?_append_right (Nat.le_refl _), Nat.sub_self]
  rfl
theorem set_mid (pre rest : List Int) (x y : Int) : (pre ++ x :: rest).set pre.length y = (pre ++ [y]) ++ rest := by
  rw [List.set_append_right _ _ (Nat.le_refl _), Nat.sub_self]
  simp
theorem int_l1 (s : List UInt8) (i : Int) (r : Bool × ByteArray) : ∀ (rest pre : List Int) (c : Int), Byt rest → 0 ≤ c → c ≤ 9 → pre.length + rest.length ≤ 1000000 →
    Ev (fun k => spec_intOf.l0 k (ofL s) (pre ++ mulA rest c) (wrap64 (i + 1))) r → Ev (fun k => spec_intOf.l1 k (ofL s) (pre ++ rest) i c (pre.length : Int)) r
  | [], pre, c, _, h0, h9, hl, hk => by
    rw [List.append_nil]
    refine Ev.step (fun _ => by rw [spec_intOf.l1]) ?_
    refine ev_neg (by omega) ?_
    rw [mulA] at hk
    have hl' : pre.length + 0 ≤ 1000000 := hl
    by_cases hc : 0 < c
    · rw [if_pos hc] at hk
      refine ev_pos hc (ev_pos (by omega) ?_)
      have e : c % 256 = c := by omega
      rw [e]
      exact hk
    · rw [if_neg hc, List.append_nil] at hk
      exact ev_neg (by omega) hk
  | x :: rest, pre, c, hb, h0, h9, hl, hk => by
    have hx := hb.head
    have hl' : (x :: rest).length = rest.length + 1 := rfl
    have hlen : (pre ++ x :: rest).length = pre.length + (x :: rest).length := List.length_append
    have e1 : wrap64 (rd (pre ++ x :: rest) (pre.length : Int)) = x := by rw [rd_mid, wrap_in (by omega) (by omega)]
    have e2 : wrap64 (10 * x) = 10 * x := wrap_in (by omega) (by omega)
    have e3 : wrap64 (c + 10 * x) = c + 10 * x := wrap_in (by omega) (by omega)
    have e4 : Int.tmod (c + 10 * x) 256 % 256 = (c + 10 * x) % 256 := by
      rw [Int.tmod_eq_emod_of_nonneg (by omega)]
      omega
    have e5 : wrap64 (Int.tdiv (c + 10 * x) 256) = (c + 10 * x) / 256 := by
      rw [Int.tdiv_eq_ediv_of_nonneg (by omega), wrap_in (by omega) (by omega)]
    have e6 : wrap64 ((pre.length : Int) + 1) = ((pre ++ [(c + 10 * x) % 256]).length : Int) := by
      rw [wrap_nat (by omega), List.length_append, List.length_singleton]
    refine Ev.step (fun _ => by rw [spec_intOf.l1, e1, e2, e3, e4, e5, Int.toNat_natCast, set_mid, e6]) ?_
    refine ev_pos (by omega) (ev_pos (by omega) ?_)
    refine int_l1 s i r rest (pre ++ [(c + 10 * x) % 256]) ((c + 10 * x) / 256) hb.tail (by omega) (by omega) (by rw [List.length_append, List.length_singleton]; omega) ?_
    rw [mulA] at hk
    rw [List.append_assoc]
    exact hk
theorem int_l2 (m : List Int) (hm : m.length ≤ 1000000) (d : Nat) : ∀ j : Nat, j + d = m.length → Ev (fun k => spec_intOf.l2 k m (List.replicate d 0 ++ (m.take j).reverse) (j : Int)) (false, strOfNums m.reverse) := by
  induction d with
  | zero =>
    intro j h
    refine Ev.step (fun _ => by rw [spec_intOf.l2]) (ev_neg (by omega) (ev_now ?_))
    rw [List.take_of_length_le (by omega)]
    rfl
  | succ d ih =>
    intro j h
    have hj : j < m.length := by omega
    have e1 : wrap64 ((m.length : Int) - 1) = (m.length : Int) - 1 := wrap_in (by omega) (by omega)
    have e2 : wrap64 ((m.length : Int) - 1 - (j : Int)) = (d : Int) := by rw [wrap_in (by omega) (by omega)]; omega
    have e3 : rd m (j : Int) = m[j] := by
      rw [rd_nat, List.getD_eq_getElem?_getD, List.getElem?_eq_getElem hj]
      rfl
    have e4 : (List.replicate (d + 1) (0 : Int) ++ (m.take j).reverse).set d m[j] = List.replicate d 0 ++ (m.take (j + 1)).reverse := by
      rw [List.take_succ_eq_append_getElem hj, List.reverse_append, List.reverse_singleton, List.replicate_succ', List.append_assoc, List.set_append_right _ _ (by simp), List.length_replicate, Nat.sub_self]
      rfl
    have hlen : (List.replicate (d + 1) (0 : Int) ++ (m.take j).reverse).length = m.length := by
      rw [List.length_append, List.length_replicate, List.length_reverse, List.length_take]
      omega
    refine Ev.step (fun _ => by rw [spec_intOf.l2, e1, e2, e3, Int.toNat_natCast, e4, wrap_nat (by omega)]) ?_
    exact ev_pos (by omega) (ev_pos (by omega) (ev_pos (by omega) (ev_pos (by omega) (ih (j + 1) (by omega)))))
theorem int_l0 (s : List UInt8) (hs : s.length ≤ 100000) (hd : s.all dg = true) (d : Nat) : ∀ i : Nat, i + d = s.length → Ev (fun k => spec_intOf.l0 k (ofL s) (magL (s.take i)) (i : Int)) (false, strOfNums (magL s).reverse) := by
  have hz := ofL_size s
  induction d with
  | zero =>
    intro i h
    have hm := (mag_all s.length s rfl hd).2.2.2
    rw [List.take_of_length_le (by omega)]
    refine Ev.step (fun _ => by rw [spec_intOf.l0, Int.toNat_natCast]) ?_
    refine ev_neg (by omega) (ev_pos (by omega) (ev_pos (by omega) ?_))
    have := int_l2 (magL s) (by omega) (magL s).length 0 (by omega)
    simpa using this
  | succ d ih =>
    intro i h
    have hi : i < s.length := by omega
    have hc := bt_ofL s i hi
    have hall : (s.take i).all dg = true := by
      rw [List.all_eq_true] at *
      exact fun c hc => hd c (List.mem_of_mem_take hc)
    obtain ⟨m1, m2, m3, m4⟩ := mag_all (s.take i).length (s.take i) rfl hall
    have hdi : dg s[i] = true := List.all_eq_true.1 hd _ (List.getElem_mem hi)
    have hr := dv_range hdi
    have e1 : ((s[i].toNat : Int) - 48) % 256 = dv s[i] := by unfold dv at *; omega
    have hl : (s.take i).length ≤ i := List.length_take_le _ _
    refine Ev.step (fun _ => by rw [spec_intOf.l0, hc, e1]) ?_
    refine ev_pos (by omega) (ev_pos (by omega) ?_)
    have nx := ih (i + 1) (by omega)
    rw [List.take_succ_eq_append_getElem hi, magL_snoc, ← wrap_nat (by omega)] at nx
    exact int_l1 s (i : Int) _ (magL (s.take i)) [] (dv s[i]) m2 hr.1 hr.2 (by simp only [List.length_nil]; omega) nx
theorem intOf_ev (s : List UInt8) (hs : s.length ≤ 100000) (hd : s.all dg = true) : Ev (fun k => spec_intOf.f k (ofL s)) (false, ofL (magB s)) := by
  have := int_l0 s hs hd s.length 0 (by omega)
  rw [← magB_nums s hd, strOf_numsOf] at this
  exact this
/-- A sign ahead, and what is behind. -/
def sgn : List UInt8 → Bool × List UInt8
  | [] => (false, [])
  | c :: r => if c = 43 then (false, r) else if c = 45 then (true, r) else (false, c :: r)
/-- The number that a text is, as the reference reads it. -/
def numS (s : List UInt8) : Bool × List UInt8 × Bool := if allD (sgn s).2 then ((sgn s).1 && !(magB (sgn s).2).isEmpty, magB (sgn s).2, true) else (false, [], false)
def ofN (p : Bool × List UInt8 × Bool) : Bool × ByteArray × Bool := (p.1, ofL p.2.1, p.2.2)
theorem allD_all {l : List UInt8} (h : allD l = true) : l.all dg = true := by
  unfold allD at h
  rw [Bool.and_eq_true] at h
  exact h.1
theorem num_j1 (t : List UInt8) (ht : t.length ≤ 100000) (neg : Bool) : Ev (fun k => spec_Number.j1 k (ofL t) neg) (ofN (if allD t then (neg && !(magB t).isEmpty, magB t, true) else (false, [], false))) := by
  refine Ev.step (fun _ => by rw [spec_Number.j1]) (Ev.bind (digits_ev t (by omega)) ?_)
  cases h : allD t with
  | false => exact ev_f (ev_now rfl)
  | true =>
    refine ev_t (Ev.bind (intOf_ev t ht (allD_all h)) ?_)
    cases neg with
    | false => exact ev_f (ev_now rfl)
    | true =>
      refine ev_t (ev_now ?_)
      show (!(ofL (magB t)).toList.isEmpty, ofL (magB t), true) = _
      rw [toList_ofL]
      rfl
theorem n43 (c : UInt8) : ((c.toNat : Int) = 43) ↔ c = 43 := ⟨fun h => UInt8.toNat_inj.1 (by have : (43 : UInt8).toNat = 43 := rfl; omega), fun h => by rw [h]; rfl⟩
theorem n45 (c : UInt8) : ((c.toNat : Int) == 45) = decide (c = 45) := by
  rw [Bool.eq_iff_iff, beq_iff_eq, decide_eq_true_iff]
  exact ⟨fun h => UInt8.toNat_inj.1 (by have : (45 : UInt8).toNat = 45 := rfl; omega), fun h => by rw [h]; rfl⟩
theorem number_ev (s : List UInt8) (hs : s.length ≤ 100000) : Ev (fun k => spec_Number.f k (ofL s)) (ofN (numS s)) := by
  unfold spec_Number.f
  cases s with
  | nil =>
    refine ev_neg (by rw [ofL_size]; simp) ?_
    refine Ev.step (fun _ => by rw [spec_Number.j0]) ?_
    exact ev_f (num_j1 [] (by simp) false)
  | cons c r =>
    have hb : bt (ofL (c :: r)) 0 = (c.toNat : Int) := bt_ofL (c :: r) 0 (by simp)
    have hz := ofL_size (c :: r)
    have hl : (c :: r).length = r.length + 1 := rfl
    have hx : (ofL (c :: r)).extract 1 (ofL (c :: r)).size = ofL r := by
      rw [ofL_size, ofL_extract, List.take_length]
      rfl
    rw [hb, n45]
    refine ev_pos (by omega) (ev_pos (by omega) ?_)
    by_cases h1 : c = 43
    · refine ev_pos ((n43 c).2 h1) ?_
      refine Ev.step (fun _ => by rw [spec_Number.j0, hb, n45, hx]) ?_
      refine ev_t (ev_pos (by omega) (ev_pos (by omega) ?_))
      have h2 : ¬ c = 45 := fun e => by rw [h1] at e; cases e
      rw [decide_eq_false h2, numS, show sgn (c :: r) = (false, r) from if_pos h1]
      exact num_j1 r (by omega) false
    · refine ev_neg (fun h => h1 ((n43 c).1 h)) ?_
      by_cases h2 : c = 45
      · rw [decide_eq_true h2]
        refine Ev.step (fun _ => by rw [spec_Number.j0, hb, n45, hx, decide_eq_true h2]) ?_
        refine ev_t (ev_pos (by omega) (ev_pos (by omega) ?_))
        rw [numS, show sgn (c :: r) = (true, r) from (if_neg h1).trans (if_pos h2)]
        exact num_j1 r (by omega) true
      · rw [decide_eq_false h2]
        refine Ev.step (fun _ => by rw [spec_Number.j0]) ?_
        rw [numS, show sgn (c :: r) = (false, c :: r) from (if_neg h1).trans (if_neg h2)]
        exact ev_f (num_j1 (c :: r) (by omega) false)
end Go.Proofs.YtajglnedoeboaaaDoor.Com
