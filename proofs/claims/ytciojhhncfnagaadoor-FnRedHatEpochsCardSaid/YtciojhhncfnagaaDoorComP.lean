/- What plain answers: digits, letters and some further bytes alone, one at least. -/
import Derived.Test.YtciojhhncfnagaaDoorZ1
import Derived.Test.YtciojhhncfnagaaDoorBy
namespace Go.Proofs.YtciojhhncfnagaaDoor.Com
open Go.RowKit Go.Proofs.YtciojhhncfnagaaDoor.Z Go.Proofs.YtciojhhncfnagaaDoor.Evs Go.Proofs.YtciojhhncfnagaaDoor.By Go.Proofs.YtciojhhncfnagaaDoorW.PrintWords Go.Proofs.YtciojhhncfnagaaDoorW.PrintLast
set_option linter.unusedVariables false
set_option linter.unusedSimpArgs false

theorem plain_eq (a c : UInt8) : ((a.toNat : Int) == (c.toNat : Int)) = (a == c) := by
  rw [Bool.eq_iff_iff, beq_iff_eq, beq_iff_eq]
  exact ⟨fun h => UInt8.toNat_inj.1 (by omega), fun h => by rw [h]⟩
/-- The inner loop: is the byte one of those told, or was it good already. -/
theorem plain_1 (s m : List UInt8) (hm : m.length ≤ 1000) (i : Nat) (c : UInt8) (r : Bool) (hno : Ev (fun k => laws_plain.l0 k (ofL s) (ofL m) (wrap64 ((i : Int) + 1))) r) (d : Nat) :
    ∀ (j : Nat) (b : Bool), j + d = m.length → Ev (fun k => laws_plain.l1 k (ofL s) (ofL m) (i : Int) (c.toNat : Int) b (j : Int)) ((b || (m.drop j).contains c) && r) := by
  have hs := ofL_size m
  induction d with
  | zero =>
    intro j b h
    refine Ev.step (fun _ => by rw [laws_plain.l1]) (ev_neg (by omega) ?_)
    rw [List.drop_of_length_le (by omega)]
    cases b with
    | true => exact ev_t (by simpa using hno)
    | false => exact ev_f (ev_now (by simp))
  | succ d ih =>
    intro j b h
    have hj : j < m.length := by omega
    have hc := bt_ofL m j hj
    have e : m.drop j = m[j] :: m.drop (j + 1) := List.drop_eq_getElem_cons hj
    refine Ev.step (fun _ => by rw [laws_plain.l1, hc, plain_eq, wrap_nat (by omega)]) (ev_pos (by omega) ?_)
    cases b with
    | true =>
      refine ev_t ?_
      have := ih (j + 1) true (by omega)
      simpa using this
    | false =>
      refine ev_f (ev_pos (by omega) ?_)
      have := ih (j + 1) (c == m[j]) (by omega)
      rw [e, List.contains_cons]
      simpa using this
def plainC (m : List UInt8) (c : UInt8) : Bool := dg c || lt c || m.contains c
theorem plain_l (s m : List UInt8) (hs0 : s.length ≤ 140737488351232) (hm : m.length ≤ 1000) (d : Nat) : ∀ i : Nat, i + d = s.length → Ev (fun k => laws_plain.l0 k (ofL s) (ofL m) (i : Int)) ((s.drop i).all (plainC m) && !s.isEmpty) := by
  have hs := ofL_size s
  induction d with
  | zero =>
    intro i h
    refine Ev.step (fun _ => by rw [laws_plain.l0]) (ev_neg (by omega) (ev_now ?_))
    rw [List.drop_of_length_le (by omega), toList_ofL]
    simp
  | succ d ih =>
    intro i h
    have hi : i < s.length := by omega
    have hc := bt_ofL s i hi
    have hw : wrap64 ((i : Int) + 1) = ((i + 1 : Nat) : Int) := wrap_nat (by omega)
    have nx := ih (i + 1) (by omega)
    rw [← hw] at nx
    have inner : ∀ b : Bool, b = (dg s[i] || lt s[i]) → Ev (fun k => laws_plain.j1 k (ofL s) (ofL m) (i : Int) (s[i].toNat : Int) b) ((s.drop i).all (plainC m) && !s.isEmpty) := by
      intro b hb
      refine Ev.step (fun _ => by rw [laws_plain.j1]) ?_
      have := plain_1 s m hm i s[i] _ nx m.length 0 b (by omega)
      rw [List.drop_zero] at this
      rw [List.drop_eq_getElem_cons hi, List.all_cons, plainC, ← hb, Bool.and_assoc]
      exact this
    refine Ev.step (fun _ => by rw [laws_plain.l0, hc]) (ev_pos (by omega) (ev_pos (by omega) ?_))
    have low : ∀ (b : Bool), dg s[i] = false → (¬ (97 ≤ s[i].toNat ∧ s[i].toNat ≤ 122)) → Ev (fun k => if (s[i].toNat : Int) ≥ 65 then (laws_plain.j1 k (ofL s) (ofL m) (i : Int) (s[i].toNat : Int) (decide ((s[i].toNat : Int) ≤ 90))) else (laws_plain.j1 k (ofL s) (ofL m) (i : Int) (s[i].toNat : Int) false)) ((s.drop i).all (plainC m) && !s.isEmpty) := by
      intro _ h1 h2
      by_cases c : (s[i].toNat : Int) ≥ 65
      · refine ev_pos c (inner _ ?_)
        rw [h1, Bool.false_or, lt, decide_eq_decide]
        omega
      · refine ev_neg c (inner _ ?_)
        rw [h1, Bool.false_or, lt]
        symm
        rw [decide_eq_false_iff_not]
        omega
    have mid : dg s[i] = false → Ev (fun k => if (s[i].toNat : Int) ≥ 97 then (if (s[i].toNat : Int) ≤ 122 then (laws_plain.j1 k (ofL s) (ofL m) (i : Int) (s[i].toNat : Int) true) else (if (s[i].toNat : Int) ≥ 65 then (laws_plain.j1 k (ofL s) (ofL m) (i : Int) (s[i].toNat : Int) (decide ((s[i].toNat : Int) ≤ 90))) else (laws_plain.j1 k (ofL s) (ofL m) (i : Int) (s[i].toNat : Int) false))) else (if (s[i].toNat : Int) ≥ 65 then (laws_plain.j1 k (ofL s) (ofL m) (i : Int) (s[i].toNat : Int) (decide ((s[i].toNat : Int) ≤ 90))) else (laws_plain.j1 k (ofL s) (ofL m) (i : Int) (s[i].toNat : Int) false))) ((s.drop i).all (plainC m) && !s.isEmpty) := by
      intro h1
      by_cases c : (s[i].toNat : Int) ≥ 97
      · refine ev_pos c ?_
        by_cases c2 : (s[i].toNat : Int) ≤ 122
        · refine ev_pos c2 (inner _ ?_)
          rw [h1, Bool.false_or, lt, decide_eq_true (by omega)]
        · exact ev_neg c2 (low true h1 (by omega))
      · exact ev_neg c (low true h1 (by omega))
    by_cases c : (s[i].toNat : Int) ≥ 48
    · refine ev_pos c ?_
      by_cases c2 : (s[i].toNat : Int) ≤ 57
      · refine ev_pos c2 (inner _ ?_)
        rw [dg, decide_eq_true (by omega), Bool.true_or]
      · exact ev_neg c2 (mid (by rw [dg]; exact decide_eq_false (by omega)))
    · exact ev_neg c (mid (by rw [dg]; exact decide_eq_false (by omega)))
theorem plain_ev (s m : List UInt8) (hs0 : s.length ≤ 140737488351232) (hm : m.length ≤ 1000) : Ev (fun k => laws_plain.f k (ofL s) (ofL m)) (s.all (plainC m) && !s.isEmpty) := plain_l s m hs0 hm s.length 0 (by omega)
end Go.Proofs.YtciojhhncfnagaaDoor.Com
