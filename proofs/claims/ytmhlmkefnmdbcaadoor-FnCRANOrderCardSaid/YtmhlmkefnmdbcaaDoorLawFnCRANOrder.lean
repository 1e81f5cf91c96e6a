/- FnCRANOrder: CRAN versions are in one order. No condition beyond the row's own. -/
import Derived.Test.YtmhlmkefnmdbcaaDoorZ2
import Derived.Test.YtmhlmkefnmdbcaaDoorEv
import Derived.Test.YtmhlmkefnmdbcaaDoorZ15
import Derived.Test.YtmhlmkefnmdbcaaDoorBy
import Derived.Test.YtmhlmkefnmdbcaaDoorLx
import Derived.Test.YtmhlmkefnmdbcaaDoorZ8
import Derived.Test.YtmhlmkefnmdbcaaDoorZ13
import Derived.Test.YtmhlmkefnmdbcaaDoorZ14
import Derived.Test.YtmhlmkefnmdbcaaDoorZ16
import Derived.Test.YtmhlmkefnmdbcaaDoorRows
import Derived.Test.YtmhlmkefnmdbcaaDoorOp
import Derived.Test.YtmhlmkefnmdbcaaDoorCards
import Derived.Test.YtmhlmkefnmdbcaaDoorTie
import Derived.Test.YtmhlmkefnmdbcaaDoorGl
import Derived.Deep.DeepHandedRow
import Derived.Deep.DeepWitnessRowRef
import Derived.Deep.DeepLaidRun
import Derived.WalkKit
import Derived.ProofKit
import Derived.OpenShut
import Derived.ShutString
import Derived.ChangeOld
import Derived.Below
import Derived.SizedLaws
namespace Go.Proofs.YtmhlmkefnmdbcaaDoor.Com
open Go.RowKit Go.Proofs.YtmhlmkefnmdbcaaDoor.Z Go.Proofs.YtmhlmkefnmdbcaaDoor.Evs Go.Proofs.YtmhlmkefnmdbcaaDoorW.PrintWords Go.Proofs.YtmhlmkefnmdbcaaDoorW.PrintLast
set_option linter.unusedVariables false
set_option linter.unusedSimpArgs false

/-- short: an answer; where it is true the list is short and its texts are. -/
theorem short_l (l : List ByteArray) (hl : (l.length : Int) < 9223372036854775807) (d : Nat) : ∀ i : Nat, i + d = l.length →
    ∃ b, Ev (fun k => laws_short.l0 k l l (l.length : Int) (i : Int)) b ∧ (b = true → l.length ≤ 150 ∧ ∀ j, i ≤ j → j < l.length → (l.getD j ByteArray.empty).size ≤ 1500) := by
  induction d with
  | zero =>
    intro i h
    exact ⟨_, Ev.step (fun _ => by rw [laws_short.l0]) (ev_neg (by omega) (Ev.now _)), fun hb => ⟨by simp at hb; omega, fun j h1 h2 => by omega⟩⟩
  | succ d ih =>
    intro i h
    obtain ⟨b, hb, hq⟩ := ih (i + 1) (by omega)
    by_cases c : ((rdOf ByteArray.empty l (i : Int)).size : Int) > 1500
    · exact ⟨false, Ev.step (fun _ => by rw [laws_short.l0]) (ev_pos (by omega) (ev_pos (by omega) (ev_pos (by omega) (ev_pos c (Ev.now _))))), fun h => by cases h⟩
    · refine ⟨b, Ev.step (fun _ => by rw [laws_short.l0, wrap_nat (by omega)]) (ev_pos (by omega) (ev_pos (by omega) (ev_pos (by omega) (ev_neg c hb)))), fun h => ⟨(hq h).1, fun j h1 h2 => ?_⟩⟩
      by_cases e : j = i
      · subst e; rw [rdOf_nat] at c; omega
      · exact (hq h).2 j (by omega) h2
theorem short_ev (l : List ByteArray) (hl : (l.length : Int) < 9223372036854775807) : ∃ b, Ev (fun k => laws_short.f k l) b ∧ (b = true → l.length ≤ 150 ∧ ∀ j, j < l.length → (l.getD j ByteArray.empty).size ≤ 1500) := by
  obtain ⟨b, hb, hq⟩ := short_l l hl l.length 0 (by omega)
  exact ⟨b, hb, fun h => ⟨(hq h).1, fun j hj => (hq h).2 j (by omega) hj⟩⟩

theorem short2 (a b : ByteArray) : ∃ r, Ev (fun k => laws_short.f k [a, b]) r ∧ (r = true → a.size ≤ 1500 ∧ b.size ≤ 1500) := by
  obtain ⟨r, hr, hq⟩ := short_ev [a, b] (by simp)
  exact ⟨r, hr, fun h => ⟨(hq h).2 0 (by simp), (hq h).2 1 (by simp)⟩⟩
theorem short1 (a : ByteArray) : ∃ r, Ev (fun k => laws_short.f k [a]) r ∧ (r = true → a.size ≤ 1500) := by
  obtain ⟨r, hr, hq⟩ := short_ev [a] (by simp)
  exact ⟨r, hr, fun h => (hq h).2 0 (by simp)⟩
theorem short3 (a b c : ByteArray) : ∃ r, Ev (fun k => laws_short.f k [a, b, c]) r ∧ (r = true → a.size ≤ 1500 ∧ b.size ≤ 1500 ∧ c.size ≤ 1500) := by
  obtain ⟨r, hr, hq⟩ := short_ev [a, b, c] (by simp)
  exact ⟨r, hr, fun h => ⟨(hq h).2 0 (by simp), (hq h).2 1 (by simp), (hq h).2 2 (by simp)⟩⟩
theorem short4 (a b c d : ByteArray) : ∃ r, Ev (fun k => laws_short.f k [a, b, c, d]) r ∧ (r = true → a.size ≤ 1500 ∧ b.size ≤ 1500 ∧ c.size ≤ 1500 ∧ d.size ≤ 1500) := by
  obtain ⟨r, hr, hq⟩ := short_ev [a, b, c, d] (by simp)
  exact ⟨r, hr, fun h => ⟨(hq h).2 0 (by simp), (hq h).2 1 (by simp), (hq h).2 2 (by simp), (hq h).2 3 (by simp)⟩⟩
end Go.Proofs.YtmhlmkefnmdbcaaDoor.Com

namespace Go.Proofs.YtmhlmkefnmdbcaaDoor.Com
open Go.RowKit Go.Proofs.YtmhlmkefnmdbcaaDoor.Z Go.Proofs.YtmhlmkefnmdbcaaDoor.Evs Go.Proofs.YtmhlmkefnmdbcaaDoor.By Go.Proofs.YtmhlmkefnmdbcaaDoorW.PrintWords Go.Proofs.YtmhlmkefnmdbcaaDoorW.PrintLast
set_option linter.unusedVariables false
set_option linter.unusedSimpArgs false

theorem plain_eq (a c : UInt8) : ((a.toNat : Int) == (c.toNat : Int)) = (a == c) := by
  rw [Bool.eq_iff_iff, beq_iff_eq, beq_iff_eq]
  exact ⟨fun h => UInt8.toNat_inj.1 (by omega), fun h => by rw [h]⟩
/-- The inner loop: is the byte one of those told, or was it good already. -/
theorem plain_1 (s m : List UInt8) (hm : m.length ≤ 1000) (i : Nat) (c : UInt8) (r : Bool) (hno : Ev (fun k => laws_plain.l0 k (ofL s) (ofL m) (wrap64 ((i : Int) + 1))) r) (d : Nat) :
    ∀ (j : Nat) (b : Bool), j + d = m.length → Ev (fun k => laws_plain.l1 k (ofL s) (ofL m) (i : Int) (c.toNat : Int) b (j : Int)) ((b || (m.drop j).contains c) && r) := by
  have hs := ofL_size m
  induction d with
  | zero =>
    intro j b h
    refine Ev.step (fun _ => by rw [laws_plain.l1]) (ev_neg (by omega) ?_)
    rw [List.drop_of_length_le (by omega)]
    cases b with
    | true => exact ev_t (by simpa using hno)
    | false => exact ev_f (ev_now (by simp))
  | succ d ih =>
    intro j b h
    have hj : j < m.length := by omega
    have hc := bt_ofL m j hj
    have e : m.drop j = m[j] :: m.drop (j + 1) := List.drop_eq_getElem_cons hj
    refine Ev.step (fun _ => by rw [laws_plain.l1, hc, plain_eq, wrap_nat (by omega)]) (ev_pos (by omega) ?_)
    cases b with
    | true =>
      refine ev_t ?_
      have := ih (j + 1) true (by omega)
      simpa using this
    | false =>
      refine ev_f (ev_pos (by omega) ?_)
      have := ih (j + 1) (c == m[j]) (by omega)
      rw [e, List.contains_cons]
      simpa using this
def plainC (m : List UInt8) (c : UInt8) : Bool := dg c || lt c || m.contains c
theorem plain_l (s m : List UInt8) (hs0 : s.length ≤ 140737488351232) (hm : m.length ≤ 1000) (d : Nat) : ∀ i : Nat, i + d = s.length → Ev (fun k => laws_plain.l0 k (ofL s) (ofL m) (i : Int)) ((s.drop i).all (plainC m) && !s.isEmpty) := by
  have hs := ofL_size s
  induction d with
  | zero =>
    intro i h
    refine Ev.step (fun _ => by rw [laws_plain.l0]) (ev_neg (by omega) (ev_now ?_))
    rw [List.drop_of_length_le (by omega), toList_ofL]
    simp
  | succ d ih =>
    intro i h
    have hi : i < s.length := by omega
    have hc := bt_ofL s i hi
    have hw : wrap64 ((i : Int) + 1) = ((i + 1 : Nat) : Int) := wrap_nat (by omega)
    have nx := ih (i + 1) (by omega)
    rw [← hw] at nx
    have inner : ∀ b : Bool, b = (dg s[i] || lt s[i]) → Ev (fun k => laws_plain.j1 k (ofL s) (ofL m) (i : Int) (s[i].toNat : Int) b) ((s.drop i).all (plainC m) && !s.isEmpty) := by
      intro b hb
      refine Ev.step (fun _ => by rw [laws_plain.j1]) ?_
      have := plain_1 s m hm i s[i] _ nx m.length 0 b (by omega)
      rw [List.drop_zero] at this
      rw [List.drop_eq_getElem_cons hi, List.all_cons, plainC, ← hb, Bool.and_assoc]
      exact this
    refine Ev.step (fun _ => by rw [laws_plain.l0, hc]) (ev_pos (by omega) (ev_pos (by omega) ?_))
    have low : ∀ (b : Bool), dg s[i] = false → (¬ (97 ≤ s[i].toNat ∧ s[i].toNat ≤ 122)) → Ev (fun k => if (s[i].toNat : Int) ≥ 65 then (laws_plain.j1 k (ofL s) (ofL m) (i : Int) (s[i].toNat : Int) (decide ((s[i].toNat : Int) ≤ 90))) else (laws_plain.j1 k (ofL s) (ofL m) (i : Int) (s[i].toNat : Int) false)) ((s.drop i).all (plainC m) && !s.isEmpty) := by
      intro _ h1 h2
      by_cases c : (s[i].toNat : Int) ≥ 65
      · refine ev_pos c (inner _ ?_)
        rw [h1, Bool.false_or, lt, decide_eq_decide]
        omega
      · refine ev_neg c (inner _ ?_)
        rw [h1, Bool.false_or, lt]
        symm
        rw [decide_eq_false_iff_not]
        omega
    have mid : dg s[i] = false → Ev (fun k => if (s[i].toNat : Int) ≥ 97 then (if (s[i].toNat : Int) ≤ 122 then (laws_plain.j1 k (ofL s) (ofL m) (i : Int) (s[i].toNat : Int) true) else (if (s[i].toNat : Int) ≥ 65 then (laws_plain.j1 k (ofL s) (ofL m) (i : Int) (s[i].toNat : Int) (decide ((s[i].toNat : Int) ≤ 90))) else (laws_plain.j1 k (ofL s) (ofL m) (i : Int) (s[i].toNat : Int) false))) else (if (s[i].toNat : Int) ≥ 65 then (laws_plain.j1 k (ofL s) (ofL m) (i : Int) (s[i].toNat : Int) (decide ((s[i].toNat : Int) ≤ 90))) else (laws_plain.j1 k (ofL s) (ofL m) (i : Int) (s[i].toNat : Int) false))) ((s.drop i).all (plainC m) && !s.isEmpty) := by
      intro h1
      by_cases c : (s[i].toNat : Int) ≥ 97
      · refine ev_pos c ?_
        by_cases c2 : (s[i].toNat : Int) ≤ 122
        · refine ev_pos c2 (inner _ ?_)
          rw [h1, Bool.false_or, lt, decide_eq_true (by omega)]
        · exact ev_neg c2 (low true h1 (by omega))
      · exact ev_neg c (low true h1 (by omega))
    by_cases c : (s[i].toNat : Int) ≥ 48
    · refine ev_pos c ?_
      by_cases c2 : (s[i].toNat : Int) ≤ 57
      · refine ev_pos c2 (inner _ ?_)
        rw [dg, decide_eq_true (by omega), Bool.true_or]
      · exact ev_neg c2 (mid (by rw [dg]; exact decide_eq_false (by omega)))
    · exact ev_neg c (mid (by rw [dg]; exact decide_eq_false (by omega)))
theorem plain_ev (s m : List UInt8) (hs0 : s.length ≤ 140737488351232) (hm : m.length ≤ 1000) : Ev (fun k => laws_plain.f k (ofL s) (ofL m)) (s.all (plainC m) && !s.isEmpty) := plain_l s m hs0 hm s.length 0 (by omega)
end Go.Proofs.YtmhlmkefnmdbcaaDoor.Com

namespace Go.Proofs.YtmhlmkefnmdbcaaDoor.Com
open Go.RowKit Go.Proofs.YtmhlmkefnmdbcaaDoor.Z Go.Proofs.YtmhlmkefnmdbcaaDoor.Evs Go.Proofs.YtmhlmkefnmdbcaaDoor.By Go.Proofs.YtmhlmkefnmdbcaaDoor.Lx Go.Proofs.YtmhlmkefnmdbcaaDoorW.PrintWords Go.Proofs.YtmhlmkefnmdbcaaDoorW.PrintLast
set_option linter.unusedVariables false
set_option linter.unusedSimpArgs false

theorem chainJ (x0 x1 x2 : Int) (h : NoCh x0 x1 x2) : Ev (fun k => laws_chained.j0 k x0 x1 x2 false) true := by
  obtain ⟨_, h2⟩ := h
  refine Ev.step (fun _ => by rw [laws_chained.j0]) (ev_f ?_)
  by_cases c0 : x0 ≥ 0
  · refine ev_pos c0 ?_
    by_cases c1 : x1 ≥ 0
    · refine ev_pos c1 (ev_neg (by omega) ?_)
      by_cases c2 : x0 = 0
      · refine ev_pos c2 (ev_neg ?_ (ev_now rfl))
        intro hh
        have : ¬ ((x2 == 0) = (x1 == 0)) := by simpa using hh
        apply this
        rw [Bool.eq_iff_iff, beq_iff_eq, beq_iff_eq]
        omega
      · refine ev_neg c2 (ev_neg ?_ (ev_now rfl))
        intro hh
        have : x2 = 0 := by simpa using hh
        omega
    · exact ev_neg c1 (ev_now rfl)
  · exact ev_neg c0 (ev_now rfl)
theorem chained_ev {ab bc ac : Int} (h : Chained ab bc ac) : Ev (fun k => laws_chained.f k ab bc ac) true := by
  have n := h.no
  have h1 := n.1
  unfold laws_chained.f
  by_cases c0 : ab ≤ 0
  · refine ev_pos c0 ?_
    by_cases c1 : bc ≤ 0
    · refine ev_pos c1 (ev_neg (by omega) ?_)
      by_cases c2 : ab = 0
      · refine ev_pos c2 ?_
        have e : ((ac == 0) != (bc == 0)) = false := by
          rw [bne_eq_false_iff_eq, Bool.eq_iff_iff, beq_iff_eq, beq_iff_eq]
          omega
        rw [e]
        exact chainJ _ _ _ n
      · refine ev_neg c2 ?_
        have e : ((ac == 0) != false) = false := by
          rw [bne_eq_false_iff_eq]
          exact beq_eq_false_iff_ne.2 (by omega)
        rw [e]
        exact chainJ _ _ _ n
    · exact ev_neg c1 (chainJ _ _ _ n)
  · exact ev_neg c0 (chainJ _ _ _ n)
end Go.Proofs.YtmhlmkefnmdbcaaDoor.Com

namespace Go.Proofs.YtmhlmkefnmdbcaaDoor.Com
open Go Go.RowKit Go.Proofs.YtmhlmkefnmdbcaaDoor.Z Go.Proofs.YtmhlmkefnmdbcaaDoor.Evs Go.Proofs.YtmhlmkefnmdbcaaDoor.By Go.Proofs.YtmhlmkefnmdbcaaDoor.Lx Go.Proofs.YtmhlmkefnmdbcaaDoorW.PrintWords Go.Proofs.YtmhlmkefnmdbcaaDoorW.PrintLast
set_option linter.unusedVariables false
set_option linter.unusedSimpArgs false
theorem chain_lex {x y z x' y' z' : Int} (h : Chained x y z) (h' : Chained x' y' z') : Chained (if x = 0 then x' else x) (if y = 0 then y' else y) (if z = 0 then z' else z) := by
  unfold Chained at h h' ⊢
  split <;> split <;> split <;> omega
theorem chain_Z (a b c : Int) : Chained (Bn.cmpZ a b) (Bn.cmpZ b c) (Bn.cmpZ a c) := by
  unfold Chained Bn.cmpZ
  split <;> split <;> split <;> (try split) <;> (try split) <;> (try split) <;> omega
theorem chain_from (a b c : List Int) : ∀ d i, Chained (cmpFrom a b d i) (cmpFrom b c d i) (cmpFrom a c d i)
  | 0, _ => by
    unfold Chained cmpFrom
    omega
  | d + 1, i => by
    have h := chain_lex (chain_Z (nth a i) (nth b i) (nth c i)) (chain_from a b c d (i + 1))
    exact h
theorem from_more (a b : List Int) : ∀ d e i, a.length ≤ i + d → b.length ≤ i + d → cmpFrom a b (d + e) i = cmpFrom a b d i
  | 0, 0, _, _, _ => rfl
  | 0, e + 1, i, h1, h2 => by
    have n1 : nth a i = 0 := by rw [nth, List.getD_eq_getElem?_getD, List.getElem?_eq_none (by omega)]; rfl
    have n2 : nth b i = 0 := by rw [nth, List.getD_eq_getElem?_getD, List.getElem?_eq_none (by omega)]; rfl
    have ih := from_more a b 0 e (i + 1) (by omega) (by omega)
    rw [Nat.zero_add] at ih ⊢
    have hs : cmpFrom a b (e + 1) i = if Bn.cmpZ (nth a i) (nth b i) = 0 then cmpFrom a b e (i + 1) else Bn.cmpZ (nth a i) (nth b i) := rfl
    rw [hs, n1, n2, if_pos (by rfl), ih]
    rfl
  | d + 1, e, i, h1, h2 => by
    have ih := from_more a b d e (i + 1) (by omega) (by omega)
    have : d + 1 + e = (d + e) + 1 := by omega
    rw [this, cmpFrom, cmpFrom, ih]
theorem lists_from (a b : List Int) (d : Nat) (h1 : a.length ≤ d) (h2 : b.length ≤ d) : cmpLists a b = cmpFrom a b d 0 := by
  have e : d = max a.length b.length + (d - max a.length b.length) := by omega
  rw [cmpLists, e, from_more a b _ _ 0 (by omega) (by omega)]
theorem chain_lists (a b c : List Int) : Chained (cmpLists a b) (cmpLists b c) (cmpLists a c) := by
  have hd : a.length ≤ a.length + b.length + c.length ∧ b.length ≤ a.length + b.length + c.length ∧ c.length ≤ a.length + b.length + c.length := by omega
  rw [lists_from a b _ hd.1 hd.2.1, lists_from b c _ hd.2.1 hd.2.2, lists_from a c _ hd.1 hd.2.2]
  exact chain_from a b c _ 0
def lenC (a b : List Int) : Int := if a.length = b.length then 0 else if b.length < a.length then 1 else -1
theorem chain_len (a b c : List Int) : Chained (lenC a b) (lenC b c) (lenC a c) := by
  unfold Chained lenC
  split <;> split <;> split <;> (try split) <;> (try split) <;> (try split) <;> omega
theorem chain_cran (a b c : List Int) : Chained (cranC a b) (cranC b c) (cranC a c) := chain_lex (chain_lists a b c) (chain_len a b c)
theorem cranAwake_f : laws_cranAwake.f = some true := by decide +kernel
theorem cranCmp_f (a b : ByteArray) (ha : a.size ≤ 100000) (hb : b.size ≤ 100000) : impl_CRANCompare.f a b = some (match crP a, crP b with
  | some x, some y => (cranC x y, true)
  | _, _ => (0, false)) := if_pos ⟨ha, hb⟩
theorem cranParse_f (a : ByteArray) (ha : a.size ≤ 100000) : impl_CRANParse.f a = some (match crP a with
  | some x => (x.map plI, true)
  | none => ([], false)) := if_pos ha
end Go.Proofs.YtmhlmkefnmdbcaaDoor.Com

namespace Go.Proofs.YtmhlmkefnmdbcaaDoor.Pure
open Go.RowKit Go.Proofs.YtmhlmkefnmdbcaaDoor.Z Go.Proofs.YtmhlmkefnmdbcaaDoor.Evs Go.Proofs.YtmhlmkefnmdbcaaDoor.By Go.Proofs.YtmhlmkefnmdbcaaDoor.Com Go.Proofs.YtmhlmkefnmdbcaaDoor.Lx Go.Proofs.YtmhlmkefnmdbcaaDoorW.PrintWords Go.Proofs.YtmhlmkefnmdbcaaDoorW.PrintLast
set_option linter.unusedVariables false
set_option linter.unusedSimpArgs false

theorem plain_b (a : ByteArray) (h : a.size ≤ 1500) : ∃ r, Ev (fun k => laws_plain.f k a (⟨#[46, 45]⟩ : ByteArray)) r := by
  have := plain_ev (bl a) [46, 45] (by rw [bl_length]; omega) (by simp)
  rw [ofL_bl] at this
  exact ⟨_, this⟩
theorem FnCRANOrder : laws_FnCRANOrder.Pure := by
  intro a b c h0 h1 h2
  refine Ev.rounds ?_
  unfold laws_FnCRANOrder.f
  have skip0 : Ev (fun k => laws_FnCRANOrder.j0 k a b c true) true := Ev.step (fun _ => by rw [laws_FnCRANOrder.j0]) (ev_t (ev_now rfl))
  have skip1 : Ev (fun k => laws_FnCRANOrder.j1 k a b c true) true := Ev.step (fun _ => by rw [laws_FnCRANOrder.j1]) (ev_t (ev_now rfl))
  refine ev_ite (fun _ => skip0) (fun _ => ev_ite (fun _ => skip0) (fun _ => ?_))
  cases decide ((c.size : Int) > 2147483647) with
  | true => exact skip0
  | false =>
    refine Ev.step (fun _ => by rw [laws_FnCRANOrder.j0]) (ev_f ?_)
    obtain ⟨r, e, s⟩ := short3 a b c
    refine Ev.bind e ?_
    cases r with
    | false => exact ev_f skip1
    | true =>
      obtain ⟨s0, s1, s2⟩ := s rfl
      have key : Ev (fun k => laws_FnCRANOrder.j1 k a b c false) true := by
        refine Ev.step (fun _ => by rw [laws_FnCRANOrder.j1, cranCmp_f a b (by omega) (by omega), cranCmp_f b c (by omega) (by omega), cranCmp_f a c (by omega) (by omega)]) ?_
        refine ev_f ?_
        cases crP a with
        | none =>
          refine ev_some (ev_some (ev_some (ev_f ?_)))
          refine Ev.step (fun _ => by rw [laws_FnCRANOrder.j2, cranAwake_f]) ?_
          exact ev_t (ev_some (ev_t (ev_f (ev_pos rfl (ev_now rfl)))))
        | some x =>
          cases crP b with
          | none =>
            refine ev_some (ev_some (ev_some (ev_f ?_)))
            refine Ev.step (fun _ => by rw [laws_FnCRANOrder.j2, cranAwake_f]) ?_
            exact ev_t (ev_some (ev_t (ev_f (ev_pos rfl (ev_now rfl)))))
          | some y =>
            cases crP c with
            | none =>
              refine ev_some (ev_some (ev_some (ev_t (ev_f ?_))))
              refine Ev.step (fun _ => by rw [laws_FnCRANOrder.j2, cranAwake_f]) ?_
              exact ev_t (ev_some (ev_t (ev_t (ev_f (ev_pos rfl (ev_now rfl))))))
            | some z =>
              refine ev_some (ev_some (ev_some (ev_t (ev_t ?_))))
              refine Ev.step (fun _ => by rw [laws_FnCRANOrder.j2, cranAwake_f]) ?_
              refine ev_neg (by simp) (ev_some (ev_t ?_))
              exact Ev.bind (chained_ev (chain_cran x y z)) (ev_now rfl)
      obtain ⟨p0, e0⟩ := plain_b a s0
      obtain ⟨p1, e1⟩ := plain_b b s1
      obtain ⟨p2, e2⟩ := plain_b c s2
      refine ev_t (Ev.bind e0 ?_)
      cases p0 with
      | false => exact ev_f skip1
      | true =>
        refine ev_t (Ev.bind e1 ?_)
        cases p1 with
        | false => exact ev_f skip1
        | true =>
          refine ev_t (Ev.bind e2 ?_)
          cases p2 with
          | false => exact skip1
          | true => exact key
end Go.Proofs.YtmhlmkefnmdbcaaDoor.Pure

namespace Go.Proofs.YtmhlmkefnmdbcaaDoor.fnCRANOrder
open Go.ChangeShapes Go.WideShapes Go.ChangeAt Go.RowKit Go.Proofs.YtmhlmkefnmdbcaaDoor.Op Go.Proofs.YtmhlmkefnmdbcaaDoor.Z Go.Proofs.YtmhlmkefnmdbcaaDoorW.PrintWords
open Go.ChangeMaps (open_string shut_string)
set_option linter.unusedVariables false
set_option linter.unusedSimpArgs false
theorem own : ownKnob Tryd.prog.godebug = none := by kernel_rfl
theorem laidOut : laidOutB Tryd.prog = true := by kernel_rfl
noncomputable def low (os : Os) : Nat := (World.settled Tryd.prog os).heap.size
def put (h : Array Obj) (g : Nat) (cs : Array Value) : Array Obj := h.modify g fun
  | .cells _ t frozen => .cells cs t frozen
  | o => o
/-- A world for the witness: the listed variables hold what their initialisers lay. -/
noncomputable def laidWorld (os : Os) : World :=
  let w0 := World.holding Tryd.prog os ⟨#[(.cells #[.string ⟨#[69, 79, 70]⟩] 178), (.cells #[.string ⟨#[110, 117, 109, 98, 101, 114, 32, 104, 97, 115, 32, 110, 111, 32, 100, 105, 103, 105, 116, 115]⟩] 178), (.cells #[.string ⟨#[39, 95, 39, 32, 109, 117, 115, 116, 32, 115, 101, 112, 97, 114, 97, 116, 101, 32, 115, 117, 99, 99, 101, 115, 115, 105, 118, 101, 32, 100, 105, 103, 105, 116, 115]⟩] 178), (.cells #[.string ⟨#[105, 110, 118, 97, 108, 105, 100, 32, 118, 101, 114, 115, 105, 111, 110]⟩] 178), (.cells #[.string ⟨#[118, 101, 114, 115, 105, 111, 110, 32, 105, 115, 32, 110, 111, 116, 32, 111, 102, 32, 116, 104, 101, 32, 115, 97, 109, 101, 32, 101, 99, 111, 115, 121, 115, 116, 101, 109]⟩] 178)], #[], []⟩
  { w0 with heap := put (put (put (put (put (w0.heap) 2 #[.iface 163 (.pointer (some ⟨low os + 0, 0, none⟩))]) 5 #[.iface 163 (.pointer (some ⟨low os + 1, 0, none⟩))]) 4 #[.iface 163 (.pointer (some ⟨low os + 2, 0, none⟩))]) 0 #[.iface 163 (.pointer (some ⟨low os + 3, 0, none⟩))]) 1 #[.iface 163 (.pointer (some ⟨low os + 4, 0, none⟩))] }
set_option maxRecDepth 100000 in
theorem laid_met (os : Os) : laidMet Tryd.prog Rows.fnCRANOrderRow.laid ((laidWorld os).forCall (fun _ _ => 0) ⟨#[], #[.string ByteArray.empty, .string ByteArray.empty, .string ByteArray.empty], []⟩).memory :=
  laidMet_of_run3 8 (by kernel_rfl) (by kernel_rfl) (by kernel_rfl)
set_option maxRecDepth 100000 in
theorem reads (os : Os) {H : Type} (enc : TypeId × Value → H) : DataW.whole enc Tryd.prog ((laidWorld os).forCall (fun _ _ => 0) ⟨#[], #[.string ByteArray.empty, .string ByteArray.empty, .string ByteArray.empty], []⟩).memory Tryd.f6.params.toList Rows.fnCRANOrderSpec.vars false #[.string ByteArray.empty, .string ByteArray.empty, .string ByteArray.empty].toList 8 = some ([.lit (.string []), .lit (.string []), .lit (.string [])], [], []) := by kernel_rfl
set_option maxRecDepth 100000 in
theorem lifted (os : Os) (started : os.Started) (H : Type) (enc : TypeId × Value → H) (F : Stop.Interp) :
    ReturnsInHanded {} Tryd.checked os 6 .any ((OpenSpec.ofChange Rows.fnCRANOrderSpec).preRow enc Tryd.prog Tryd.f6 Rows.fnCRANOrderRow.domain false Rows.fnCRANOrderRow.laid) (((OpenSpec.ofChange Rows.fnCRANOrderSpec).at F).post enc Tryd.prog Tryd.f6 false true false false) := by
  refine returnsInHanded_of_row (C := Tryd.checked) (s := OpenSpec.ofChange Rows.fnCRANOrderSpec) own started (by kernel_rfl) Tryd.func6
    (witness_row_atRef (enc := enc) (C := Tryd.checked) false (laidWorld os) #[.string ByteArray.empty, .string ByteArray.empty, .string ByteArray.empty] rfl (by kernel_rfl) (by kernel_rfl) (by kernel_rfl)
      (OpenSpec.preRow_of_cond 8 (reads os enc) (by kernel_rfl) (fun k hk => by cases hk) (by kernel_rfl) (laid_met os))) ?_
  intro W base args ds gs before hval0 hW hcnd hk0 hsz0 hL hSh hho
  have hsz : (DataW.weightsEach Tryd.prog (Tryd.f6.params.toList ++ Rows.fnCRANOrderSpec.plain.varTypes Tryd.prog) (ds ++ gs)).all (· ≤ reachBytes) = true := hsz0
  have hval : ∀ (j : Nat) t v, Tryd.f6.params[j]? = some t → args[j]? = some v → Value.okWide Tryd.prog W .any base t v := hval0
  have hW' := hW
  obtain ⟨p, q, hA0, hV, rfl, hfz, hnd⟩ := hW
  have hA : DataW.TrodAll enc Tryd.prog W 0 (fun _ => true) true Tryd.f6.params.toList args.toList ds p := hA0
  rw [Tryd.params6] at hA hval hsz
  obtain ⟨v0, vs0, d0, ds0, p0, q0, hargs, rfl, rfl, h0, r0⟩ := trodAll_cons hA
  obtain ⟨v1, vs1, d1, ds1, p1, q1, rfl, rfl, rfl, h1, r1⟩ := trodAll_cons r0
  obtain ⟨v2, vs2, d2, ds2, p2, q2, rfl, rfl, rfl, h2, r2⟩ := trodAll_cons r1
  obtain ⟨rfl, rfl, rfl⟩ := trodAll_nil r2
  obtain rfl : args = #[v0, v1, v2] := by cases args; simp_all
  obtain ⟨rfl, rfl⟩ := trodVars_none hV
  obtain ⟨a0, rfl, rfl, rfl, y0⟩ := open_string Tryd.underlying9 (hval 0 9 v0 rfl rfl) h0
  have w0 : a0.size ≤ 140737488351232 := by
    have z := sized_string hsz (j := 0) (t := 9) rfl rfl
    rw [Array.length_toList] at z
    exact z
  obtain ⟨a1, rfl, rfl, rfl, y1⟩ := open_string Tryd.underlying9 (hval 1 9 v1 rfl rfl) h1
  have w1 : a1.size ≤ 140737488351232 := by
    have z := sized_string hsz (j := 1) (t := 9) rfl rfl
    rw [Array.length_toList] at z
    exact z
  obtain ⟨a2, rfl, rfl, rfl, y2⟩ := open_string Tryd.underlying9 (hval 2 9 v2 rfl rfl) h2
  have w2 : a2.size ≤ 140737488351232 := by
    have z := sized_string hsz (j := 2) (t := 9) rfl rfl
    rw [Array.length_toList] at z
    exact z
  clear hA0 hval0 hsz0 hsz
  refine (laws_FnCRANOrder.walk Pure.FnCRANOrder a0 a1 a2 W w0 w1 w2  (Gw.gw_of (l := Rows.fnCRANOrderRow.laid) hL (List.Mem.head _) (List.Mem.tail _ (List.Mem.head _)) (List.Mem.tail _ (List.Mem.tail _ (List.Mem.tail _ (List.Mem.head _)))))).mono fun e W' ⟨he, bel⟩ => ?_
  subst he
  exact ⟨_, rfl, _, _, _, [], _, [], hW', trodAll_mk1 (shut_bool Tryd.underlying4 _), (trodAll_cons_mk (shut_string Tryd.underlying9 y0) (trodAll_cons_mk (shut_string Tryd.underlying9 y1) (trodAll_cons_mk (shut_string Tryd.underlying9 y2) trodAll_mk0))), rfl, bel.frame _, fun h => by cases h⟩
theorem said : Rows.FnCRANOrderSaid :=
  OpenClaim.holds_of_cond 6 Tryd.f6 rfl rfl rfl rfl rfl rfl rfl ⟨rfl, rfl, rfl, rfl, rfl⟩ rfl rfl rfl rfl rfl (by kernel_rfl) Tryd.func6 (by kernel_rfl)
    (of_decide_eq_true (by kernel_rfl)) (by unfold Func.isWrapper; first | (rw [if_pos (by decide +kernel)]; kernel_rfl) | (rw [if_neg (by decide +kernel)]; exact ⟨rfl, rfl⟩))
    (fun os started H enc _ F => by rw [OpenClaim.pre_eq_preRow]; exact lifted os started H enc F)
theorem plain (f : FuncId) (fn : Func) (hf : Tryd.pinned.checked.prog.funcNamed "pub-seniority/laws.FnCRANOrder" = some f) (hfn : Tryd.pinned.checked.prog.funcs[f]? = some fn) :
    true = Tryd.pinned.checked.prog.looks [] ∧ ∀ (j : Nat) t, fn.params[j]? = some t → Tryd.pinned.checked.prog.wantsStandIn t = false := by
  obtain rfl : f = 6 := Option.some.inj ((show Tryd.prog.funcNamed "pub-seniority/laws.FnCRANOrder" = some 6 by kernel_rfl).symm.trans hf) |>.symm
  obtain rfl : fn = Tryd.f6 := (Option.some.inj (Tryd.func6.symm.trans hfn)).symm
  refine ⟨by kernel_rfl, fun j t ht => ?_⟩
  rw [Tryd.params6] at ht
  have h2 : ([9, 9, 9] : List TypeId).all (fun t => !Tryd.prog.wantsStandIn t) = true := by kernel_rfl
  have h3 := List.all_eq_true.1 h2 t (by have := Array.mem_of_getElem? ht; simpa using this)
  exact (show Tryd.prog.wantsStandIn t = false from by simpa using h3)
theorem proved : Rows.FnCRANOrderCardSaid :=
  Claim7.holds_tied_plain_at .later [] _ _ _ _ said (fun _ h => by cases h) (by kernel_rfl) (fun _ h => by cases h) fnCRANOrder_row_tie rfl ⟨rfl, rfl⟩ (by kernel_rfl) rfl plain (by kernel_rfl)
#print axioms proved
end Go.Proofs.YtmhlmkefnmdbcaaDoor.fnCRANOrder
namespace Go.Proofs.YtmhlmkefnmdbcaaDoor
/-- The card, under a short name, for the claim. -/
theorem fnCRANOrder_holds : Rows.FnCRANOrderCardSaid := fnCRANOrder.proved
end Go.Proofs.YtmhlmkefnmdbcaaDoor
