/- FnDebianOrder. No condition beyond the row's own. -/
import Derived.Test.YtkcciinapkeaiaaDoorZ1
import Derived.Test.YtkcciinapkeaiaaDoorEv
import Derived.Test.YtkcciinapkeaiaaDoorBy
import Derived.Test.YtkcciinapkeaiaaDoorZ5
import Derived.Test.YtkcciinapkeaiaaDoorBn
import Derived.Test.YtkcciinapkeaiaaDoorBv
import Derived.Test.YtkcciinapkeaiaaDoorLx
import Derived.Test.YtkcciinapkeaiaaDoorZ6
import Derived.Test.YtkcciinapkeaiaaDoorZ11
import Derived.Test.YtkcciinapkeaiaaDoorZ12
import Derived.KernelRfl
import Derived.Test.YtkcciinapkeaiaaDoorZ14
import Derived.Test.YtkcciinapkeaiaaDoorRows
import Derived.Test.YtkcciinapkeaiaaDoorOp
import Derived.Test.YtkcciinapkeaiaaDoorCards
import Derived.Test.YtkcciinapkeaiaaDoorTie
import Derived.Test.YtkcciinapkeaiaaDoorGt
import Derived.Deep.DeepHandedRow
import Derived.Deep.DeepWitnessRowRef
import Derived.Lay
import Derived.WalkKit
import Derived.ProofKit
import Derived.OpenShut
import Derived.ShutString
import Derived.ChangeOld
import Derived.Below
import Derived.SizedLaws
namespace Go.Proofs.YtkcciinapkeaiaaDoor.Com
open Go.RowKit Go.Proofs.YtkcciinapkeaiaaDoor.Z Go.Proofs.YtkcciinapkeaiaaDoor.Evs Go.Proofs.YtkcciinapkeaiaaDoorW.PrintWords Go.Proofs.YtkcciinapkeaiaaDoorW.PrintLast
set_option linter.unusedVariables false
set_option linter.unusedSimpArgs false

/-- Ascii: an answer; where it is true every byte is below 128. -/
theorem ascii_l (s : ByteArray) (hs : s.size ≤ 140737488351232) (d : Nat) : ∀ i : Nat, i + d = s.size → ∃ r, Ev (fun k => spec_Ascii.l0 k s (i : Int)) r ∧ (r = true → ∀ j : Nat, i ≤ j → (h : j < s.size) → (s[j]'h).toNat < 128) := by
 induction d with
 | zero => intro i h; exact ⟨true, Ev.step (fun _ => by rw [spec_Ascii.l0]) (ev_neg (by omega) (Ev.now _)), fun _ j h1 h2 => by omega⟩
 | succ d ih =>
  intro i h
  obtain ⟨r, hr, hq⟩ := ih (i + 1) (by omega)
  have hb := bt_nat s i (by omega)
  by_cases c : bt s (i : Int) > 127
  ·exact ⟨false, Ev.step (fun _ => by rw [spec_Ascii.l0]) (ev_pos (by omega) (ev_pos (by omega) (ev_pos c (Ev.now _)))), fun h => by cases h⟩
  ·refine ⟨r, Ev.step (fun _ => by rw [spec_Ascii.l0, wrap_nat (by omega)]) (ev_pos (by omega) (ev_pos (by omega) (ev_neg c hr))), fun h j h1 h2 => ?_⟩
   by_cases e : j = i
   ·subst e; omega
   ·exact hq h j (by omega) h2
theorem ascii_ev (s : ByteArray) (hs : s.size ≤ 140737488351232) : ∃ r, Ev (fun k => spec_Ascii.f k s) r ∧ (r = true → ∀ j : Nat, (h : j < s.size) → (s[j]'h).toNat < 128) := by
 obtain ⟨r, hr, hq⟩ := ascii_l s hs s.size 0 (by omega)
 exact ⟨r, hr, fun h j hj => hq h j (by omega) hj⟩
end Go.Proofs.YtkcciinapkeaiaaDoor.Com

namespace Go.Proofs.YtkcciinapkeaiaaDoor.Com
open Go.RowKit Go.Proofs.YtkcciinapkeaiaaDoor.Z Go.Proofs.YtkcciinapkeaiaaDoor.Evs Go.Proofs.YtkcciinapkeaiaaDoor.By Go.Proofs.YtkcciinapkeaiaaDoorW.PrintWords Go.Proofs.YtkcciinapkeaiaaDoorW.PrintLast
set_option linter.unusedVariables false
set_option linter.unusedSimpArgs false

/-- The place of the first byte of a sort; -1 without one. -/
def idxI (c : UInt8) (l : List UInt8) : Int := if (l.dropWhile (· != c)) = [] then -1 else ((l.takeWhile (· != c)).length : Int)
theorem byte_eq (a c : UInt8) : ((a.toNat : Int) = (c.toNat : Int)) ↔ a = c := ⟨fun h => UInt8.toNat_inj.1 (by omega), fun h => by rw [h]⟩
theorem idx_split (c : UInt8) (l : List UInt8) : ∀ i : Nat, (∀ x ∈ l.take i, (x != c) = true) → l.takeWhile (· != c) = l.take i ++ (l.drop i).takeWhile (· != c) ∧ l.dropWhile (· != c) = (l.drop i).dropWhile (· != c) := by
 intro i h
 have e := List.take_append_drop i l
 constructor
 ·conv => lhs; rw [← e]
  exact List.takeWhile_append_of_pos h
 ·conv => lhs; rw [← e]
  exact List.dropWhile_append_of_pos h
theorem index_l (c : UInt8) (l : List UInt8) (hl : l.length ≤ 140737488351232) (d : Nat) : ∀ i : Nat, i + d = l.length → (∀ x ∈ l.take i, (x != c) = true) → Ev (fun k => spec_indexOf.l0 k (ofL l) (c.toNat : Int) (i : Int)) (idxI c l) := by
 have hs := ofL_size l
 induction d with
 | zero =>
  intro i h hp
  refine Ev.step (fun _ => by rw [spec_indexOf.l0]) (ev_neg (by omega) (ev_now ?_))
  have := (idx_split c l i hp).2
  rw [List.drop_of_length_le (by omega)] at this
  rw [idxI, if_pos (show List.dropWhile (fun x => x != c) l = [] from this)]
 | succ d ih =>
  intro i h hp
  have hi : i < l.length := by omega
  have hc := bt_ofL l i hi
  refine Ev.step (fun _ => by rw [spec_indexOf.l0, hc, wrap_nat (by omega)]) (ev_pos (by omega) (ev_pos (by omega) ?_))
  by_cases e : l[i]'hi = c
  ·refine ev_pos ((byte_eq _ _).2 e) (ev_now ?_)
   have h1 := idx_split c l i hp
   rw [List.drop_eq_getElem_cons hi, List.dropWhile_cons, List.takeWhile_cons, if_neg (by simp [e]), if_neg (by simp [e])] at h1
   have h2 : ¬ List.dropWhile (fun x => x != c) l = [] := fun hh => by
    have := h1.2.symm.trans hh
    cases this
   rw [idxI, if_neg h2, h1.1, List.append_nil, List.length_take]
   omega
  ·refine ev_neg (fun h => e ((byte_eq _ _).1 h)) (ih (i + 1) (by omega) (fun x hx => ?_))
   rw [List.take_succ_eq_append_getElem hi, List.mem_append] at hx
   rcases hx with hx | hx
   ·exact hp x hx
   ·simp at hx
    subst hx
    simpa using e
theorem index_ev (c : UInt8) (l : List UInt8) (hl : l.length ≤ 140737488351232) : Ev (fun k => spec_indexOf.f k (ofL l) (c.toNat : Int)) (idxI c l) := index_l c l hl l.length 0 (by omega) (by simp)
end Go.Proofs.YtkcciinapkeaiaaDoor.Com

namespace Go.Proofs.YtkcciinapkeaiaaDoor.Com
open Go Go.RowKit Go.Proofs.YtkcciinapkeaiaaDoor.Z Go.Proofs.YtkcciinapkeaiaaDoor.Evs Go.Proofs.YtkcciinapkeaiaaDoor.By Go.Proofs.YtkcciinapkeaiaaDoor.Lx Go.Proofs.YtkcciinapkeaiaaDoorW.PrintWords Go.Proofs.YtkcciinapkeaiaaDoorW.PrintLast
set_option linter.unusedVariables false
set_option linter.unusedSimpArgs false
theorem chain_lex {x y z x' y' z' : Int} (h : Chained x y z) (h' : Chained x' y' z') : Chained (if x = 0 then x' else x) (if y = 0 then y' else y) (if z = 0 then z' else z) := by
 unfold Chained at h h' ⊢
 split <;> split <;> split <;> omega
theorem chain_Z (a b c : Int) : Chained (Bn.cmpZ a b) (Bn.cmpZ b c) (Bn.cmpZ a c) := by
 unfold Chained Bn.cmpZ
 split <;> split <;> split <;> (try split) <;> (try split) <;> (try split) <;> omega
theorem cmpZ_self (a : Int) : Bn.cmpZ a a = 0 := by unfold Bn.cmpZ; split <;> (try split) <;> omega
theorem cmpZ_neg (a b : Int) : Bn.cmpZ b a = -Bn.cmpZ a b := by unfold Bn.cmpZ; split <;> (try split) <;> (try split) <;> omega
theorem wF_nil : ∀ d, wF d [] [] = 0
 | 0 => rfl
 | d + 1 => by
  rw [wF, if_pos (cmpZ_self _)]
  exact wF_nil d
theorem wF_more : ∀ (d e : Nat) (a b : List Int), a.length ≤ d → b.length ≤ d → wF (d + e) a b = wF d a b
 | 0, e, a, b, h1, h2 => by
  rw [List.eq_nil_of_length_eq_zero (Nat.le_zero.1 h1), List.eq_nil_of_length_eq_zero (Nat.le_zero.1 h2), wF_nil, wF_nil]
 | d + 1, e, a, b, h1, h2 => by
  have : d + 1 + e = (d + e) + 1 := by omega
  rw [this, wF, wF, wF_more d e a.tail b.tail (by rw [List.length_tail]; omega) (by rw [List.length_tail]; omega)]
theorem wF_chain : ∀ (d : Nat) (a b c : List Int), Chained (wF d a b) (wF d b c) (wF d a c)
 | 0, a, b, c => by
  unfold Chained wF
  omega
 | d + 1, a, b, c => chain_lex (chain_Z (a.headD 0) (b.headD 0) (c.headD 0)) (wF_chain d a.tail b.tail c.tail)
theorem wF_self : ∀ (d : Nat) (a : List Int), wF d a a = 0
 | 0, _ => rfl
 | d + 1, a => by
  rw [wF, if_pos (cmpZ_self _)]
  exact wF_self d a.tail
theorem wF_neg : ∀ (d : Nat) (a b : List Int), wF d b a = -wF d a b
 | 0, _, _ => rfl
 | d + 1, a, b => by
  rw [wF, wF, wF_neg d a.tail b.tail, cmpZ_neg (a.headD 0) (b.headD 0)]
  split <;> split <;> omega
theorem dbC_at (a b : List UInt8) (d : Nat) (h1 : a.length ≤ d) (h2 : b.length ≤ d) : dbC a b = wF d (a.map dbw) (b.map dbw) := by
 have : d = max a.length b.length + (d - max a.length b.length) := by omega
 rw [this, wF_more _ _ _ _ (by rw [List.length_map]; omega) (by rw [List.length_map]; omega)]
 rfl
theorem dbC_chain (a b c : List UInt8) : Chained (dbC a b) (dbC b c) (dbC a c) := by
 rw [dbC_at a b (a.length + b.length + c.length) (by omega) (by omega), dbC_at b c (a.length + b.length + c.length) (by omega) (by omega), dbC_at a c (a.length + b.length + c.length) (by omega) (by omega)]
 exact wF_chain _ _ _ _
theorem dbC_self (a : List UInt8) : dbC a a = 0 := wF_self _ _
theorem dbC_neg (a b : List UInt8) : dbC b a = -dbC a b := by
 unfold dbC
 rw [Nat.max_comm, wF_neg]
theorem dbF_nil : ∀ d, dbF d [] [] = 0
 | 0 => rfl
 | d + 1 => by rw [dbF, if_pos ⟨rfl, rfl⟩]
/-- The comparison without its test of the end. -/
theorem dbF_step (d : Nat) (a b : List UInt8) : dbF (d + 1) a b = if dbC (dbN a) (dbN b) = 0 then (if Bn.cmpZ (Bv.decV (dbD a)) (Bv.decV (dbD b)) = 0 then dbF d (dbT a) (dbT b) else Bn.cmpZ (Bv.decV (dbD a)) (Bv.decV (dbD b))) else dbC (dbN a) (dbN b) := by
 by_cases h : a = [] ∧ b = []
 ·obtain ⟨rfl, rfl⟩ := h
  rw [dbF_nil, if_pos (dbC_self _), if_pos (cmpZ_self _)]
  exact (dbF_nil d).symm
 ·rw [dbF, if_neg h]
theorem dbF_more : ∀ (d e : Nat) (a b : List UInt8), a.length + b.length ≤ d → dbF (d + e) a b = dbF d a b
 | 0, e, a, b, h => by
  rw [List.eq_nil_of_length_eq_zero (l := a) (by omega), List.eq_nil_of_length_eq_zero (l := b) (by omega), dbF_nil, dbF_nil]
 | d + 1, e, a, b, h => by
  by_cases hn : a = [] ∧ b = []
  ·rw [hn.1, hn.2, dbF_nil, dbF_nil]
  ·have : d + 1 + e = (d + e) + 1 := by omega
   have hl : (dbT a).length + (dbT b).length ≤ d := by
    have h1 := dbT_le a
    have h2 := dbT_le b
    by_cases ha : a = []
    ·have := dbT_less (l := b) (fun hb => hn ⟨ha, hb⟩)
     omega
    ·have := dbT_less ha
     omega
   rw [this, dbF_step, dbF_step, dbF_more d e _ _ hl]
theorem dbP_at (a b : List UInt8) (d : Nat) (h : a.length + b.length ≤ d) : dbP a b = dbF d a b := by
 have : d = (a.length + b.length) + (d - (a.length + b.length)) := by omega
 rw [this, dbF_more _ _ _ _ (Nat.le_refl _)]
 rfl
theorem dbF_chain : ∀ (d : Nat) (a b c : List UInt8), Chained (dbF d a b) (dbF d b c) (dbF d a c)
 | 0, a, b, c => by
  unfold Chained dbF
  omega
 | d + 1, a, b, c => by
  rw [dbF_step, dbF_step, dbF_step]
  exact chain_lex (dbC_chain _ _ _) (chain_lex (chain_Z _ _ _) (dbF_chain d _ _ _))
theorem dbP_chain (a b c : List UInt8) : Chained (dbP a b) (dbP b c) (dbP a c) := by
 rw [dbP_at a b (a.length + b.length + c.length) (by omega), dbP_at b c (a.length + b.length + c.length) (by omega), dbP_at a c (a.length + b.length + c.length) (by omega)]
 exact dbF_chain _ _ _ _
theorem dbF_neg : ∀ (d : Nat) (a b : List UInt8), dbF d b a = -dbF d a b
 | 0, _, _ => rfl
 | d + 1, a, b => by
  rw [dbF_step, dbF_step, dbF_neg d (dbT a) (dbT b), cmpZ_neg (Bv.decV (dbD a)), dbC_neg (dbN a)]
  split <;> split <;> (try split) <;> (try split) <;> omega
theorem dbP_neg (a b : List UInt8) : dbP b a = -dbP a b := by
 unfold dbP
 rw [Nat.add_comm, dbF_neg]
theorem dbP_self (a : List UInt8) : dbP a a = 0 := by have := dbP_neg a a; omega
end Go.Proofs.YtkcciinapkeaiaaDoor.Com

namespace Go.Proofs.YtkcciinapkeaiaaDoor.Com
open Go Go.RowKit Go.Proofs.YtkcciinapkeaiaaDoor.Z Go.Proofs.YtkcciinapkeaiaaDoor.Evs Go.Proofs.YtkcciinapkeaiaaDoor.By Go.Proofs.YtkcciinapkeaiaaDoor.Lx Go.Proofs.YtkcciinapkeaiaaDoorW.PrintWords Go.Proofs.YtkcciinapkeaiaaDoorW.PrintLast
set_option linter.unusedVariables false
set_option linter.unusedSimpArgs false
theorem blank_f (c : UInt8) : spec_debBlank.f (c.toNat : Int) = some (Lib.isSp c) := by
 have hu : ∀ n : UInt8, (c == n) = decide (c.toNat = n.toNat) := fun n => by
  rw [Bool.eq_iff_iff, beq_iff_eq, decide_eq_true_eq]
  exact ⟨fun h => by rw [h], fun h => UInt8.toNat_inj.1 h⟩
 unfold spec_debBlank.f Lib.isSp
 rw [hu 9, hu 10, hu 11, hu 12, hu 13, hu 32]
 have n9 : (9 : UInt8).toNat = 9 := rfl
 have n10 : (10 : UInt8).toNat = 10 := rfl
 have n11 : (11 : UInt8).toNat = 11 := rfl
 have n12 : (12 : UInt8).toNat = 12 := rfl
 have n13 : (13 : UInt8).toNat = 13 := rfl
 have n32 : (32 : UInt8).toNat = 32 := rfl
 rw [n9, n10, n11, n12, n13, n32]
 by_cases h1 : (c.toNat : Int) = 32
 ·rw [if_pos h1, decide_eq_true (show c.toNat = 32 by omega), Bool.or_true]
 ·rw [if_neg h1]
  by_cases h2 : (c.toNat : Int) ≥ 9
  ·rw [if_pos h2]
   congr 1
   rw [Bool.eq_iff_iff]
   simp only [Bool.or_eq_true, decide_eq_true_eq]
   omega
  ·rw [if_neg h2]
   congr 1
   symm
   rw [Bool.eq_false_iff]
   intro h
   simp only [Bool.or_eq_true, decide_eq_true_eq] at h
   omega
def trR (l : List UInt8) : List UInt8 := (l.reverse.dropWhile Lib.isSp).reverse
theorem trR_snoc (l : List UInt8) (c : UInt8) : trR (l ++ [c]) = if Lib.isSp c = true then trR l else l ++ [c] := by
 unfold trR
 rw [List.reverse_append, List.reverse_singleton, List.singleton_append, List.dropWhile_cons]
 split
 ·rfl
 ·rw [List.reverse_cons, List.reverse_reverse]
theorem trimR_l : ∀ (n : Nat) (l : List UInt8), l.length = n → n ≤ 100000 → Ev (fun k => spec_debTrim.l1 k (ofL l)) (ofL (trR l))
 | 0, l, h, hn => by
  have hl : l = [] := List.eq_nil_of_length_eq_zero h
  subst hl
  refine Ev.step (fun _ => by rw [spec_debTrim.l1]) ?_
  exact ev_neg (by rw [ofL_size]; simp) (ev_now rfl)
 | n + 1, l, h, hn => by
  rcases List.eq_nil_or_concat l with rfl | ⟨L, c, rfl⟩
  ·simp at h
  ·rw [List.concat_eq_append] at h ⊢
   have hL : L.length = n := by simpa using h
   have hs : (ofL (L ++ [c])).size = n + 1 := by rw [ofL_size]; exact h
   have hw : wrap64 (((ofL (L ++ [c])).size : Int) - 1) = (n : Int) := by rw [hs, wrap_in (by omega) (by omega)]; omega
   have hb : bt (ofL (L ++ [c])) (n : Int) = (c.toNat : Int) := by
    rw [bt_ofL _ n (by rw [h]; omega)]
    congr 2
    subst hL
    simp
   refine Ev.step (fun _ => by rw [spec_debTrim.l1, hw, hb, blank_f, hs]) (ev_pos (by omega) (ev_pos (by omega) (ev_pos (by omega) (ev_some ?_))))
   rw [trR_snoc]
   by_cases hc : Lib.isSp c = true
   ·rw [if_pos hc]
    refine ev_pos hc (ev_pos (by omega) ?_)
    have he : (ofL (L ++ [c])).extract 0 ((n : Int)).toNat = ofL L := by
     rw [ofL_extract, Int.toNat_natCast, List.drop_zero, List.take_left' hL]
    rw [he]
    exact trimR_l n L hL (by omega)
   ·rw [if_neg hc]
    exact ev_neg hc (ev_now rfl)
theorem trim_l : ∀ (n : Nat) (l : List UInt8), l.length = n → n ≤ 100000 → Ev (fun k => spec_debTrim.l0 k (ofL l)) (ofL (Lib.trimSpace l))
 | 0, l, h, hn => by
  have hl : l = [] := List.eq_nil_of_length_eq_zero h
  subst hl
  refine Ev.step (fun _ => by rw [spec_debTrim.l0]) ?_
  refine ev_neg (by rw [ofL_size]; simp) ?_
  exact Ev.step (fun _ => by rw [spec_debTrim.j1]) (trimR_l 0 [] rfl (by omega))
 | n + 1, l, h, hn => by
  cases l with
  | nil => simp at h
  | cons c r =>
   have hr : r.length = n := by simpa using h
   have hs : (ofL (c :: r)).size = n + 1 := by rw [ofL_size]; exact h
   have hb : bt (ofL (c :: r)) 0 = (c.toNat : Int) := bt_ofL (c :: r) 0 (by simp)
   refine Ev.step (fun _ => by rw [spec_debTrim.l0, hb, blank_f, hs]) (ev_pos (by omega) (ev_pos (by omega) (ev_some ?_)))
   by_cases hc : Lib.isSp c = true
   ·refine ev_pos hc (ev_pos (by omega) ?_)
    have he : (ofL (c :: r)).extract 1 (n + 1) = ofL r := by
     rw [ofL_extract, List.take_of_length_le (by rw [h]; omega)]
     rfl
    rw [he]
    refine ev_eq (trim_l n r hr (by omega)) ?_
    unfold Lib.trimSpace
    rw [List.dropWhile_cons, if_pos hc]
   ·refine ev_neg hc ?_
    refine ev_eq (Ev.step (fun _ => by rw [spec_debTrim.j1]) (trimR_l (n + 1) (c :: r) h hn)) ?_
    unfold Lib.trimSpace trR
    rw [List.dropWhile_cons, if_neg hc]
theorem trim_ev (l : List UInt8) (hl : l.length ≤ 100000) : Ev (fun k => spec_debTrim.f k (ofL l)) (ofL (Lib.trimSpace l)) := trim_l l.length l rfl hl
theorem trim_le (l : List UInt8) : (Lib.trimSpace l).length ≤ l.length := by
 unfold Lib.trimSpace
 rw [List.length_reverse]
 refine Nat.le_trans (List.dropWhile_sublist _).length_le ?_
 rw [List.length_reverse]
 exact (List.dropWhile_sublist _).length_le
theorem idxI_has (c : UInt8) (l : List UInt8) (h : idxI c l < 0) : l.contains c = false := by
 unfold idxI at h
 split at h
 ·rename_i h1
  exact (drop_nil_iff c l).1 h1
 ·omega
/-- A known text: no byte beyond 127, no byte 0. -/
def KnD (l : List UInt8) : Prop := (∀ c ∈ l, c.toNat < 128) ∧ l.contains 0 = false
theorem known_ev (l : List UInt8) (hl : l.length ≤ 100000) : ∃ b, Ev (fun k => spec_DebianKnown.f k (ofL l)) b ∧ (b = true → KnD l) := by
 obtain ⟨r, hr, hq⟩ := ascii_ev (ofL l) (by rw [ofL_size]; omega)
 have hi := index_ev 0 l (by omega)
 have h0 : (((0 : UInt8).toNat : Nat) : Int) = 0 := rfl
 rw [h0] at hi
 have hz := index_ev 58 (Lib.trimSpace l) (by have := trim_le l; omega)
 have h58 : (((58 : UInt8).toNat : Nat) : Int) = 58 := rfl
 rw [h58] at hz
 have tail : ∀ s : Bool, ∃ b, Ev (fun k => (spec_Ascii.f k (ofL l)).bind fun t => (if t = true then ((spec_indexOf.f k (ofL l) 0).bind fun t2 => (if t2 < 0 then (some (!s)) else (some false))) else (some false))) b ∧ (b = true → KnD l) := by
  intro s
  cases r with
  | false => exact ⟨false, Ev.bind hr (ev_f (ev_now rfl)), fun h => by cases h⟩
  | true =>
   by_cases hn : idxI 0 l < 0
   ·refine ⟨!s, Ev.bind hr (ev_t (Ev.bind hi (ev_pos hn (ev_now rfl)))), fun _ => ⟨fun c hc => ?_, idxI_has 0 l hn⟩⟩
    obtain ⟨i, h1, rfl⟩ := List.getElem_of_mem hc
    exact hq rfl i (by rw [ofL_size]; exact h1)
   ·exact ⟨false, Ev.bind hr (ev_t (Ev.bind hi (ev_neg hn (ev_now rfl)))), fun h => by cases h⟩
 unfold spec_DebianKnown.f
 obtain ⟨b0, e0, q0⟩ := tail false
 by_cases hs : ((ofL (Lib.trimSpace l)).size : Int) > 0
 ·obtain ⟨b1, e1, q1⟩ := tail (decide (idxI 58 (Lib.trimSpace l) ≥ 0))
  by_cases h43 : bt (ofL (Lib.trimSpace l)) 0 = 43
  ·exact ⟨b1, Ev.bind (trim_ev l hl) (ev_pos hs (ev_pos (by omega) (ev_pos h43 (Ev.bind hz e1)))), q1⟩
  ·by_cases h45 : bt (ofL (Lib.trimSpace l)) 0 = 45
   ·exact ⟨b1, Ev.bind (trim_ev l hl) (ev_pos hs (ev_pos (by omega) (ev_neg h43 (ev_pos h45 (Ev.bind hz e1))))), q1⟩
   ·exact ⟨b0, Ev.bind (trim_ev l hl) (ev_pos hs (ev_pos (by omega) (ev_neg h43 (ev_neg h45 e0)))), q0⟩
 ·exact ⟨b0, Ev.bind (trim_ev l hl) (ev_neg hs e0), q0⟩
theorem known_b (a : ByteArray) (h : a.size ≤ 1500) : ∃ r, Ev (fun k => spec_DebianKnown.f k a) r ∧ (r = true → KnD (bl a)) := by
 have := known_ev (bl a) (by rw [bl_length]; omega)
 rw [ofL_bl] at this
 exact this
theorem asc_bl {a : ByteArray} (h : ∀ c ∈ bl a, c.toNat < 128) : ascB a = true := by
 have := asc_of h
 rw [ofL_bl] at this
 exact this
theorem parts_f {a b : ByteArray} (ha : a.size ≤ 100000) (hb : b.size ≤ 100000) (ka : KnD (bl a)) (kb : KnD (bl b)) : impl_DebianParts.f a b = some (dbP (bl a) (bl b), true) := by
 unfold impl_DebianParts.f
 rw [if_pos ⟨⟨ha, asc_bl ka.1⟩, hb, asc_bl kb.1⟩]
theorem dcmp_f {a b : ByteArray} (ha : a.size ≤ 100000) (hb : b.size ≤ 100000) (ka : ∀ c ∈ bl a, c.toNat < 128) (kb : ∀ c ∈ bl b, c.toNat < 128) : impl_DebianCompare.f a b = some (match dbp (bl a), dbp (bl b) with
 | some x, some y => (dvC x y, true)
 | _, _ => (0, false)) := by
 unfold impl_DebianCompare.f
 rw [if_pos ⟨⟨ha, asc_bl ka⟩, hb, asc_bl kb⟩]
 rfl
theorem debianAwake_f : laws_debianAwake.f = some true := by
 have h1 : impl_DebianCompare.f (⟨#[49]⟩ : ByteArray) (⟨#[50]⟩ : ByteArray) = some (-1, true) := by kernel_rfl
 have h2 : impl_DebianParts.f (⟨#[49]⟩ : ByteArray) (⟨#[50]⟩ : ByteArray) = some (-1, true) := by kernel_rfl
 unfold laws_debianAwake.f
 rw [h1, h2]
 rfl
theorem dvC_chain (x y z : DbV) : Chained (dvC x y) (dvC y z) (dvC x z) := chain_lex (chain_Z _ _ _) (chain_lex (dbP_chain _ _ _) (dbP_chain _ _ _))
theorem dvC_self (x : DbV) : dvC x x = 0 := by
 unfold dvC
 rw [if_pos (cmpZ_self _), if_pos (dbP_self _), dbP_self]
end Go.Proofs.YtkcciinapkeaiaaDoor.Com

namespace Go.Proofs.YtkcciinapkeaiaaDoor.Com
open Go.RowKit Go.Proofs.YtkcciinapkeaiaaDoor.Z Go.Proofs.YtkcciinapkeaiaaDoor.Evs Go.Proofs.YtkcciinapkeaiaaDoorW.PrintWords Go.Proofs.YtkcciinapkeaiaaDoorW.PrintLast
set_option linter.unusedVariables false
set_option linter.unusedSimpArgs false

/-- short: an answer; where it is true the list is short and its texts are. -/
theorem short_l (l : List ByteArray) (hl : (l.length : Int) < 9223372036854775807) (d : Nat) : ∀ i : Nat, i + d = l.length →
  ∃ b, Ev (fun k => laws_short.l0 k l l (l.length : Int) (i : Int)) b ∧ (b = true → l.length ≤ 150 ∧ ∀ j, i ≤ j → j < l.length → (l.getD j ByteArray.empty).size ≤ 1500) := by
 induction d with
 | zero =>
  intro i h
  exact ⟨_, Ev.step (fun _ => by rw [laws_short.l0]) (ev_neg (by omega) (Ev.now _)), fun hb => ⟨by simp at hb; omega, fun j h1 h2 => by omega⟩⟩
 | succ d ih =>
  intro i h
  obtain ⟨b, hb, hq⟩ := ih (i + 1) (by omega)
  by_cases c : ((rdOf ByteArray.empty l (i : Int)).size : Int) > 1500
  ·exact ⟨false, Ev.step (fun _ => by rw [laws_short.l0]) (ev_pos (by omega) (ev_pos (by omega) (ev_pos (by omega) (ev_pos c (Ev.now _))))), fun h => by cases h⟩
  ·refine ⟨b, Ev.step (fun _ => by rw [laws_short.l0, wrap_nat (by omega)]) (ev_pos (by omega) (ev_pos (by omega) (ev_pos (by omega) (ev_neg c hb)))), fun h => ⟨(hq h).1, fun j h1 h2 => ?_⟩⟩
   by_cases e : j = i
   ·subst e; rw [rdOf_nat] at c; omega
   ·exact (hq h).2 j (by omega) h2
theorem short_ev (l : List ByteArray) (hl : (l.length : Int) < 9223372036854775807) : ∃ b, Ev (fun k => laws_short.f k l) b ∧ (b = true → l.length ≤ 150 ∧ ∀ j, j < l.length → (l.getD j ByteArray.empty).size ≤ 1500) := by
 obtain ⟨b, hb, hq⟩ := short_l l hl l.length 0 (by omega)
 exact ⟨b, hb, fun h => ⟨(hq h).1, fun j hj => (hq h).2 j (by omega) hj⟩⟩

theorem short3 (a b c : ByteArray) : ∃ r, Ev (fun k => laws_short.f k [a, b, c]) r ∧ (r = true → a.size ≤ 1500 ∧ b.size ≤ 1500 ∧ c.size ≤ 1500) := by
 obtain ⟨r, hr, hq⟩ := short_ev [a, b, c] (by simp)
 exact ⟨r, hr, fun h => ⟨(hq h).2 0 (by simp), (hq h).2 1 (by simp), (hq h).2 2 (by simp)⟩⟩
end Go.Proofs.YtkcciinapkeaiaaDoor.Com

namespace Go.Proofs.YtkcciinapkeaiaaDoor.Com
open Go.RowKit Go.Proofs.YtkcciinapkeaiaaDoor.Z Go.Proofs.YtkcciinapkeaiaaDoor.Evs Go.Proofs.YtkcciinapkeaiaaDoor.By Go.Proofs.YtkcciinapkeaiaaDoor.Lx Go.Proofs.YtkcciinapkeaiaaDoorW.PrintWords Go.Proofs.YtkcciinapkeaiaaDoorW.PrintLast
set_option linter.unusedVariables false
set_option linter.unusedSimpArgs false

theorem chainJ (x0 x1 x2 : Int) (h : NoCh x0 x1 x2) : Ev (fun k => laws_chained.j0 k x0 x1 x2 false) true := by
 obtain ⟨_, h2⟩ := h
 refine Ev.step (fun _ => by rw [laws_chained.j0]) (ev_f ?_)
 by_cases c0 : x0 ≥ 0
 ·refine ev_pos c0 ?_
  by_cases c1 : x1 ≥ 0
  ·refine ev_pos c1 (ev_neg (by omega) ?_)
   by_cases c2 : x0 = 0
   ·refine ev_pos c2 (ev_neg ?_ (ev_now rfl))
    intro hh
    have : ¬ ((x2 == 0) = (x1 == 0)) := by simpa using hh
    apply this
    rw [Bool.eq_iff_iff, beq_iff_eq, beq_iff_eq]
    omega
   ·refine ev_neg c2 (ev_neg ?_ (ev_now rfl))
    intro hh
    have : x2 = 0 := by simpa using hh
    omega
  ·exact ev_neg c1 (ev_now rfl)
 ·exact ev_neg c0 (ev_now rfl)
theorem chained_ev {ab bc ac : Int} (h : Chained ab bc ac) : Ev (fun k => laws_chained.f k ab bc ac) true := by
 have n := h.no
 have h1 := n.1
 unfold laws_chained.f
 by_cases c0 : ab ≤ 0
 ·refine ev_pos c0 ?_
  by_cases c1 : bc ≤ 0
  ·refine ev_pos c1 (ev_neg (by omega) ?_)
   by_cases c2 : ab = 0
   ·refine ev_pos c2 ?_
    have e : ((ac == 0) != (bc == 0)) = false := by
     rw [bne_eq_false_iff_eq, Bool.eq_iff_iff, beq_iff_eq, beq_iff_eq]
     omega
    rw [e]
    exact chainJ _ _ _ n
   ·refine ev_neg c2 ?_
    have e : ((ac == 0) != false) = false := by
     rw [bne_eq_false_iff_eq]
     exact beq_eq_false_iff_ne.2 (by omega)
    rw [e]
    exact chainJ _ _ _ n
  ·exact ev_neg c1 (chainJ _ _ _ n)
 ·exact ev_neg c0 (chainJ _ _ _ n)
end Go.Proofs.YtkcciinapkeaiaaDoor.Com

namespace Go.Proofs.YtkcciinapkeaiaaDoor.Pure
open Go.RowKit Go.Proofs.YtkcciinapkeaiaaDoor.Z Go.Proofs.YtkcciinapkeaiaaDoor.Evs Go.Proofs.YtkcciinapkeaiaaDoor.By Go.Proofs.YtkcciinapkeaiaaDoor.Com Go.Proofs.YtkcciinapkeaiaaDoor.Lx Go.Proofs.YtkcciinapkeaiaaDoorW.PrintWords Go.Proofs.YtkcciinapkeaiaaDoorW.PrintLast
set_option linter.unusedVariables false
set_option linter.unusedSimpArgs false
theorem FnDebianOrder : laws_FnDebianOrder.Pure := by
 intro a b c h0 h1 h2
 refine Ev.rounds ?_
 unfold laws_FnDebianOrder.f
 have skip0 : Ev (fun k => laws_FnDebianOrder.j0 k a b c true) true := Ev.step (fun _ => by rw [laws_FnDebianOrder.j0]) (ev_t (ev_now rfl))
 have skip1 : Ev (fun k => laws_FnDebianOrder.j1 k a b c true) true := Ev.step (fun _ => by rw [laws_FnDebianOrder.j1]) (ev_t (ev_now rfl))
 refine ev_ite (fun _ => skip0) (fun _ => ev_ite (fun _ => skip0) (fun _ => ?_))
 cases decide ((c.size : Int) > 2147483647) with
 | true => exact skip0
 | false =>
  refine Ev.step (fun _ => by rw [laws_FnDebianOrder.j0]) (ev_f ?_)
  obtain ⟨r, e, s⟩ := short3 a b c
  refine Ev.bind e ?_
  cases r with
  | false => exact ev_f skip1
  | true =>
   obtain ⟨s0, s1, s2⟩ := s rfl
   obtain ⟨p0, e0, q0⟩ := known_b a s0
   obtain ⟨p1, e1, q1⟩ := known_b b s1
   obtain ⟨p2, e2, q2⟩ := known_b c s2
   refine ev_t (Ev.bind e0 ?_)
   cases p0 with
   | false => exact ev_f skip1
   | true =>
    refine ev_t (Ev.bind e1 ?_)
    cases p1 with
    | false => exact ev_f skip1
    | true =>
     refine ev_t (Ev.bind e2 ?_)
     cases p2 with
     | false => exact skip1
     | true =>
      have ka := q0 rfl
      have kb := q1 rfl
      have kc := q2 rfl
      refine Ev.step (fun _ => by rw [laws_FnDebianOrder.j1, dcmp_f (by omega) (by omega) ka.1 kb.1, dcmp_f (by omega) (by omega) kb.1 kc.1, dcmp_f (by omega) (by omega) ka.1 kc.1, dcmp_f (by omega) (by omega) ka.1 ka.1]) ?_
      refine ev_f ?_
      cases dbp (bl a) with
      | none =>
       refine ev_some (ev_some (ev_some (ev_some (ev_f ?_))))
       refine Ev.step (fun _ => by rw [laws_FnDebianOrder.j2, debianAwake_f]) ?_
       exact ev_t (ev_some (ev_t (ev_f (ev_pos rfl (ev_now rfl)))))
      | some x =>
       cases dbp (bl b) with
       | none =>
        refine ev_some (ev_some (ev_some (ev_some (ev_f ?_))))
        refine Ev.step (fun _ => by rw [laws_FnDebianOrder.j2, debianAwake_f]) ?_
        exact ev_t (ev_some (ev_t (ev_f (ev_pos rfl (ev_now rfl)))))
       | some y =>
        cases dbp (bl c) with
        | none =>
         refine ev_some (ev_some (ev_some (ev_some (ev_t (ev_f ?_)))))
         refine Ev.step (fun _ => by rw [laws_FnDebianOrder.j2, debianAwake_f]) ?_
         exact ev_t (ev_some (ev_t (ev_t (ev_f (ev_pos rfl (ev_now rfl))))))
        | some z =>
         refine ev_some (ev_some (ev_some (ev_some (ev_t (ev_t (ev_t ?_))))))
         refine Ev.step (fun _ => by rw [laws_FnDebianOrder.j2]) ?_
         refine ev_neg (by simp) (ev_pos (dvC_self x) ?_)
         exact Ev.bind (chained_ev (dvC_chain x y z)) (ev_now rfl)
end Go.Proofs.YtkcciinapkeaiaaDoor.Pure

namespace Go.Proofs.YtkcciinapkeaiaaDoor.fnDebianOrder
open Go.ChangeShapes Go.WideShapes Go.ChangeAt Go.RowKit Go.Proofs.YtkcciinapkeaiaaDoor.Op Go.Proofs.YtkcciinapkeaiaaDoor.Z Go.Proofs.YtkcciinapkeaiaaDoorW.PrintWords
open Go.ChangeMaps (open_string shut_string)
set_option linter.unusedVariables false
set_option linter.unusedSimpArgs false
theorem own : ownKnob Tryd.prog.godebug = none := by kernel_rfl
/-- A world for the witness: the listed variables hold what their initialisers lay. -/
noncomputable def laidWorld (os : Os) : World := World.laidAll Tryd.prog os Rows.fnDebianOrderRow.laid
set_option maxRecDepth 100000 in
theorem laid_met (os : Os) : laidMet Tryd.prog Rows.fnDebianOrderRow.laid ((laidWorld os).forCall (fun _ _ => 0) ⟨#[], #[.string ByteArray.empty, .string ByteArray.empty, .string ByteArray.empty], []⟩).memory :=
 laidMet_laidAll _ (by kernel_rfl) (by kernel_rfl)
set_option maxRecDepth 100000 in
theorem reads (os : Os) {H : Type} (enc : TypeId × Value → H) : DataW.whole enc Tryd.prog ((laidWorld os).forCall (fun _ _ => 0) ⟨#[], #[.string ByteArray.empty, .string ByteArray.empty, .string ByteArray.empty], []⟩).memory Tryd.f4.params.toList Rows.fnDebianOrderSpec.vars false #[.string ByteArray.empty, .string ByteArray.empty, .string ByteArray.empty].toList 8 = some ([.lit (.string []), .lit (.string []), .lit (.string [])], [], []) := by kernel_rfl
set_option maxRecDepth 100000 in
theorem lifted (os : Os) (started : os.Started) (H : Type) (enc : TypeId × Value → H) (F : Stop.Interp) :
  ReturnsInHanded {} Tryd.checked os 4 .any ((OpenSpec.ofChange Rows.fnDebianOrderSpec).preRow enc Tryd.prog Tryd.f4 Rows.fnDebianOrderRow.domain false Rows.fnDebianOrderRow.laid) (((OpenSpec.ofChange Rows.fnDebianOrderSpec).at F).post enc Tryd.prog Tryd.f4 false true false false) := by
 refine returnsInHanded_of_row (C := Tryd.checked) (s := OpenSpec.ofChange Rows.fnDebianOrderSpec) own started (by kernel_rfl) Tryd.func4
  (witness_row_atRef (enc := enc) (C := Tryd.checked) false (laidWorld os) #[.string ByteArray.empty, .string ByteArray.empty, .string ByteArray.empty] (World.laidAll_os _ _ _) (by kernel_rfl) (by kernel_rfl) (by kernel_rfl)
   (OpenSpec.preRow_of_cond 8 (reads os enc) (by kernel_rfl) (fun k hk => by cases hk) (by kernel_rfl) (laid_met os))) ?_
 intro W base args ds gs before hval0 hW hcnd hk0 hsz0 hL hSh hho
 have hsz : (DataW.weightsEach Tryd.prog (Tryd.f4.params.toList ++ Rows.fnDebianOrderSpec.plain.varTypes Tryd.prog) (ds ++ gs)).all (· ≤ reachBytes) = true := hsz0
 have hval : ∀ (j : Nat) t v, Tryd.f4.params[j]? = some t → args[j]? = some v → Value.okWide Tryd.prog W .any base t v := hval0
 have hW' := hW
 obtain ⟨p, q, hA0, hV, rfl, hfz, hnd⟩ := hW
 have hA : DataW.TrodAll enc Tryd.prog W 0 (fun _ => true) true Tryd.f4.params.toList args.toList ds p := hA0
 rw [Tryd.params4] at hA hval hsz
 obtain ⟨v0, vs0, d0, ds0, p0, q0, hargs, rfl, rfl, h0, r0⟩ := trodAll_cons hA
 obtain ⟨v1, vs1, d1, ds1, p1, q1, rfl, rfl, rfl, h1, r1⟩ := trodAll_cons r0
 obtain ⟨v2, vs2, d2, ds2, p2, q2, rfl, rfl, rfl, h2, r2⟩ := trodAll_cons r1
 obtain ⟨rfl, rfl, rfl⟩ := trodAll_nil r2
 obtain rfl : args = #[v0, v1, v2] := by cases args; simp_all
 obtain ⟨rfl, rfl⟩ := trodVars_none hV
 obtain ⟨a0, rfl, rfl, rfl, y0⟩ := open_string Tryd.underlying9 (hval 0 9 v0 rfl rfl) h0
 have w0 : a0.size ≤ 140737488351232 := by
  have z := sized_string hsz (j := 0) (t := 9) rfl rfl
  rw [Array.length_toList] at z
  exact z
 obtain ⟨a1, rfl, rfl, rfl, y1⟩ := open_string Tryd.underlying9 (hval 1 9 v1 rfl rfl) h1
 have w1 : a1.size ≤ 140737488351232 := by
  have z := sized_string hsz (j := 1) (t := 9) rfl rfl
  rw [Array.length_toList] at z
  exact z
 obtain ⟨a2, rfl, rfl, rfl, y2⟩ := open_string Tryd.underlying9 (hval 2 9 v2 rfl rfl) h2
 have w2 : a2.size ≤ 140737488351232 := by
  have z := sized_string hsz (j := 2) (t := 9) rfl rfl
  rw [Array.length_toList] at z
  exact z
 clear hA0 hval0 hsz0 hsz
 refine (laws_FnDebianOrder.walk Pure.FnDebianOrder a0 a1 a2 W w0 w1 w2  (Gw.gw_of (l := Rows.fnDebianOrderRow.laid) hL (List.Mem.tail _ (List.Mem.head _)) (List.Mem.tail _ (List.Mem.tail _ (List.Mem.tail _ (List.Mem.tail _ (List.Mem.head _))))) (List.Mem.tail _ (List.Mem.tail _ (List.Mem.tail _ (List.Mem.tail _ (List.Mem.tail _ (List.Mem.tail _ (List.Mem.head _))))))) (List.Mem.tail _ (List.Mem.tail _ (List.Mem.tail _ (List.Mem.head _)))))).mono fun e W' ⟨he, bel⟩ => ?_
 subst he
 exact ⟨_, rfl, _, _, _, [], _, [], hW', trodAll_mk1 (shut_bool Tryd.underlying4 _), (trodAll_cons_mk (shut_string Tryd.underlying9 y0) (trodAll_cons_mk (shut_string Tryd.underlying9 y1) (trodAll_cons_mk (shut_string Tryd.underlying9 y2) trodAll_mk0))), rfl, bel.frame _, fun h => by cases h⟩
theorem said : Rows.FnDebianOrderSaid :=
 OpenClaim.holds_of_cond 4 Tryd.f4 rfl rfl rfl rfl rfl rfl rfl ⟨rfl, rfl, rfl, rfl, rfl⟩ rfl rfl rfl rfl rfl (by kernel_rfl) Tryd.func4 (by kernel_rfl)
  (of_decide_eq_true (by kernel_rfl)) (by unfold Func.isWrapper; first | (rw [if_pos (by decide +kernel)]; kernel_rfl) | (rw [if_neg (by decide +kernel)]; exact ⟨rfl, rfl⟩))
  (fun os started H enc _ F => by rw [OpenClaim.pre_eq_preRow]; exact lifted os started H enc F)
theorem plain (f : FuncId) (fn : Func) (hf : Tryd.pinned.checked.prog.funcNamed "pub-seniority/laws.FnDebianOrder" = some f) (hfn : Tryd.pinned.checked.prog.funcs[f]? = some fn) :
  true = Tryd.pinned.checked.prog.looks [] ∧ ∀ (j : Nat) t, fn.params[j]? = some t → Tryd.pinned.checked.prog.wantsStandIn t = false := by
 obtain rfl : f = 4 := Option.some.inj ((show Tryd.prog.funcNamed "pub-seniority/laws.FnDebianOrder" = some 4 by kernel_rfl).symm.trans hf) |>.symm
 obtain rfl : fn = Tryd.f4 := (Option.some.inj (Tryd.func4.symm.trans hfn)).symm
 refine ⟨by kernel_rfl, fun j t ht => ?_⟩
 rw [Tryd.params4] at ht
 have h2 : ([9, 9, 9] : List TypeId).all (fun t => !Tryd.prog.wantsStandIn t) = true := by kernel_rfl
 have h3 := List.all_eq_true.1 h2 t (by have := Array.mem_of_getElem? ht; simpa using this)
 exact (show Tryd.prog.wantsStandIn t = false from by simpa using h3)
theorem proved : Rows.FnDebianOrderCardSaid :=
 Claim7.holds_tied_plain_at .later [] _ _ _ _ said (fun _ h => by cases h) (by kernel_rfl) (fun _ h => by cases h) fnDebianOrder_row_tie rfl ⟨rfl, rfl⟩ (by kernel_rfl) rfl plain (by kernel_rfl)
#print axioms proved
end Go.Proofs.YtkcciinapkeaiaaDoor.fnDebianOrder
namespace Go.Proofs.YtkcciinapkeaiaaDoor
/-- The card, under a short name, for the claim. -/
theorem fnDebianOrder_holds : Rows.FnDebianOrderCardSaid := fnDebianOrder.proved
end Go.Proofs.YtkcciinapkeaiaaDoor
