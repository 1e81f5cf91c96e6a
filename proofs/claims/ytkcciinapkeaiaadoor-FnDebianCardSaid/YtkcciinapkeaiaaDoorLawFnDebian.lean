/- FnDebian. No condition beyond the row's own. -/
import Derived.Test.YtkcciinapkeaiaaDoorZ1
import Derived.Test.YtkcciinapkeaiaaDoorEv
import Derived.Test.YtkcciinapkeaiaaDoorBy
import Derived.Test.YtkcciinapkeaiaaDoorZ5
import Derived.Test.YtkcciinapkeaiaaDoorBn
import Derived.Test.YtkcciinapkeaiaaDoorBv
import Derived.Test.YtkcciinapkeaiaaDoorLx
import Derived.Test.YtkcciinapkeaiaaDoorZ6
import Derived.Test.YtkcciinapkeaiaaDoorZ11
import Derived.Test.YtkcciinapkeaiaaDoorZ12
import Derived.KernelRfl
import Derived.Test.YtkcciinapkeaiaaDoorZ15
import Derived.Test.YtkcciinapkeaiaaDoorZ16
import Derived.Lib.Bytealg
import Derived.Test.YtkcciinapkeaiaaDoorSsC
import Derived.Test.YtkcciinapkeaiaaDoorZ17
import Derived.Test.YtkcciinapkeaiaaDoorZ19
import Derived.Test.YtkcciinapkeaiaaDoorZ20
import Derived.Test.YtkcciinapkeaiaaDoorRows
import Derived.Test.YtkcciinapkeaiaaDoorOp
import Derived.Test.YtkcciinapkeaiaaDoorCards
import Derived.Test.YtkcciinapkeaiaaDoorTie
import Derived.Test.YtkcciinapkeaiaaDoorGt
import Derived.Deep.DeepHandedRow
import Derived.Deep.DeepWitnessRowRef
import Derived.Lay
import Derived.WalkKit
import Derived.ProofKit
import Derived.OpenShut
import Derived.ShutString
import Derived.ChangeOld
import Derived.Below
import Derived.SizedLaws
namespace Go.Proofs.YtkcciinapkeaiaaDoor.Com
open Go.RowKit Go.Proofs.YtkcciinapkeaiaaDoor.Z Go.Proofs.YtkcciinapkeaiaaDoor.Evs Go.Proofs.YtkcciinapkeaiaaDoorW.PrintWords Go.Proofs.YtkcciinapkeaiaaDoorW.PrintLast
set_option linter.unusedVariables false
set_option linter.unusedSimpArgs false

/-- Ascii: an answer; where it is true every byte is below 128. -/
theorem ascii_l (s : ByteArray) (hs : s.size ≤ 140737488351232) (d : Nat) : ∀ i : Nat, i + d = s.size → ∃ r, Ev (fun k => spec_Ascii.l0 k s (i : Int)) r ∧ (r = true → ∀ j : Nat, i ≤ j → (h : j < s.size) → (s[j]'h).toNat < 128) := by
 induction d with
 | zero => intro i h; exact ⟨true, Ev.step (fun _ => by rw [spec_Ascii.l0]) (ev_neg (by omega) (Ev.now _)), fun _ j h1 h2 => by omega⟩
 | succ d ih =>
  intro i h
  obtain ⟨r, hr, hq⟩ := ih (i + 1) (by omega)
  have hb := bt_nat s i (by omega)
  by_cases c : bt s (i : Int) > 127
  ·exact ⟨false, Ev.step (fun _ => by rw [spec_Ascii.l0]) (ev_pos (by omega) (ev_pos (by omega) (ev_pos c (Ev.now _)))), fun h => by cases h⟩
  ·refine ⟨r, Ev.step (fun _ => by rw [spec_Ascii.l0, wrap_nat (by omega)]) (ev_pos (by omega) (ev_pos (by omega) (ev_neg c hr))), fun h j h1 h2 => ?_⟩
   by_cases e : j = i
   ·subst e; omega
   ·exact hq h j (by omega) h2
theorem ascii_ev (s : ByteArray) (hs : s.size ≤ 140737488351232) : ∃ r, Ev (fun k => spec_Ascii.f k s) r ∧ (r = true → ∀ j : Nat, (h : j < s.size) → (s[j]'h).toNat < 128) := by
 obtain ⟨r, hr, hq⟩ := ascii_l s hs s.size 0 (by omega)
 exact ⟨r, hr, fun h j hj => hq h j (by omega) hj⟩
end Go.Proofs.YtkcciinapkeaiaaDoor.Com

namespace Go.Proofs.YtkcciinapkeaiaaDoor.Com
open Go.RowKit Go.Proofs.YtkcciinapkeaiaaDoor.Z Go.Proofs.YtkcciinapkeaiaaDoor.Evs Go.Proofs.YtkcciinapkeaiaaDoor.By Go.Proofs.YtkcciinapkeaiaaDoorW.PrintWords Go.Proofs.YtkcciinapkeaiaaDoorW.PrintLast
set_option linter.unusedVariables false
set_option linter.unusedSimpArgs false

/-- The place of the first byte of a sort; -1 without one. -/
def idxI (c : UInt8) (l : List UInt8) : Int := if (l.dropWhile (· != c)) = [] then -1 else ((l.takeWhile (· != c)).length : Int)
theorem byte_eq (a c : UInt8) : ((a.toNat : Int) = (c.toNat : Int)) ↔ a = c := ⟨fun h => UInt8.toNat_inj.1 (by omega), fun h => by rw [h]⟩
theorem idx_split (c : UInt8) (l : List UInt8) : ∀ i : Nat, (∀ x ∈ l.take i, (x != c) = true) → l.takeWhile (· != c) = l.take i ++ (l.drop i).takeWhile (· != c) ∧ l.dropWhile (· != c) = (l.drop i).dropWhile (· != c) := by
 intro i h
 have e := List.take_append_drop i l
 constructor
 ·conv => lhs; rw [← e]
  exact List.takeWhile_append_of_pos h
 ·conv => lhs; rw [← e]
  exact List.dropWhile_append_of_pos h
theorem index_l (c : UInt8) (l : List UInt8) (hl : l.length ≤ 140737488351232) (d : Nat) : ∀ i : Nat, i + d = l.length → (∀ x ∈ l.take i, (x != c) = true) → Ev (fun k => spec_indexOf.l0 k (ofL l) (c.toNat : Int) (i : Int)) (idxI c l) := by
 have hs := ofL_size l
 induction d with
 | zero =>
  intro i h hp
  refine Ev.step (fun _ => by rw [spec_indexOf.l0]) (ev_neg (by omega) (ev_now ?_))
  have := (idx_split c l i hp).2
  rw [List.drop_of_length_le (by omega)] at this
  rw [idxI, if_pos (show List.dropWhile (fun x => x != c) l = [] from this)]
 | succ d ih =>
  intro i h hp
  have hi : i < l.length := by omega
  have hc := bt_ofL l i hi
  refine Ev.step (fun _ => by rw [spec_indexOf.l0, hc, wrap_nat (by omega)]) (ev_pos (by omega) (ev_pos (by omega) ?_))
  by_cases e : l[i]'hi = c
  ·refine ev_pos ((byte_eq _ _).2 e) (ev_now ?_)
   have h1 := idx_split c l i hp
   rw [List.drop_eq_getElem_cons hi, List.dropWhile_cons, List.takeWhile_cons, if_neg (by simp [e]), if_neg (by simp [e])] at h1
   have h2 : ¬ List.dropWhile (fun x => x != c) l = [] := fun hh => by
    have := h1.2.symm.trans hh
    cases this
   rw [idxI, if_neg h2, h1.1, List.append_nil, List.length_take]
   omega
  ·refine ev_neg (fun h => e ((byte_eq _ _).1 h)) (ih (i + 1) (by omega) (fun x hx => ?_))
   rw [List.take_succ_eq_append_getElem hi, List.mem_append] at hx
   rcases hx with hx | hx
   ·exact hp x hx
   ·simp at hx
    subst hx
    simpa using e
theorem index_ev (c : UInt8) (l : List UInt8) (hl : l.length ≤ 140737488351232) : Ev (fun k => spec_indexOf.f k (ofL l) (c.toNat : Int)) (idxI c l) := index_l c l hl l.length 0 (by omega) (by simp)
end Go.Proofs.YtkcciinapkeaiaaDoor.Com

namespace Go.Proofs.YtkcciinapkeaiaaDoor.Com
open Go Go.RowKit Go.Proofs.YtkcciinapkeaiaaDoor.Z Go.Proofs.YtkcciinapkeaiaaDoor.Evs Go.Proofs.YtkcciinapkeaiaaDoor.By Go.Proofs.YtkcciinapkeaiaaDoor.Lx Go.Proofs.YtkcciinapkeaiaaDoorW.PrintWords Go.Proofs.YtkcciinapkeaiaaDoorW.PrintLast
set_option linter.unusedVariables false
set_option linter.unusedSimpArgs false
theorem cmpZ_self (a : Int) : Bn.cmpZ a a = 0 := by unfold Bn.cmpZ; split <;> (try split) <;> omega
theorem cmpZ_ran (a b : Int) : -1 ≤ Bn.cmpZ a b ∧ Bn.cmpZ a b ≤ 1 := by unfold Bn.cmpZ; split <;> (try split) <;> omega
theorem cmpZ_neg (a b : Int) : Bn.cmpZ b a = -Bn.cmpZ a b := by unfold Bn.cmpZ; split <;> (try split) <;> (try split) <;> omega
theorem wF_self : ∀ (d : Nat) (a : List Int), wF d a a = 0
 | 0, _ => rfl
 | d + 1, a => by
  rw [wF, if_pos (cmpZ_self _)]
  exact wF_self d a.tail
theorem wF_neg : ∀ (d : Nat) (a b : List Int), wF d b a = -wF d a b
 | 0, _, _ => rfl
 | d + 1, a, b => by
  rw [wF, wF, wF_neg d a.tail b.tail, cmpZ_neg (a.headD 0) (b.headD 0)]
  split <;> split <;> omega
theorem wF_ran : ∀ (d : Nat) (a b : List Int), -1 ≤ wF d a b ∧ wF d a b ≤ 1
 | 0, _, _ => by unfold wF; omega
 | d + 1, a, b => by
  rw [wF]
  split
  ·exact wF_ran d _ _
  ·exact cmpZ_ran _ _
theorem dbC_self (a : List UInt8) : dbC a a = 0 := wF_self _ _
theorem dbC_neg (a b : List UInt8) : dbC b a = -dbC a b := by
 unfold dbC
 rw [Nat.max_comm, wF_neg]
theorem dbC_ran (a b : List UInt8) : -1 ≤ dbC a b ∧ dbC a b ≤ 1 := wF_ran _ _ _
theorem dbF_nil : ∀ d, dbF d [] [] = 0
 | 0 => rfl
 | d + 1 => by rw [dbF, if_pos ⟨rfl, rfl⟩]
/-- The comparison without its test of the end. -/
theorem dbF_step (d : Nat) (a b : List UInt8) : dbF (d + 1) a b = if dbC (dbN a) (dbN b) = 0 then (if Bn.cmpZ (Bv.decV (dbD a)) (Bv.decV (dbD b)) = 0 then dbF d (dbT a) (dbT b) else Bn.cmpZ (Bv.decV (dbD a)) (Bv.decV (dbD b))) else dbC (dbN a) (dbN b) := by
 by_cases h : a = [] ∧ b = []
 ·obtain ⟨rfl, rfl⟩ := h
  rw [dbF_nil, if_pos (dbC_self _), if_pos (cmpZ_self _)]
  exact (dbF_nil d).symm
 ·rw [dbF, if_neg h]
theorem dbF_neg : ∀ (d : Nat) (a b : List UInt8), dbF d b a = -dbF d a b
 | 0, _, _ => rfl
 | d + 1, a, b => by
  rw [dbF_step, dbF_step, dbF_neg d (dbT a) (dbT b), cmpZ_neg (Bv.decV (dbD a)), dbC_neg (dbN a)]
  split <;> split <;> (try split) <;> (try split) <;> omega
theorem dbF_ran : ∀ (d : Nat) (a b : List UInt8), -1 ≤ dbF d a b ∧ dbF d a b ≤ 1
 | 0, _, _ => by unfold dbF; omega
 | d + 1, a, b => by
  rw [dbF_step]
  split
  ·split
   ·exact dbF_ran d _ _
   ·exact cmpZ_ran _ _
  ·exact dbC_ran _ _
theorem dbP_neg (a b : List UInt8) : dbP b a = -dbP a b := by
 unfold dbP
 rw [Nat.add_comm, dbF_neg]
theorem dbP_ran (a b : List UInt8) : -1 ≤ dbP a b ∧ dbP a b ≤ 1 := dbF_ran _ _ _
end Go.Proofs.YtkcciinapkeaiaaDoor.Com

namespace Go.Proofs.YtkcciinapkeaiaaDoor.Com
open Go Go.RowKit Go.Proofs.YtkcciinapkeaiaaDoor.Z Go.Proofs.YtkcciinapkeaiaaDoor.Evs Go.Proofs.YtkcciinapkeaiaaDoor.By Go.Proofs.YtkcciinapkeaiaaDoor.Lx Go.Proofs.YtkcciinapkeaiaaDoorW.PrintWords Go.Proofs.YtkcciinapkeaiaaDoorW.PrintLast
set_option linter.unusedVariables false
set_option linter.unusedSimpArgs false
theorem blank_f (c : UInt8) : spec_debBlank.f (c.toNat : Int) = some (Lib.isSp c) := by
 have hu : ∀ n : UInt8, (c == n) = decide (c.toNat = n.toNat) := fun n => by
  rw [Bool.eq_iff_iff, beq_iff_eq, decide_eq_true_eq]
  exact ⟨fun h => by rw [h], fun h => UInt8.toNat_inj.1 h⟩
 unfold spec_debBlank.f Lib.isSp
 rw [hu 9, hu 10, hu 11, hu 12, hu 13, hu 32]
 have n9 : (9 : UInt8).toNat = 9 := rfl
 have n10 : (10 : UInt8).toNat = 10 := rfl
 have n11 : (11 : UInt8).toNat = 11 := rfl
 have n12 : (12 : UInt8).toNat = 12 := rfl
 have n13 : (13 : UInt8).toNat = 13 := rfl
 have n32 : (32 : UInt8).toNat = 32 := rfl
 rw [n9, n10, n11, n12, n13, n32]
 by_cases h1 : (c.toNat : Int) = 32
 ·rw [if_pos h1, decide_eq_true (show c.toNat = 32 by omega), Bool.or_true]
 ·rw [if_neg h1]
  by_cases h2 : (c.toNat : Int) ≥ 9
  ·rw [if_pos h2]
   congr 1
   rw [Bool.eq_iff_iff]
   simp only [Bool.or_eq_true, decide_eq_true_eq]
   omega
  ·rw [if_neg h2]
   congr 1
   symm
   rw [Bool.eq_false_iff]
   intro h
   simp only [Bool.or_eq_true, decide_eq_true_eq] at h
   omega
def trR (l : List UInt8) : List UInt8 := (l.reverse.dropWhile Lib.isSp).reverse
theorem trR_snoc (l : List UInt8) (c : UInt8) : trR (l ++ [c]) = if Lib.isSp c = true then trR l else l ++ [c] := by
 unfold trR
 rw [List.reverse_append, List.reverse_singleton, List.singleton_append, List.dropWhile_cons]
 split
 ·rfl
 ·rw [List.reverse_cons, List.reverse_reverse]
theorem trimR_l : ∀ (n : Nat) (l : List UInt8), l.length = n → n ≤ 100000 → Ev (fun k => spec_debTrim.l1 k (ofL l)) (ofL (trR l))
 | 0, l, h, hn => by
  have hl : l = [] := List.eq_nil_of_length_eq_zero h
  subst hl
  refine Ev.step (fun _ => by rw [spec_debTrim.l1]) ?_
  exact ev_neg (by rw [ofL_size]; simp) (ev_now rfl)
 | n + 1, l, h, hn => by
  rcases List.eq_nil_or_concat l with rfl | ⟨L, c, rfl⟩
  ·simp at h
  ·rw [List.concat_eq_append] at h ⊢
   have hL : L.length = n := by simpa using h
   have hs : (ofL (L ++ [c])).size = n + 1 := by rw [ofL_size]; exact h
   have hw : wrap64 (((ofL (L ++ [c])).size : Int) - 1) = (n : Int) := by rw [hs, wrap_in (by omega) (by omega)]; omega
   have hb : bt (ofL (L ++ [c])) (n : Int) = (c.toNat : Int) := by
    rw [bt_ofL _ n (by rw [h]; omega)]
    congr 2
    subst hL
    simp
   refine Ev.step (fun _ => by rw [spec_debTrim.l1, hw, hb, blank_f, hs]) (ev_pos (by omega) (ev_pos (by omega) (ev_pos (by omega) (ev_some ?_))))
   rw [trR_snoc]
   by_cases hc : Lib.isSp c = true
   ·rw [if_pos hc]
    refine ev_pos hc (ev_pos (by omega) ?_)
    have he : (ofL (L ++ [c])).extract 0 ((n : Int)).toNat = ofL L := by
     rw [ofL_extract, Int.toNat_natCast, List.drop_zero, List.take_left' hL]
    rw [he]
    exact trimR_l n L hL (by omega)
   ·rw [if_neg hc]
    exact ev_neg hc (ev_now rfl)
theorem trim_l : ∀ (n : Nat) (l : List UInt8), l.length = n → n ≤ 100000 → Ev (fun k => spec_debTrim.l0 k (ofL l)) (ofL (Lib.trimSpace l))
 | 0, l, h, hn => by
  have hl : l = [] := List.eq_nil_of_length_eq_zero h
  subst hl
  refine Ev.step (fun _ => by rw [spec_debTrim.l0]) ?_
  refine ev_neg (by rw [ofL_size]; simp) ?_
  exact Ev.step (fun _ => by rw [spec_debTrim.j1]) (trimR_l 0 [] rfl (by omega))
 | n + 1, l, h, hn => by
  cases l with
  | nil => simp at h
  | cons c r =>
   have hr : r.length = n := by simpa using h
   have hs : (ofL (c :: r)).size = n + 1 := by rw [ofL_size]; exact h
   have hb : bt (ofL (c :: r)) 0 = (c.toNat : Int) := bt_ofL (c :: r) 0 (by simp)
   refine Ev.step (fun _ => by rw [spec_debTrim.l0, hb, blank_f, hs]) (ev_pos (by omega) (ev_pos (by omega) (ev_some ?_)))
   by_cases hc : Lib.isSp c = true
   ·refine ev_pos hc (ev_pos (by omega) ?_)
    have he : (ofL (c :: r)).extract 1 (n + 1) = ofL r := by
     rw [ofL_extract, List.take_of_length_le (by rw [h]; omega)]
     rfl
    rw [he]
    refine ev_eq (trim_l n r hr (by omega)) ?_
    unfold Lib.trimSpace
    rw [List.dropWhile_cons, if_pos hc]
   ·refine ev_neg hc ?_
    refine ev_eq (Ev.step (fun _ => by rw [spec_debTrim.j1]) (trimR_l (n + 1) (c :: r) h hn)) ?_
    unfold Lib.trimSpace trR
    rw [List.dropWhile_cons, if_neg hc]
theorem trim_ev (l : List UInt8) (hl : l.length ≤ 100000) : Ev (fun k => spec_debTrim.f k (ofL l)) (ofL (Lib.trimSpace l)) := trim_l l.length l rfl hl
theorem trim_le (l : List UInt8) : (Lib.trimSpace l).length ≤ l.length := by
 unfold Lib.trimSpace
 rw [List.length_reverse]
 refine Nat.le_trans (List.dropWhile_sublist _).length_le ?_
 rw [List.length_reverse]
 exact (List.dropWhile_sublist _).length_le
theorem idxI_has (c : UInt8) (l : List UInt8) (h : idxI c l < 0) : l.contains c = false := by
 unfold idxI at h
 split at h
 ·rename_i h1
  exact (drop_nil_iff c l).1 h1
 ·omega
/-- A known text: no byte beyond 127, no byte 0. -/
def KnD (l : List UInt8) : Prop := (∀ c ∈ l, c.toNat < 128) ∧ l.contains 0 = false
theorem known_ev (l : List UInt8) (hl : l.length ≤ 100000) : ∃ b, Ev (fun k => spec_DebianKnown.f k (ofL l)) b ∧ (b = true → KnD l) := by
 obtain ⟨r, hr, hq⟩ := ascii_ev (ofL l) (by rw [ofL_size]; omega)
 have hi := index_ev 0 l (by omega)
 have h0 : (((0 : UInt8).toNat : Nat) : Int) = 0 := rfl
 rw [h0] at hi
 have hz := index_ev 58 (Lib.trimSpace l) (by have := trim_le l; omega)
 have h58 : (((58 : UInt8).toNat : Nat) : Int) = 58 := rfl
 rw [h58] at hz
 have tail : ∀ s : Bool, ∃ b, Ev (fun k => (spec_Ascii.f k (ofL l)).bind fun t => (if t = true then ((spec_indexOf.f k (ofL l) 0).bind fun t2 => (if t2 < 0 then (some (!s)) else (some false))) else (some false))) b ∧ (b = true → KnD l) := by
  intro s
  cases r with
  | false => exact ⟨false, Ev.bind hr (ev_f (ev_now rfl)), fun h => by cases h⟩
  | true =>
   by_cases hn : idxI 0 l < 0
   ·refine ⟨!s, Ev.bind hr (ev_t (Ev.bind hi (ev_pos hn (ev_now rfl)))), fun _ => ⟨fun c hc => ?_, idxI_has 0 l hn⟩⟩
    obtain ⟨i, h1, rfl⟩ := List.getElem_of_mem hc
    exact hq rfl i (by rw [ofL_size]; exact h1)
   ·exact ⟨false, Ev.bind hr (ev_t (Ev.bind hi (ev_neg hn (ev_now rfl)))), fun h => by cases h⟩
 unfold spec_DebianKnown.f
 obtain ⟨b0, e0, q0⟩ := tail false
 by_cases hs : ((ofL (Lib.trimSpace l)).size : Int) > 0
 ·obtain ⟨b1, e1, q1⟩ := tail (decide (idxI 58 (Lib.trimSpace l) ≥ 0))
  by_cases h43 : bt (ofL (Lib.trimSpace l)) 0 = 43
  ·exact ⟨b1, Ev.bind (trim_ev l hl) (ev_pos hs (ev_pos (by omega) (ev_pos h43 (Ev.bind hz e1)))), q1⟩
  ·by_cases h45 : bt (ofL (Lib.trimSpace l)) 0 = 45
   ·exact ⟨b1, Ev.bind (trim_ev l hl) (ev_pos hs (ev_pos (by omega) (ev_neg h43 (ev_pos h45 (Ev.bind hz e1))))), q1⟩
   ·exact ⟨b0, Ev.bind (trim_ev l hl) (ev_pos hs (ev_pos (by omega) (ev_neg h43 (ev_neg h45 e0)))), q0⟩
 ·exact ⟨b0, Ev.bind (trim_ev l hl) (ev_neg hs e0), q0⟩
theorem known_b (a : ByteArray) (h : a.size ≤ 1500) : ∃ r, Ev (fun k => spec_DebianKnown.f k a) r ∧ (r = true → KnD (bl a)) := by
 have := known_ev (bl a) (by rw [bl_length]; omega)
 rw [ofL_bl] at this
 exact this
theorem asc_bl {a : ByteArray} (h : ∀ c ∈ bl a, c.toNat < 128) : ascB a = true := by
 have := asc_of h
 rw [ofL_bl] at this
 exact this
theorem parts_f {a b : ByteArray} (ha : a.size ≤ 100000) (hb : b.size ≤ 100000) (ka : KnD (bl a)) (kb : KnD (bl b)) : impl_DebianParts.f a b = some (dbP (bl a) (bl b), true) := by
 unfold impl_DebianParts.f
 rw [if_pos ⟨⟨ha, asc_bl ka.1⟩, hb, asc_bl kb.1⟩]
theorem dcmp_f {a b : ByteArray} (ha : a.size ≤ 100000) (hb : b.size ≤ 100000) (ka : ∀ c ∈ bl a, c.toNat < 128) (kb : ∀ c ∈ bl b, c.toNat < 128) : impl_DebianCompare.f a b = some (match dbp (bl a), dbp (bl b) with
 | some x, some y => (dvC x y, true)
 | _, _ => (0, false)) := by
 unfold impl_DebianCompare.f
 rw [if_pos ⟨⟨ha, asc_bl ka⟩, hb, asc_bl kb⟩]
 rfl
theorem dvC_neg (x y : DbV) : dvC y x = -dvC x y := by
 unfold dvC
 rw [cmpZ_neg x.1 y.1, dbP_neg x.2.1, dbP_neg x.2.2]
 split <;> split <;> (try split) <;> (try split) <;> omega
theorem dvC_ran (x y : DbV) : -1 ≤ dvC x y ∧ dvC x y ≤ 1 := by
 unfold dvC
 split
 ·split
  ·exact dbP_ran _ _
  ·exact dbP_ran _ _
 ·exact cmpZ_ran _ _
end Go.Proofs.YtkcciinapkeaiaaDoor.Com

namespace Go.Proofs.YtkcciinapkeaiaaDoor.Com
open Go.RowKit Go.Proofs.YtkcciinapkeaiaaDoor.Z Go.Proofs.YtkcciinapkeaiaaDoor.Evs Go.Proofs.YtkcciinapkeaiaaDoor.By Go.Proofs.YtkcciinapkeaiaaDoorW.PrintWords Go.Proofs.YtkcciinapkeaiaaDoorW.PrintLast
set_option linter.unusedVariables false
set_option linter.unusedSimpArgs false

theorem isDigit_f (c : UInt8) : spec_isDigit.f (c.toNat : Int) = some (dg c) := by
 unfold spec_isDigit.f dg
 by_cases h : (c.toNat : Int) ≥ 48
 ·rw [if_pos h]
  congr 1
  rw [Bool.eq_iff_iff, decide_eq_true_eq, decide_eq_true_eq]
  omega
 ·rw [if_neg h]
  congr 1
  symm
  rw [decide_eq_false_iff_not]
  omega
/-- Digits alone, one at least. -/
def allD (l : List UInt8) : Bool := l.all dg && decide (0 < l.length)
theorem digits_l (l : List UInt8) (hl : l.length ≤ 140737488351232) (d : Nat) : ∀ i : Nat, i + d = l.length → Ev (fun k => spec_allDigits.l0 k (ofL l) (i : Int)) ((l.drop i).all dg && decide (0 < l.length)) := by
 have hs := ofL_size l
 induction d with
 | zero =>
  intro i h
  refine Ev.step (fun _ => by rw [spec_allDigits.l0]) (ev_neg (by omega) (ev_now ?_))
  rw [List.drop_of_length_le (by omega), hs]
  simp
 | succ d ih =>
  intro i h
  have hc := bt_ofL l i (by omega)
  refine Ev.step (fun _ => by rw [spec_allDigits.l0, hc, isDigit_f, Option.bind_some, wrap_nat (by omega)]) (ev_pos (by omega) (ev_pos (by omega) ?_))
  rw [List.drop_eq_getElem_cons (by omega), List.all_cons]
  cases e : dg (l[i]'(by omega)) with
  | true => exact ev_t (by simpa using ih (i + 1) (by omega))
  | false => exact ev_f (ev_now (by simp))
theorem digits_ev (l : List UInt8) (hl : l.length ≤ 140737488351232) : Ev (fun k => spec_allDigits.f k (ofL l)) (allD l) := digits_l l hl l.length 0 (by omega)
end Go.Proofs.YtkcciinapkeaiaaDoor.Com

namespace Go.Proofs.YtkcciinapkeaiaaDoor.Com
open Go Go.RowKit Go.Proofs.YtkcciinapkeaiaaDoor.Z Go.Proofs.YtkcciinapkeaiaaDoor.Evs Go.Proofs.YtkcciinapkeaiaaDoor.By Go.Proofs.YtkcciinapkeaiaaDoorW.PrintWords Go.Proofs.YtkcciinapkeaiaaDoorW.PrintLast
set_option linter.unusedVariables false
set_option linter.unusedSimpArgs false

def cmpI (a b : Int) : Int := if a < b then -1 else if b < a then 1 else 0
theorem orderI_f (a b : Int) : spec_orderInts.f a b = some (cmpI a b) := by
 unfold spec_orderInts.f cmpI
 split
 ·rfl
 ·split
  ·rfl
  ·rfl
theorem bless : ∀ a b : List UInt8, Op.bytesLess a b = decide (Lib.compareBytes a b = -1)
 | [], [] => rfl
 | [], _ :: _ => rfl
 | _ :: _, [] => rfl
 | x :: a, y :: b => by
  rw [Op.bytesLess, Lib.compareBytes, bless a b]
  by_cases h : x < y
  ·rw [if_pos h]
   simp [h]
  ·rw [if_neg h]
   by_cases h2 : y < x
   ·rw [if_pos h2]
    have : ¬ x = y := fun e => by subst e; exact h h2
    simp [h, this]
   ·rw [if_neg h2]
    have : x = y := UInt8.toNat_inj.1 (by have h : ¬ x.toNat < y.toNat := h; have h2 : ¬ y.toNat < x.toNat := h2; omega)
    subst this
    simp [h]
theorem cmpB_range : ∀ a b : List UInt8, Lib.compareBytes a b = -1 ∨ Lib.compareBytes a b = 0 ∨ Lib.compareBytes a b = 1
 | [], [] => .inr (.inl rfl)
 | [], _ :: _ => .inl rfl
 | _ :: _, [] => .inr (.inr rfl)
 | x :: a, y :: b => by
  rw [Lib.compareBytes]
  split
  ·exact .inl rfl
  ·split
   ·exact .inr (.inr rfl)
   ·exact cmpB_range a b
theorem cmpB_anti : ∀ a b : List UInt8, Lib.compareBytes b a = -Lib.compareBytes a b
 | [], [] => rfl
 | [], _ :: _ => rfl
 | _ :: _, [] => rfl
 | x :: a, y :: b => by
  rw [Lib.compareBytes, Lib.compareBytes, cmpB_anti a b]
  by_cases h : x < y
  ·have h2 : ¬ y < x := fun h2 => by have h : x.toNat < y.toNat := h; have h2 : y.toNat < x.toNat := h2; omega
   rw [if_pos h, if_neg h2, if_pos h]; rfl
  ·by_cases h2 : y < x
   ·rw [if_pos h2, if_neg h, if_pos h2]
   ·rw [if_neg h2, if_neg h, if_neg h, if_neg h2]
theorem order_f (a b : List UInt8) : spec_order.f (ofL a) (ofL b) = some (Lib.compareBytes a b) := by
 unfold spec_order.f
 rw [toList_ofL, toList_ofL, bless, bless, cmpB_anti a b]
 rcases cmpB_range a b with h | h | h <;> rw [h] <;> rfl
/-- Digits without the zeros ahead. -/
def stripZ (l : List UInt8) : List UInt8 := l.dropWhile (· == 48)
def cmpD (a b : List UInt8) : Int := if (stripZ a).length = (stripZ b).length then Lib.compareBytes (stripZ a) (stripZ b) else cmpI ((stripZ a).length : Int) ((stripZ b).length : Int)
theorem strip_not (c : UInt8) (l : List UInt8) (e : ¬ c = 48) : stripZ (c :: l) = c :: l := by
 rw [stripZ, List.dropWhile_cons, if_neg (by simpa using e)]
theorem ext1 (c : UInt8) (r : List UInt8) : (ofL (c :: r)).extract 1 (ofL (c :: r)).size = ofL r := by
 rw [ofL_size, ofL_extract, List.take_length]
 rfl
theorem onum3 (a b : List UInt8) : Ev (fun k => spec_orderNumbers.j3 k (ofL a) (ofL b)) (if a.length = b.length then Lib.compareBytes a b else cmpI (a.length : Int) (b.length : Int)) := by
 refine Ev.step (fun _ => by rw [spec_orderNumbers.j3, ofL_size, ofL_size, order_f, orderI_f]) ?_
 by_cases h : a.length = b.length
 ·rw [if_pos h]
  exact ev_pos (by omega) (ev_now rfl)
 ·rw [if_neg h]
  exact ev_neg (by omega) (ev_now rfl)
theorem onum1 (a : List UInt8) : ∀ (b : List UInt8), b.length ≤ 140737488351232 → Ev (fun k => spec_orderNumbers.l1 k (ofL a) (ofL b)) (if a.length = (stripZ b).length then Lib.compareBytes a (stripZ b) else cmpI (a.length : Int) ((stripZ b).length : Int))
 | [], _ => Ev.step (fun _ => by rw [spec_orderNumbers.l1]) (ev_neg (by rw [ofL_size]; simp) (onum3 a []))
 | c :: b, h => by
  have hb : bt (ofL (c :: b)) 0 = (c.toNat : Int) := bt_ofL (c :: b) 0 (by simp)
  have hs := ofL_size (c :: b)
  have hl : (c :: b).length = b.length + 1 := rfl
  refine Ev.step (fun _ => by rw [spec_orderNumbers.l1, hb, ext1]) (ev_pos (by omega) (ev_pos (by omega) ?_))
  by_cases e : c = 48
  ·subst e
   refine ev_pos rfl (ev_pos (by omega) ?_)
   have := onum1 a b (by omega)
   rw [show stripZ (48 :: b) = stripZ b from rfl]
   exact this
  ·refine ev_neg (fun h => e (UInt8.toNat_inj.1 (by have : (48 : UInt8).toNat = 48 := rfl; omega))) ?_
   rw [strip_not c b e]
   exact onum3 a (c :: b)
theorem onum0 (b : List UInt8) (hb0 : b.length ≤ 140737488351232) : ∀ (a : List UInt8), a.length ≤ 140737488351232 → Ev (fun k => spec_orderNumbers.l0 k (ofL a) (ofL b)) (cmpD a b)
 | [], _ => Ev.step (fun _ => by rw [spec_orderNumbers.l0]) (ev_neg (by rw [ofL_size]; simp) (Ev.step (fun _ => by rw [spec_orderNumbers.j1]) (onum1 [] b hb0)))
 | c :: a, h => by
  have hb : bt (ofL (c :: a)) 0 = (c.toNat : Int) := bt_ofL (c :: a) 0 (by simp)
  have hs := ofL_size (c :: a)
  have hl : (c :: a).length = a.length + 1 := rfl
  refine Ev.step (fun _ => by rw [spec_orderNumbers.l0, hb, ext1]) (ev_pos (by omega) (ev_pos (by omega) ?_))
  by_cases e : c = 48
  ·subst e
   refine ev_pos rfl (ev_pos (by omega) ?_)
   have := onum0 b hb0 a (by omega)
   rw [cmpD, show stripZ (48 :: a) = stripZ a from rfl]
   exact this
  ·refine ev_neg (fun h => e (UInt8.toNat_inj.1 (by have : (48 : UInt8).toNat = 48 := rfl; omega))) ?_
   rw [cmpD, strip_not c a e]
   exact Ev.step (fun _ => by rw [spec_orderNumbers.j1]) (onum1 (c :: a) b hb0)
theorem orderNumbers_ev (a b : List UInt8) (ha : a.length ≤ 140737488351232) (hb : b.length ≤ 140737488351232) : Ev (fun k => spec_orderNumbers.f k (ofL a) (ofL b)) (cmpD a b) := onum0 b hb a ha
end Go.Proofs.YtkcciinapkeaiaaDoor.Com

namespace Go.Proofs.YtkcciinapkeaiaaDoor.Cw
open Go Go.RowKit Go.Proofs.YtkcciinapkeaiaaDoor.Z Go.Proofs.YtkcciinapkeaiaaDoor.Evs Go.Proofs.YtkcciinapkeaiaaDoor.By Go.Proofs.YtkcciinapkeaiaaDoor.Bv Go.Proofs.YtkcciinapkeaiaaDoorW.PrintWords Go.Proofs.YtkcciinapkeaiaaDoorW.PrintLast
set_option linter.unusedVariables false
set_option linter.unusedSimpArgs false

/-- A number by its sign and magnitude. -/
def zv (neg : Bool) (l : List UInt8) : Int := if neg then -beV l else beV l
def tidyL (l : List UInt8) : List UInt8 := l.dropWhile (· == 0)
theorem tidy_val (l : List UInt8) : beV (tidyL l) = beV l := by
 induction l with
 | nil => rfl
 | cons c l ih =>
  unfold tidyL
  rw [List.dropWhile_cons]
  split
  ·rename_i h
   have h0 : c = 0 := by simpa using h
   subst h0
   rw [show List.dropWhile (fun x => x == 0) l = tidyL l from rfl, ih, beV]
   have : ((0 : UInt8).toNat : Int) = 0 := rfl
   rw [this, Int.zero_mul, Int.zero_add]
  ·rfl
theorem tidy_head (l : List UInt8) (c : UInt8) (r : List UInt8) (h : tidyL l = c :: r) : 1 ≤ c.toNat := by
 induction l with
 | nil => simp [tidyL] at h
 | cons x l ih =>
  unfold tidyL at h
  rw [List.dropWhile_cons] at h
  split at h
  ·exact ih h
  ·rename_i hx
   obtain ⟨rfl, _⟩ := List.cons.inj h
   rcases Nat.eq_zero_or_pos x.toNat with h0 | h0
   ·exact absurd (by simpa using UInt8.toNat_inj.1 (show x.toNat = (0 : UInt8).toNat from h0)) hx
   ·exact h0
theorem isEmpty_ofL (l : List UInt8) : (ofL l).toList.isEmpty = l.isEmpty := by rw [toList_ofL]
theorem tidy_l (neg : Bool) (n : Nat) : ∀ l : List UInt8, l.length = n → n ≤ 140737488351232 → Ev (fun k => spec_numTidy.l0 k neg (ofL l)) (neg && !(tidyL l).isEmpty, ofL (tidyL l)) := by
 induction n with
 | zero =>
  intro l h hl
  have : l = [] := List.length_eq_zero_iff.1 h
  subst this
  refine Ev.step (fun _ => by rw [spec_numTidy.l0]) (ev_neg (by rw [ofL_size]; simp) ?_)
  cases neg with
  | true => exact ev_t (ev_now (by rw [isEmpty_ofL]; rfl))
  | false => exact ev_f (ev_now rfl)
 | succ n ih =>
  intro l h hl
  obtain ⟨c, r, rfl⟩ : ∃ c r, l = c :: r := by
   cases l with
   | nil => simp at h
   | cons c r => exact ⟨c, r, rfl⟩
  have hb : bt (ofL (c :: r)) 0 = (c.toNat : Int) := bt_ofL (c :: r) 0 (by simp)
  have hs := ofL_size (c :: r)
  have hx : (ofL (c :: r)).extract 1 (ofL (c :: r)).size = ofL r := by rw [hs, ofL_extract, List.take_of_length_le (Nat.le_refl _)]; rfl
  refine Ev.step (fun _ => by rw [spec_numTidy.l0, hb, hx]) (ev_pos (by omega) (ev_pos (by omega) ?_))
  by_cases h0 : c = 0
  ·subst h0
   refine ev_pos rfl (ev_pos (by omega) ?_)
   exact ih r (by simpa using h) (by omega)
  ·have hne : ¬ (c.toNat : Int) = 0 := fun hh => h0 (UInt8.toNat_inj.1 (show c.toNat = (0 : UInt8).toNat by have : (0 : UInt8).toNat = 0 := rfl; omega))
   have ht : tidyL (c :: r) = c :: r := by
    unfold tidyL
    rw [List.dropWhile_cons, if_neg (by simpa using h0)]
   rw [ht]
   refine ev_neg hne ?_
   cases neg with
   | true => exact ev_t (ev_now (by rw [isEmpty_ofL]; rfl))
   | false => exact ev_f (ev_now rfl)
theorem tidy_ev (neg : Bool) (l : List UInt8) (hl : l.length ≤ 140737488351232) : Ev (fun k => spec_numTidy.f k neg (ofL l)) (neg && !(tidyL l).isEmpty, ofL (tidyL l)) := tidy_l neg l.length l rfl hl
theorem less_val : ∀ a b : List UInt8, a.length = b.length → (Op.bytesLess a b = true ↔ beV a < beV b)
 | [], [], _ => by simp [Op.bytesLess, beV]
 | [], _ :: _, h => by simp at h
 | _ :: _, [], h => by simp at h
 | x :: a, y :: b, h => by
  have hl : a.length = b.length := by simpa using h
  have ih := less_val a b hl
  have ha := beV_lt a
  have hb := beV_lt b
  have na := beV_nonneg a
  have nb := beV_nonneg b
  unfold beV
  rw [hl] at ha ⊢
  simp only [Op.bytesLess, Bool.or_eq_true, Bool.and_eq_true, decide_eq_true_eq, beq_iff_eq, ih]
  have hP := pow256_pos b.length
  rcases Nat.lt_trichotomy x.toNat y.toNat with h1 | h1 | h1
  ·have hlt : x < y := h1
   have := mul_step hP (show (x.toNat : Int) + 1 ≤ (y.toNat : Int) by omega)
   exact ⟨fun _ => by omega, fun _ => .inl hlt⟩
  ·have e : x = y := UInt8.toNat_inj.1 h1
   subst e
   have hn : ¬ x < x := fun h' => by have h' : x.toNat < x.toNat := h'; omega
   constructor
   ·rintro (h' | ⟨_, h'⟩)
    ·exact absurd h' hn
    ·omega
   ·intro h'
    exact .inr ⟨rfl, by omega⟩
  ·have hn : ¬ x < y := fun h' => by have h' : x.toNat < y.toNat := h'; omega
   have hne : ¬ x = y := fun e => by subst e; omega
   have := mul_step hP (show (y.toNat : Int) + 1 ≤ (x.toNat : Int) by omega)
   constructor
   ·rintro (h' | ⟨h', _⟩)
    ·exact absurd h' hn
    ·exact absurd h' hne
   ·intro h'
    omega
theorem order_val (a b : List UInt8) (h : a.length = b.length) : spec_order.f (ofL a) (ofL b) = some (cmpZ (beV a) (beV b)) := by
 unfold spec_order.f cmpZ
 rw [toList_ofL, toList_ofL]
 by_cases h1 : beV a < beV b
 ·rw [if_pos ((less_val a b h).2 h1), if_pos h1]
 ·rw [if_neg (fun h' => h1 ((less_val a b h).1 h')), if_neg h1]
  by_cases h2 : beV b < beV a
  ·rw [if_pos ((less_val b a h.symm).2 h2), if_pos h2]
  ·rw [if_neg (fun h' => h2 ((less_val b a h.symm).1 h')), if_neg h2]
theorem len_val (a b : List UInt8) (h : a.length < b.length) (c : UInt8) (r : List UInt8) (hb : b = c :: r) (hc : 1 ≤ c.toNat) : beV a < beV b := by
 subst hb
 have h1 := beV_lt a
 have h2 := beV_nonneg r
 have h3 : (256 : Int) ^ a.length ≤ 256 ^ r.length := by
  have : (256 : Nat) ^ a.length ≤ 256 ^ r.length := Nat.pow_le_pow_right (by decide) (by simp at h; omega)
  have e2 : ((256 ^ a.length : Nat) : Int) ≤ ((256 ^ r.length : Nat) : Int) := Int.ofNat_le.2 this
  rwa [Int.natCast_pow, Int.natCast_pow] at e2
 have h4 : 1 * (256 : Int) ^ r.length ≤ (c.toNat : Int) * 256 ^ r.length := Int.mul_le_mul_of_nonneg_right (by omega) (by have := pow256_pos r.length; omega)
 rw [show beV (c :: r) = (c.toNat : Int) * 256 ^ r.length + beV r from rfl]
 omega
theorem orderInts_f (a b : Int) : spec_orderInts.f a b = some (cmpZ a b) := by
 unfold spec_orderInts.f cmpZ
 split
 ·rfl
 ·split
  ·rfl
  ·rfl
theorem cmpZ_same {a b c d : Int} (h1 : a < b ↔ c < d) (h2 : b < a ↔ d < c) : cmpZ a b = cmpZ c d := by
 unfold cmpZ
 by_cases x : a < b
 ·rw [if_pos x, if_pos (h1.1 x)]
 ·rw [if_neg x, if_neg (fun h => x (h1.2 h))]
  by_cases y : b < a
  ·rw [if_pos y, if_pos (h2.1 y)]
  ·rw [if_neg y, if_neg (fun h => y (h2.2 h))]
theorem j2_ev (n0 n1 : Bool) (a b : List UInt8) : Ev (fun k => spec_intOrder.j2 k n0 (ofL (tidyL a)) n1 (ofL (tidyL b))) (cmpZ (beV a) (beV b)) := by
 have va := tidy_val a
 have vb := tidy_val b
 refine Ev.step (fun _ => by rw [spec_intOrder.j2, ofL_size, ofL_size]) ?_
 by_cases h : (tidyL a).length = (tidyL b).length
 ·refine ev_pos (by omega) ?_
  rw [order_val _ _ h, va, vb]
  exact ev_now rfl
 ·refine ev_neg (by omega) ?_
  rw [orderInts_f]
  refine ev_now ?_
  by_cases h1 : (tidyL a).length < (tidyL b).length
  ·obtain ⟨c, r, hb⟩ : ∃ c r, tidyL b = c :: r := by
    cases hx : tidyL b with
    | nil => rw [hx] at h1; simp at h1
    | cons c r => exact ⟨c, r, rfl⟩
   have := len_val _ _ h1 c r hb (tidy_head b c r hb)
   exact cmpZ_same (by omega) (by omega)
  ·obtain ⟨c, r, ha⟩ : ∃ c r, tidyL a = c :: r := by
    cases hx : tidyL a with
    | nil => rw [hx, List.length_nil] at h h1; omega
    | cons c r => exact ⟨c, r, rfl⟩
   have := len_val (tidyL b) (tidyL a) (by omega) c r ha (tidy_head a c r ha)
   exact cmpZ_same (by omega) (by omega)
theorem tidy_empty {l : List UInt8} (h : (tidyL l).isEmpty = true) : beV l = 0 := by
 rw [← tidy_val, List.isEmpty_iff.1 h]
 rfl
theorem tidy_full {l : List UInt8} (h : (tidyL l).isEmpty = false) : 1 ≤ beV l := by
 obtain ⟨c, r, hc⟩ : ∃ c r, tidyL l = c :: r := by
  cases hx : tidyL l with
  | nil => rw [hx] at h; simp at h
  | cons c r => exact ⟨c, r, rfl⟩
 have := len_val [] (tidyL l) (by rw [hc]; simp) c r hc (tidy_head l c r hc)
 rw [tidy_val] at this
 have e : beV [] = 0 := rfl
 omega
theorem intOrder_ev (n0 n1 : Bool) (a b : List UInt8) (ha : a.length ≤ 140737488351232) (hb : b.length ≤ 140737488351232) : Ev (fun k => spec_intOrder.f k n0 (ofL a) n1 (ofL b)) (cmpZ (zv n0 a) (zv n1 b)) := by
 unfold spec_intOrder.f
 refine Ev.bind (tidy_ev n0 a ha) (Ev.bind (tidy_ev n1 b hb) ?_)
 unfold zv
 have na := beV_nonneg a
 have nb := beV_nonneg b
 have step : ∀ x y : Bool, x = true → y = true → x = y := fun x y hx hy => hx.trans hy.symm
 cases h0 : (n0 && !(tidyL a).isEmpty) with
 | true =>
  obtain ⟨rfl, e0⟩ : n0 = true ∧ (tidyL a).isEmpty = false := by simpa using h0
  have pa := tidy_full e0
  refine ev_t ?_
  cases h1 : (n1 && !(tidyL b).isEmpty) with
  | true =>
   obtain ⟨rfl, e1⟩ : n1 = true ∧ (tidyL b).isEmpty = false := by simpa using h1
   refine Ev.step (fun _ => by rw [spec_intOrder.j0]) (ev_neg (by simp) (ev_t ?_))
   refine Ev.step (fun _ => by rw [spec_intOrder.j1]) (ev_f (ev_t ?_))
   refine ev_eq (j2_ev _ _ b a) ?_
   exact cmpZ_same (by first | (simp; done) | (simp; omega)) (by first | (simp; done) | (simp; omega))
  | false =>
   have hb0 : 0 ≤ (if n1 = true then -beV b else beV b) := by
    cases n1 with
    | false => simpa using nb
    | true =>
     have := tidy_empty (show (tidyL b).isEmpty = true by simpa using h1)
     rw [this]
     decide
   refine Ev.step (fun _ => by rw [spec_intOrder.j0]) (ev_pos (by simp) (ev_now ?_))
   unfold cmpZ
   rw [if_pos (by simp; omega)]
 | false =>
  have ha0 : (if n0 = true then -beV a else beV a) = beV a := by
   cases n0 with
   | false => rfl
   | true =>
    have := tidy_empty (show (tidyL a).isEmpty = true by simpa using h0)
    rw [this]
    rfl
  rw [ha0]
  refine ev_f (Ev.step (fun _ => by rw [spec_intOrder.j0]) (ev_f (ev_f ?_)))
  cases h1 : (n1 && !(tidyL b).isEmpty) with
  | true =>
   obtain ⟨rfl, e1⟩ : n1 = true ∧ (tidyL b).isEmpty = false := by simpa using h1
   have pb := tidy_full e1
   refine Ev.step (fun _ => by rw [spec_intOrder.j1]) (ev_t (ev_now ?_))
   unfold cmpZ
   rw [if_neg (by simp; omega), if_pos (by simp; omega)]
  | false =>
   have hb0 : (if n1 = true then -beV b else beV b) = beV b := by
    cases n1 with
    | false => rfl
    | true =>
     have := tidy_empty (show (tidyL b).isEmpty = true by simpa using h1)
     rw [this]
     rfl
   rw [hb0]
   exact Ev.step (fun _ => by rw [spec_intOrder.j1]) (ev_f (ev_f (j2_ev _ _ a b)))
end Go.Proofs.YtkcciinapkeaiaaDoor.Cw

namespace Go.Proofs.YtkcciinapkeaiaaDoor.Com
open Go Go.RowKit Go.Proofs.YtkcciinapkeaiaaDoor.Z Go.Proofs.YtkcciinapkeaiaaDoor.Evs Go.Proofs.YtkcciinapkeaiaaDoor.By Go.Proofs.YtkcciinapkeaiaaDoor.Bv Go.Proofs.YtkcciinapkeaiaaDoorW.PrintWords Go.Proofs.YtkcciinapkeaiaaDoorW.PrintLast
set_option linter.unusedVariables false
set_option linter.unusedSimpArgs false

theorem rd_mid (pre rest : List Int) (x : Int) : rd (pre ++ x :: rest) (pre.length : Int) = x := by
 rw [rd_nat, List.getD_eq_getElem?_getD, List.getElem?_append_right (Nat.le_refl _), Nat.sub_self]
 rfl
theorem set_mid (pre rest : List Int) (x y : Int) : (pre ++ x :: rest).set pre.length y = (pre ++ [y]) ++ rest := by
 rw [List.set_append_right _ _ (Nat.le_refl _), Nat.sub_self]
 simp
theorem int_l1 (s : List UInt8) (i : Int) (r : Bool × ByteArray) : ∀ (rest pre : List Int) (c : Int), Byt rest → 0 ≤ c → c ≤ 9 → pre.length + rest.length ≤ 1000000 →
  Ev (fun k => spec_intOf.l0 k (ofL s) (pre ++ mulA rest c) (wrap64 (i + 1))) r → Ev (fun k => spec_intOf.l1 k (ofL s) (pre ++ rest) i c (pre.length : Int)) r
 | [], pre, c, _, h0, h9, hl, hk => by
  rw [List.append_nil]
  refine Ev.step (fun _ => by rw [spec_intOf.l1]) ?_
  refine ev_neg (by omega) ?_
  rw [mulA] at hk
  have hl' : pre.length + 0 ≤ 1000000 := hl
  by_cases hc : 0 < c
  ·rw [if_pos hc] at hk
   refine ev_pos hc (ev_pos (by omega) ?_)
   have e : c % 256 = c := by omega
   rw [e]
   exact hk
  ·rw [if_neg hc, List.append_nil] at hk
   exact ev_neg (by omega) hk
 | x :: rest, pre, c, hb, h0, h9, hl, hk => by
  have hx := hb.head
  have hl' : (x :: rest).length = rest.length + 1 := rfl
  have hlen : (pre ++ x :: rest).length = pre.length + (x :: rest).length := List.length_append
  have e1 : wrap64 (rd (pre ++ x :: rest) (pre.length : Int)) = x := by rw [rd_mid, wrap_in (by omega) (by omega)]
  have e2 : wrap64 (10 * x) = 10 * x := wrap_in (by omega) (by omega)
  have e3 : wrap64 (c + 10 * x) = c + 10 * x := wrap_in (by omega) (by omega)
  have e4 : Int.tmod (c + 10 * x) 256 % 256 = (c + 10 * x) % 256 := by
   rw [Int.tmod_eq_emod_of_nonneg (by omega)]
   omega
  have e5 : wrap64 (Int.tdiv (c + 10 * x) 256) = (c + 10 * x) / 256 := by
   rw [Int.tdiv_eq_ediv_of_nonneg (by omega), wrap_in (by omega) (by omega)]
  have e6 : wrap64 ((pre.length : Int) + 1) = ((pre ++ [(c + 10 * x) % 256]).length : Int) := by
   rw [wrap_nat (by omega), List.length_append, List.length_singleton]
  refine Ev.step (fun _ => by rw [spec_intOf.l1, e1, e2, e3, e4, e5, Int.toNat_natCast, set_mid, e6]) ?_
  refine ev_pos (by omega) (ev_pos (by omega) ?_)
  refine int_l1 s i r rest (pre ++ [(c + 10 * x) % 256]) ((c + 10 * x) / 256) hb.tail (by omega) (by omega) (by rw [List.length_append, List.length_singleton]; omega) ?_
  rw [mulA] at hk
  rw [List.append_assoc]
  exact hk
theorem int_l2 (m : List Int) (hm : m.length ≤ 1000000) (d : Nat) : ∀ j : Nat, j + d = m.length → Ev (fun k => spec_intOf.l2 k m (List.replicate d 0 ++ (m.take j).reverse) (j : Int)) (false, strOfNums m.reverse) := by
 induction d with
 | zero =>
  intro j h
  refine Ev.step (fun _ => by rw [spec_intOf.l2]) (ev_neg (by omega) (ev_now ?_))
  rw [List.take_of_length_le (by omega)]
  rfl
 | succ d ih =>
  intro j h
  have hj : j < m.length := by omega
  have e1 : wrap64 ((m.length : Int) - 1) = (m.length : Int) - 1 := wrap_in (by omega) (by omega)
  have e2 : wrap64 ((m.length : Int) - 1 - (j : Int)) = (d : Int) := by rw [wrap_in (by omega) (by omega)]; omega
  have e3 : rd m (j : Int) = m[j] := by
   rw [rd_nat, List.getD_eq_getElem?_getD, List.getElem?_eq_getElem hj]
   rfl
  have e4 : (List.replicate (d + 1) (0 : Int) ++ (m.take j).reverse).set d m[j] = List.replicate d 0 ++ (m.take (j + 1)).reverse := by
   rw [List.take_succ_eq_append_getElem hj, List.reverse_append, List.reverse_singleton, List.replicate_succ', List.append_assoc, List.set_append_right _ _ (by simp), List.length_replicate, Nat.sub_self]
   rfl
  have hlen : (List.replicate (d + 1) (0 : Int) ++ (m.take j).reverse).length = m.length := by
   rw [List.length_append, List.length_replicate, List.length_reverse, List.length_take]
   omega
  refine Ev.step (fun _ => by rw [spec_intOf.l2, e1, e2, e3, Int.toNat_natCast, e4, wrap_nat (by omega)]) ?_
  exact ev_pos (by omega) (ev_pos (by omega) (ev_pos (by omega) (ev_pos (by omega) (ih (j + 1) (by omega)))))
theorem int_l0 (s : List UInt8) (hs : s.length ≤ 100000) (hd : s.all dg = true) (d : Nat) : ∀ i : Nat, i + d = s.length → Ev (fun k => spec_intOf.l0 k (ofL s) (magL (s.take i)) (i : Int)) (false, strOfNums (magL s).reverse) := by
 have hz := ofL_size s
 induction d with
 | zero =>
  intro i h
  have hm := (mag_all s.length s rfl hd).2.2.2
  rw [List.take_of_length_le (by omega)]
  refine Ev.step (fun _ => by rw [spec_intOf.l0, Int.toNat_natCast]) ?_
  refine ev_neg (by omega) (ev_pos (by omega) (ev_pos (by omega) ?_))
  have := int_l2 (magL s) (by omega) (magL s).length 0 (by omega)
  simpa using this
 | succ d ih =>
  intro i h
  have hi : i < s.length := by omega
  have hc := bt_ofL s i hi
  have hall : (s.take i).all dg = true := by
   rw [List.all_eq_true] at *
   exact fun c hc => hd c (List.mem_of_mem_take hc)
  obtain ⟨m1, m2, m3, m4⟩ := mag_all (s.take i).length (s.take i) rfl hall
  have hdi : dg s[i] = true := List.all_eq_true.1 hd _ (List.getElem_mem hi)
  have hr := dv_range hdi
  have e1 : ((s[i].toNat : Int) - 48) % 256 = dv s[i] := by unfold dv at *; omega
  have hl : (s.take i).length ≤ i := List.length_take_le _ _
  refine Ev.step (fun _ => by rw [spec_intOf.l0, hc, e1]) ?_
  refine ev_pos (by omega) (ev_pos (by omega) ?_)
  have nx := ih (i + 1) (by omega)
  rw [List.take_succ_eq_append_getElem hi, magL_snoc, ← wrap_nat (by omega)] at nx
  exact int_l1 s (i : Int) _ (magL (s.take i)) [] (dv s[i]) m2 hr.1 hr.2 (by simp only [List.length_nil]; omega) nx
theorem intOf_ev (s : List UInt8) (hs : s.length ≤ 100000) (hd : s.all dg = true) : Ev (fun k => spec_intOf.f k (ofL s)) (false, ofL (magB s)) := by
 have := int_l0 s hs hd s.length 0 (by omega)
 rw [← magB_nums s hd, strOf_numsOf] at this
 exact this
/-- A sign ahead, and what is behind. -/
def sgn : List UInt8 → Bool × List UInt8
 | [] => (false, [])
 | c :: r => if c = 43 then (false, r) else if c = 45 then (true, r) else (false, c :: r)
/-- The number that a text is, as the reference reads it. -/
def numS (s : List UInt8) : Bool × List UInt8 × Bool := if allD (sgn s).2 then ((sgn s).1 && !(magB (sgn s).2).isEmpty, magB (sgn s).2, true) else (false, [], false)
def ofN (p : Bool × List UInt8 × Bool) : Bool × ByteArray × Bool := (p.1, ofL p.2.1, p.2.2)
theorem allD_all {l : List UInt8} (h : allD l = true) : l.all dg = true := by
 unfold allD at h
 rw [Bool.and_eq_true] at h
 exact h.1
theorem num_j1 (t : List UInt8) (ht : t.length ≤ 100000) (neg : Bool) : Ev (fun k => spec_Number.j1 k (ofL t) neg) (ofN (if allD t then (neg && !(magB t).isEmpty, magB t, true) else (false, [], false))) := by
 refine Ev.step (fun _ => by rw [spec_Number.j1]) (Ev.bind (digits_ev t (by omega)) ?_)
 cases h : allD t with
 | false => exact ev_f (ev_now rfl)
 | true =>
  refine ev_t (Ev.bind (intOf_ev t ht (allD_all h)) ?_)
  cases neg with
  | false => exact ev_f (ev_now rfl)
  | true =>
   refine ev_t (ev_now ?_)
   show (!(ofL (magB t)).toList.isEmpty, ofL (magB t), true) = _
   rw [toList_ofL]
   rfl
theorem n43 (c : UInt8) : ((c.toNat : Int) = 43) ↔ c = 43 := ⟨fun h => UInt8.toNat_inj.1 (by have : (43 : UInt8).toNat = 43 := rfl; omega), fun h => by rw [h]; rfl⟩
theorem n45 (c : UInt8) : ((c.toNat : Int) == 45) = decide (c = 45) := by
 rw [Bool.eq_iff_iff, beq_iff_eq, decide_eq_true_iff]
 exact ⟨fun h => UInt8.toNat_inj.1 (by have : (45 : UInt8).toNat = 45 := rfl; omega), fun h => by rw [h]; rfl⟩
theorem number_ev (s : List UInt8) (hs : s.length ≤ 100000) : Ev (fun k => spec_Number.f k (ofL s)) (ofN (numS s)) := by
 unfold spec_Number.f
 cases s with
 | nil =>
  refine ev_neg (by rw [ofL_size]; simp) ?_
  refine Ev.step (fun _ => by rw [spec_Number.j0]) ?_
  exact ev_f (num_j1 [] (by simp) false)
 | cons c r =>
  have hb : bt (ofL (c :: r)) 0 = (c.toNat : Int) := bt_ofL (c :: r) 0 (by simp)
  have hz := ofL_size (c :: r)
  have hl : (c :: r).length = r.length + 1 := rfl
  have hx : (ofL (c :: r)).extract 1 (ofL (c :: r)).size = ofL r := by
   rw [ofL_size, ofL_extract, List.take_length]
   rfl
  rw [hb, n45]
  refine ev_pos (by omega) (ev_pos (by omega) ?_)
  by_cases h1 : c = 43
  ·refine ev_pos ((n43 c).2 h1) ?_
   refine Ev.step (fun _ => by rw [spec_Number.j0, hb, n45, hx]) ?_
   refine ev_t (ev_pos (by omega) (ev_pos (by omega) ?_))
   have h2 : ¬ c = 45 := fun e => by rw [h1] at e; cases e
   rw [decide_eq_false h2, numS, show sgn (c :: r) = (false, r) from if_pos h1]
   exact num_j1 r (by omega) false
  ·refine ev_neg (fun h => h1 ((n43 c).1 h)) ?_
   by_cases h2 : c = 45
   ·rw [decide_eq_true h2]
    refine Ev.step (fun _ => by rw [spec_Number.j0, hb, n45, hx, decide_eq_true h2]) ?_
    refine ev_t (ev_pos (by omega) (ev_pos (by omega) ?_))
    rw [numS, show sgn (c :: r) = (true, r) from (if_neg h1).trans (if_pos h2)]
    exact num_j1 r (by omega) true
   ·rw [decide_eq_false h2]
    refine Ev.step (fun _ => by rw [spec_Number.j0]) ?_
    rw [numS, show sgn (c :: r) = (false, c :: r) from (if_neg h1).trans (if_neg h2)]
    exact ev_f (num_j1 (c :: r) (by omega) false)
end Go.Proofs.YtkcciinapkeaiaaDoor.Com

namespace Go.Proofs.YtkcciinapkeaiaaDoor.Com
open Go Go.RowKit Go.Proofs.YtkcciinapkeaiaaDoor.Z Go.Proofs.YtkcciinapkeaiaaDoor.Evs Go.Proofs.YtkcciinapkeaiaaDoor.By Go.Proofs.YtkcciinapkeaiaaDoor.Bv Go.Proofs.YtkcciinapkeaiaaDoor.Ss Go.Proofs.YtkcciinapkeaiaaDoorW.PrintWords Go.Proofs.YtkcciinapkeaiaaDoorW.PrintLast
set_option linter.unusedVariables false
set_option linter.unusedSimpArgs false
theorem sg_of (l : List UInt8) : l.drop (sgN (ofL l)) = (sgn l).2 ∧ sgB (ofL l) = (sgn l).1 := by
 cases l with
 | nil => exact ⟨rfl, rfl⟩
 | cons c r =>
  have h0 : 0 < (ofL (c :: r)).size := by rw [ofL_size]; simp
  have hg : (ofL (c :: r))[0]'h0 = c := rfl
  have e : sgn (c :: r) = if c = 43 then (false, r) else if c = 45 then (true, r) else (false, c :: r) := rfl
  unfold sgN sgB
  rw [dif_pos h0, dif_pos h0, hg, e]
  by_cases h1 : c = 43
  ·subst h1
   exact ⟨rfl, rfl⟩
  ·rw [if_neg h1]
   by_cases h2 : c = 45
   ·subst h2
    exact ⟨rfl, rfl⟩
   ·rw [if_neg h2, if_neg (by simp [h1, h2])]
    exact ⟨rfl, beq_eq_false_iff_ne.2 h2⟩
/-- The number that a text is. -/
def valS (l : List UInt8) : Option Int := if allD (sgn l).2 then some (if (sgn l).1 then -decV (sgn l).2 else decV (sgn l).2) else none
theorem cvt_val (l : List UInt8) : cvt (ofL l) = valS l := by
 obtain ⟨h1, h2⟩ := sg_of l
 unfold cvt valS
 rw [bl_ofL, h1, h2]
 by_cases ha : allD (sgn l).2 = true
 ·have hb := ha
  unfold allD at hb
  rw [Bool.and_eq_true] at hb
  have hl : 0 < (sgn l).2.length := of_decide_eq_true hb.2
  rw [if_pos ha, if_pos ⟨fun h => by rw [h] at hl; simp at hl, hb.1⟩]
 ·rw [if_neg ha, if_neg]
  rintro ⟨h3, h4⟩
  apply ha
  unfold allD
  rw [h4, decide_eq_true (List.length_pos_iff.2 h3)]
  rfl
theorem numS_cvt (l : List UInt8) : ofN (numS l) = match cvt (ofL l) with | none => (false, (⟨#[]⟩ : ByteArray), false) | some z => (decide (z < 0), plainS z, true) := by
 rw [cvt_val]
 unfold valS numS ofN
 by_cases ha : allD (sgn l).2 = true
 ·rw [if_pos ha, if_pos ha]
  have hd := allD_all ha
  have h0 := (decV_bounds _ hd).1
  have hv := magB_val _ hd
  have hc := magB_can _ hd
  have hz : ((sgn l).2 |> decV).natAbs = (decV (sgn l).2).toNat := by omega
  have hm : magB (sgn l).2 = magOf (decV (sgn l).2).toNat := magOf_of hc (by rw [hv]; omega)
  have he : decide (0 < decV (sgn l).2) = !(magB (sgn l).2).isEmpty := by
   cases hb : magB (sgn l).2 with
   | nil =>
    rw [hb] at hv
    have : (0 : Int) = decV (sgn l).2 := hv
    rw [← this]
    rfl
   | cons x r =>
    rw [hb] at hv hc
    have h1 := canB_pos hc
    have h2 := beV_nonneg r
    have h3 := pow256_pos r.length
    have h4 : beV (x :: r) = (x.toNat : Int) * 256 ^ r.length + beV r := rfl
    have h5 : (1 : Int) * 1 ≤ (x.toNat : Int) * 256 ^ r.length := Int.mul_le_mul (by omega) h3 (by omega) (by omega)
    have h6 : 0 < decV (sgn l).2 := by omega
    rw [decide_eq_true h6]
    rfl
  show ((sgn l).1 && !(magB (sgn l).2).isEmpty, ofL (magB (sgn l).2), true) = (decide ((if (sgn l).1 = true then -decV (sgn l).2 else decV (sgn l).2) < 0), plainS _, true)
  have hp : plainS (if (sgn l).1 = true then -decV (sgn l).2 else decV (sgn l).2) = ofL (magB (sgn l).2) := by
   unfold plainS
   rw [hm]
   congr 2
   split <;> omega
  rw [hp, ← he]
  cases hs : (sgn l).1
  ·have : decide ((if false = true then -decV (sgn l).2 else decV (sgn l).2) < 0) = false := decide_eq_false (by simp; omega)
   rw [this]
   rfl
  ·have : decide ((if true = true then -decV (sgn l).2 else decV (sgn l).2) < 0) = decide (0 < decV (sgn l).2) := by simp
   rw [this]
   rfl
 ·rw [if_neg ha, if_neg ha]
  rfl
end Go.Proofs.YtkcciinapkeaiaaDoor.Com

namespace Go.Proofs.YtkcciinapkeaiaaDoor.Com
open Go Go.RowKit Go.Proofs.YtkcciinapkeaiaaDoor.Z Go.Proofs.YtkcciinapkeaiaaDoor.Evs Go.Proofs.YtkcciinapkeaiaaDoor.By Go.Proofs.YtkcciinapkeaiaaDoor.Lx Go.Proofs.YtkcciinapkeaiaaDoorW.PrintWords Go.Proofs.YtkcciinapkeaiaaDoorW.PrintLast
set_option linter.unusedVariables false
set_option linter.unusedSimpArgs false
/-! digits -/
theorem run_l (l : List UInt8) (hl : l.length ≤ 100000) (d : Nat) : ∀ i : Nat, i + d = l.length → (∀ x ∈ l.take i, dg x = true) → Ev (fun k => spec_debRun.l0 k (ofL l) (i : Int)) ((l.takeWhile dg).length : Int) := by
 have hs := ofL_size l
 induction d with
 | zero =>
  intro i h hp
  refine Ev.step (fun _ => by rw [spec_debRun.l0]) ?_
  refine ev_neg (by omega) (ev_now ?_)
  rw [List.take_of_length_le (by omega)] at hp
  have := List.takeWhile_append_dropWhile (p := dg) (l := l)
  have e : l.takeWhile dg = l := by
   have h2 := List.takeWhile_append_of_pos (p := dg) (l₁ := l) (l₂ := []) hp
   simpa using h2
  rw [e]
  omega
 | succ d ih =>
  intro i h hp
  have hi : i < l.length := by omega
  obtain ⟨c, hc⟩ : ∃ c, c = l[i]'hi := ⟨_, rfl⟩
  have hb : bt (ofL l) (i : Int) = (c.toNat : Int) := by rw [hc]; exact bt_ofL l i hi
  have hw : wrap64 ((i : Int) + 1) = ((i + 1 : Nat) : Int) := wrap_nat (by omega)
  refine Ev.step (fun _ => by rw [spec_debRun.l0, hb, isDigit_f, hw]) ?_
  clear hw
  refine ev_pos (by omega) (ev_pos (by omega) (ev_some ?_))
  by_cases hd : dg c = true
  ·refine ev_pos hd (ih (i + 1) (by omega) fun x hx => ?_)
   rw [List.take_succ_eq_append_getElem hi, List.mem_append] at hx
   rcases hx with hx | hx
   ·exact hp x hx
   ·rw [← hc] at hx
    rw [List.mem_singleton.1 hx]
    exact hd
  ·refine ev_neg hd (ev_now ?_)
   have e := List.take_append_drop i l
   have e2 : l.drop i = c :: l.drop (i + 1) := by rw [hc]; exact List.drop_eq_getElem_cons hi
   have h1 : l.takeWhile dg = l.take i := by
    conv => lhs; rw [← e]
    rw [List.takeWhile_append_of_pos hp, e2, List.takeWhile_cons, if_neg hd, List.append_nil]
   rw [h1, List.length_take]
   omega
theorem run_ev (l : List UInt8) (hl : l.length ≤ 100000) : Ev (fun k => spec_debRun.f k (ofL l)) ((l.takeWhile dg).length : Int) := run_l l hl l.length 0 (by omega) (by simp)
/-! weights -/
theorem isLetter_f (c : UInt8) : spec_isLetter.f (c.toNat : Int) = some (lt c) := by
 unfold spec_isLetter.f lt
 by_cases h1 : (c.toNat : Int) ≥ 97
 ·rw [if_pos h1]
  by_cases h2 : (c.toNat : Int) ≤ 122
  ·rw [if_pos h2, decide_eq_true (by omega)]
  ·rw [if_neg h2]
   by_cases h3 : (c.toNat : Int) ≥ 65
   ·rw [if_pos h3, decide_eq_false (by omega), decide_eq_false (by omega)]
   ·exact absurd (by omega) h3
 ·rw [if_neg h1]
  by_cases h3 : (c.toNat : Int) ≥ 65
  ·rw [if_pos h3]
   by_cases h4 : (c.toNat : Int) ≤ 90
   ·rw [decide_eq_true h4, decide_eq_true (by omega)]
   ·rw [decide_eq_false h4, decide_eq_false (by omega)]
  ·rw [if_neg h3, decide_eq_false (by omega)]
def sgW (x : Int) : Int := if x ≤ 0 then x else if x ≤ 120 then x + 2 else x + 136
theorem sgW_cmp (x y : Int) : cmpI (sgW x) (sgW y) = Bn.cmpZ x y := by
 have h1 : sgW x < sgW y ↔ x < y := by unfold sgW; split <;> split <;> (try split) <;> (try split) <;> omega
 have h2 : sgW y < sgW x ↔ y < x := by unfold sgW; split <;> split <;> (try split) <;> (try split) <;> omega
 unfold cmpI Bn.cmpZ
 by_cases a : x < y
 ·rw [if_pos a, if_pos (h1.2 a)]
 ·rw [if_neg a, if_neg (fun h => a (h1.1 h))]
  by_cases b : y < x
  ·rw [if_pos b, if_pos (h2.2 b)]
  ·rw [if_neg b, if_neg (fun h => b (h2.1 h))]
theorem dbw_ne (c : UInt8) (h0 : c ≠ 0) : dbw c ≠ 0 := by
 have hn : c.toNat ≠ 0 := fun h => h0 (UInt8.toNat_inj.1 (by rw [h]; rfl))
 unfold dbw lt
 split
 ·omega
 ·split
  ·rename_i h
   have := of_decide_eq_true h
   omega
  ·omega
/-- A byte's weight by the reference. -/
theorem sgW_dbw (c : UInt8) (h0 : c ≠ 0) : (if c = 126 then (-1 : Int) else if lt c = true then (c.toNat : Int) else (c.toNat : Int) + 256) = sgW (dbw c) := by
 have hn : c.toNat ≠ 0 := fun h => h0 (UInt8.toNat_inj.1 (by rw [h]; rfl))
 unfold dbw
 by_cases h1 : c = 126
 ·rw [if_pos h1, if_pos h1]
  rfl
 ·rw [if_neg h1, if_neg h1]
  by_cases h2 : lt c = true
  ·rw [if_pos h2, if_pos h2]
   have := of_decide_eq_true h2
   unfold sgW
   rw [if_neg (by omega), if_pos (by omega)]
   omega
  ·rw [if_neg h2, if_neg h2]
   unfold sgW
   rw [if_neg (by omega), if_neg (by omega)]
   omega
theorem n126 (c : UInt8) : ((c.toNat : Int) = 126) ↔ c = 126 := ⟨fun h => UInt8.toNat_inj.1 (by have : (126 : UInt8).toNat = 126 := rfl; omega), fun h => by rw [h]; rfl⟩
/-- A byte that is no digit. -/
theorem weight_in (l : List UInt8) (i : Nat) (hi : i < l.length) (c : UInt8) (hc : l[i]'hi = c) (hd : dg c = false) (h0 : c ≠ 0) : Ev (fun k => spec_debWeight.f k (ofL l) (i : Int)) (sgW (dbw c)) := by
 have hs := ofL_size l
 have hb : bt (ofL l) (i : Int) = (c.toNat : Int) := by rw [← hc]; exact bt_ofL l i hi
 have hlt : c.toNat < 256 := UInt8.toNat_lt c
 have hw : wrap64 (c.toNat : Int) = (c.toNat : Int) := wrap_in (by omega) (by omega)
 have hw2 : wrap64 ((c.toNat : Int) + 256) = (c.toNat : Int) + 256 := wrap_in (by omega) (by omega)
 unfold spec_debWeight.f
 rw [hb, isDigit_f, hd, ← sgW_dbw c h0]
 refine ev_neg (by omega) (ev_pos (by omega) (ev_pos (by omega) (ev_some ?_)))
 refine Ev.step (fun _ => by rw [spec_debWeight.j0, hb, isLetter_f, hw, hw2]) ?_
 refine ev_f (ev_pos (by omega) (ev_pos (by omega) ?_))
 by_cases h1 : c = 126
 ·exact ev_pos ((n126 c).2 h1) (ev_now (if_pos h1).symm)
 ·rw [if_neg h1]
  refine ev_neg (fun h => h1 ((n126 c).1 h)) (ev_some ?_)
  by_cases h2 : lt c = true
  ·exact ev_pos h2 (ev_now (if_pos h2).symm)
  ·exact ev_neg h2 (ev_now (if_neg h2).symm)
theorem weight_dig (l : List UInt8) (i : Nat) (hi : i < l.length) (c : UInt8) (hc : l[i]'hi = c) (hd : dg c = true) : Ev (fun k => spec_debWeight.f k (ofL l) (i : Int)) 0 := by
 have hs := ofL_size l
 have hb : bt (ofL l) (i : Int) = (c.toNat : Int) := by rw [← hc]; exact bt_ofL l i hi
 unfold spec_debWeight.f
 rw [hb, isDigit_f, hd]
 refine ev_neg (by omega) (ev_pos (by omega) (ev_pos (by omega) (ev_some ?_)))
 exact Ev.step (fun _ => by rw [spec_debWeight.j0]) (ev_t (ev_now rfl))
theorem weight_end (l : List UInt8) (i : Nat) (hi : l.length ≤ i) : Ev (fun k => spec_debWeight.f k (ofL l) (i : Int)) 0 := by
 have hs := ofL_size l
 unfold spec_debWeight.f
 refine ev_pos (by omega) ?_
 exact Ev.step (fun _ => by rw [spec_debWeight.j0]) (ev_t (ev_now rfl))
/-- A text's part ahead of digits: byte by byte. -/
theorem dbN_at (l : List UInt8) (i : Nat) (h : i < (dbN l).length) : ∃ hi : i < l.length, l[i]'hi = (dbN l)[i]'h ∧ dg ((dbN l)[i]'h) = false := by
 have hcat := dbX_all l
 have hlen := congrArg List.length hcat
 rw [List.length_append] at hlen
 have hi : i < l.length := by omega
 refine ⟨hi, ?_, ?_⟩
 ·have : (dbN l ++ dbX l)[i]? = some ((dbN l)[i]'h) := by rw [List.getElem?_append_left h, List.getElem?_eq_getElem h]
  rw [hcat, List.getElem?_eq_getElem hi] at this
  exact Option.some.inj this
 ·have := tw_mem _ l _ (List.getElem_mem h)
  simpa using this
theorem dbN_end (l : List UInt8) : (dbN l).length = l.length ∨ ∃ (hi : (dbN l).length < l.length), dg (l[(dbN l).length]'hi) = true := by
 have hcat := dbX_all l
 have hlen := congrArg List.length hcat
 rw [List.length_append] at hlen
 cases hq : dbX l with
 | nil =>
  rw [hq] at hlen
  exact .inl (by simpa using hlen)
 | cons x r =>
  rw [hq] at hlen
  have hi : (dbN l).length < l.length := by simp at hlen; omega
  refine .inr ⟨hi, ?_⟩
  have h1 : (dbN l ++ dbX l)[(dbN l).length]? = some x := by rw [List.getElem?_append_right (Nat.le_refl _), Nat.sub_self, hq]; rfl
  rw [hcat, List.getElem?_eq_getElem hi] at h1
  rw [Option.some.inj h1]
  have h2 := List.head?_dropWhile_not (fun c => !dg c) l
  have h3 : l.dropWhile (fun c => !dg c) = x :: r := hq
  rw [h3] at h2
  simpa using h2
theorem getD_dbw (l : List UInt8) (i : Nat) (h : i < l.length) : (l.map dbw).getD i 0 = dbw (l[i]'h) := by
 rw [List.getD_eq_getElem?_getD, List.getElem?_map, List.getElem?_eq_getElem h]
 rfl
theorem getD_out (l : List UInt8) (i : Nat) (h : l.length ≤ i) : (l.map dbw).getD i 0 = 0 := by
 rw [List.getD_eq_getElem?_getD, List.getElem?_map, List.getElem?_eq_none h]
 rfl
/-- The weight at a place that is reached. -/
theorem weight_ev (l : List UInt8) (h0 : l.contains 0 = false) (i : Nat) (h : i ≤ (dbN l).length) : Ev (fun k => spec_debWeight.f k (ofL l) (i : Int)) (sgW (((dbN l).map dbw).getD i 0)) := by
 rcases Nat.lt_or_ge i (dbN l).length with hi | hi
 ·obtain ⟨h1, h2, h3⟩ := dbN_at l i hi
  rw [getD_dbw _ _ hi]
  refine weight_in l i h1 _ h2 h3 fun hz => ?_
  rw [← h2] at hz
  have := List.contains_iff_mem.2 (List.getElem_mem h1)
  rw [hz, h0] at this
  cases this
 ·rw [getD_out _ _ hi]
  have e : i = (dbN l).length := by omega
  rcases dbN_end l with h1 | ⟨h1, h2⟩
  ·exact weight_end l i (by omega)
  ·subst e
   exact weight_dig l _ h1 _ rfl h2
theorem rest_cut (l : List UInt8) (hl : l.length ≤ 100000) : (ofL l).extract (dbN l).length (ofL l).size = ofL (dbX l) := by
 rw [ofL_extract, ofL_size, List.take_of_length_le (Nat.le_refl _)]
 have := List.drop_left' (l₁ := dbN l) (l₂ := dbX l) rfl
 rw [dbX_all] at this
 rw [this]
theorem cmpD_Z {a b : List UInt8} (ha : a.all dg = true) (hb : b.all dg = true) : cmpD a b = Bn.cmpZ (Bv.decV a) (Bv.decV b) := Bv.dec_cmp a b ha hb
theorem all_tw (l : List UInt8) : (l.takeWhile dg).all dg = true := by
 rw [List.all_eq_true]
 exact fun x hx => tw_mem dg l x hx
theorem no0 {l m : List UInt8} (h : l.contains 0 = false) (hs : ∀ x ∈ m, x ∈ l) : m.contains 0 = false := by
 rw [Bool.eq_false_iff] at h ⊢
 intro h2
 exact h (List.contains_iff_mem.2 (hs 0 (List.contains_iff_mem.1 h2)))
theorem dbT_sub (l : List UInt8) : ∀ x ∈ dbT l, x ∈ l := fun x hx => (List.dropWhile_sublist _).subset ((List.dropWhile_sublist _).subset hx)
/-- Both texts stand ahead of digits, or at the end. -/
theorem tail_ev (a b : List UInt8) (ha : a.length ≤ 100000) (hb : b.length ≤ 100000) (R : Int) (hn : (dbN a).length = (dbN b).length)
  (hr : Ev (fun k => spec_debParts.l0 k (ofL (dbT a)) (ofL (dbT b))) R) :
  Ev (fun k => spec_debParts.j3 k (ofL a) (ofL b) ((dbN a).length : Int) false) (if Bn.cmpZ (Bv.decV (dbD a)) (Bv.decV (dbD b)) = 0 then R else Bn.cmpZ (Bv.decV (dbD a)) (Bv.decV (dbD b))) := by
 have sa := ofL_size a
 have sb := ofL_size b
 have la := congrArg List.length (dbX_all a)
 have lb := congrArg List.length (dbX_all b)
 have da := congrArg List.length (dbD_all a)
 have db := congrArg List.length (dbD_all b)
 rw [List.length_append] at la lb da db
 have xa : (ofL a).extract ((dbN a).length : Int).toNat (ofL a).size = ofL (dbX a) := by rw [Int.toNat_natCast]; exact rest_cut a ha
 have xb : (ofL b).extract ((dbN a).length : Int).toNat (ofL b).size = ofL (dbX b) := by rw [Int.toNat_natCast, hn]; exact rest_cut b hb
 have ea : (ofL a).size - ((dbN a).length : Int).toNat = (dbX a).length := by rw [Int.toNat_natCast, sa]; omega
 have eb : (ofL b).size - ((dbN a).length : Int).toNat = (dbX b).length := by rw [Int.toNat_natCast, sb]; omega
 have cut : ∀ l : List UInt8, (ofL (dbX l)).extract 0 (((dbD l).length : Int)).toNat = ofL (dbD l) ∧ (ofL (dbX l)).extract (((dbD l).length : Int)).toNat (dbX l).length = ofL (dbT l) := fun l => by
  have h1 := List.take_left' (l₁ := dbD l) (l₂ := dbT l) rfl
  have h2 := List.drop_left' (l₁ := dbD l) (l₂ := dbT l) rfl
  rw [dbD_all] at h1 h2
  constructor
  ·rw [Int.toNat_natCast, ofL_extract, List.drop_zero, h1]
  ·rw [Int.toNat_natCast, ofL_extract, List.take_of_length_le (Nat.le_refl _), h2]
 refine Ev.step (fun _ => by rw [spec_debParts.j3, xa, xb, ea, eb]) ?_
 refine ev_f (ev_pos (by omega) (ev_pos (by omega) (ev_pos (by omega) ?_)))
 refine Ev.bind (run_ev (dbX a) (by omega)) ?_
 refine Ev.bind (run_ev (dbX b) (by omega)) ?_
 have ra : ((dbX a).takeWhile dg) = dbD a := rfl
 have rb : ((dbX b).takeWhile dg) = dbD b := rfl
 rw [ra, rb, (cut a).1, (cut a).2, (cut b).1, (cut b).2]
 refine ev_pos (by omega) (ev_pos (by omega) (ev_pos (by omega) (ev_pos (by omega) ?_)))
 have ho := orderNumbers_ev (dbD a) (dbD b) (by omega) (by omega)
 have hcz : cmpD (dbD a) (dbD b) = Bn.cmpZ (Bv.decV (dbD a)) (Bv.decV (dbD b)) := cmpD_Z (all_tw (dbX a)) (all_tw (dbX b))
 rw [hcz] at ho
 refine Ev.bind ho ?_
 by_cases hz : Bn.cmpZ (Bv.decV (dbD a)) (Bv.decV (dbD b)) = 0
 ·rw [if_pos hz]
  exact ev_pos hz hr
 ·rw [if_neg hz]
  exact ev_neg hz (ev_now rfl)
/-- Ahead of digits, byte by byte. -/
theorem l1_ev (a b : List UInt8) (ha : a.length ≤ 100000) (hb : b.length ≤ 100000) (ka : a.contains 0 = false) (kb : b.contains 0 = false) (T : Int)
  (ht : (dbN a).length = (dbN b).length → Ev (fun k => spec_debParts.j3 k (ofL a) (ofL b) ((dbN a).length : Int) false) T) (d : Nat) :
  ∀ i : Nat, i + d = max (dbN a).length (dbN b).length → i ≤ (dbN a).length → i ≤ (dbN b).length →
   Ev (fun k => spec_debParts.l1 k (ofL a) (ofL b) (i : Int)) (if wF d (((dbN a).map dbw).drop i) (((dbN b).map dbw).drop i) = 0 then T else wF d (((dbN a).map dbw).drop i) (((dbN b).map dbw).drop i)) := by
 have sa := ofL_size a
 have sb := ofL_size b
 have la := congrArg List.length (dbX_all a)
 have lb := congrArg List.length (dbX_all b)
 rw [List.length_append] at la lb
 have nd : ∀ (l : List UInt8) (i : Nat), i < (dbN l).length → ∃ c : UInt8, i < l.length ∧ dg c = false ∧ bt (ofL l) (i : Int) = (c.toNat : Int) := fun l i h => by
  obtain ⟨h1, h2, h3⟩ := dbN_at l i h
  exact ⟨l[i]'h1, h1, by rw [h2]; exact h3, bt_ofL l i h1⟩
 have dn : ∀ (l : List UInt8) (i : Nat), i = (dbN l).length → i < l.length → ∃ c : UInt8, dg c = true ∧ bt (ofL l) (i : Int) = (c.toNat : Int) := fun l i e h => by
  subst e
  rcases dbN_end l with h1 | ⟨h1, h2⟩
  ·omega
  ·exact ⟨l[(dbN l).length]'h1, h2, bt_ofL l _ h1⟩
 induction d with
 | zero =>
  intro i h h1 h2
  have e1 : i = (dbN a).length := by omega
  have e2 : i = (dbN b).length := by omega
  have hT := ht (by omega)
  rw [← e1] at hT
  rw [wF, if_pos rfl]
  by_cases xa : i < a.length
  ·obtain ⟨c, y2, y3⟩ := dn a i e1 xa
   by_cases xb : i < b.length
   ·obtain ⟨c', z2, z3⟩ := dn b i e2 xb
    refine Ev.step (fun _ => by rw [spec_debParts.l1, y3, z3, isDigit_f, isDigit_f, y2, z2]) ?_
    exact ev_pos (by omega) (ev_pos (by omega) (ev_some (ev_t (ev_pos (by omega) (ev_some hT)))))
   ·refine Ev.step (fun _ => by rw [spec_debParts.l1, y3, isDigit_f, y2]) ?_
    exact ev_pos (by omega) (ev_pos (by omega) (ev_some (ev_t (ev_neg (by omega) hT))))
  ·by_cases xb : i < b.length
   ·obtain ⟨c', z2, z3⟩ := dn b i e2 xb
    refine Ev.step (fun _ => by rw [spec_debParts.l1, z3, isDigit_f, z2]) ?_
    exact ev_neg (by omega) (ev_pos (by omega) (ev_pos (by omega) (ev_some hT)))
   ·refine Ev.step (fun _ => by rw [spec_debParts.l1]) ?_
    exact ev_neg (by omega) (ev_neg (by omega) hT)
 | succ d ih =>
  intro i h h1 h2
  have wa := weight_ev a ka i h1
  have wb := weight_ev b kb i h2
  have key : Ev (fun k => spec_debParts.j3 k (ofL a) (ofL b) (i : Int) true) (if wF (d + 1) (((dbN a).map dbw).drop i) (((dbN b).map dbw).drop i) = 0 then T else wF (d + 1) (((dbN a).map dbw).drop i) (((dbN b).map dbw).drop i)) := by
   rw [wF_drop]
   refine Ev.step (fun _ => by rw [spec_debParts.j3, wrap_nat (show (i : Int) < 9223372036854775807 by omega)]) ?_
   refine ev_t (Ev.bind wa (Ev.bind wb ?_))
   rw [orderI_f, sgW_cmp]
   refine ev_some ?_
   by_cases hz : Bn.cmpZ (((dbN a).map dbw).getD i 0) (((dbN b).map dbw).getD i 0) = 0
   ·rw [if_pos hz]
    refine ev_pos hz ?_
    have hi : i < (dbN a).length ∧ i < (dbN b).length := by
     rcases Nat.lt_or_ge i (dbN a).length with p | p
     ·rcases Nat.lt_or_ge i (dbN b).length with q | q
      ·exact ⟨p, q⟩
      ·exfalso
       obtain ⟨y1, y2, y3⟩ := dbN_at a i p
       rw [getD_dbw _ _ p, getD_out _ _ q] at hz
       have hne : dbw ((dbN a)[i]'p) ≠ 0 := dbw_ne _ fun hq => by
        rw [← y2] at hq
        have := List.contains_iff_mem.2 (List.getElem_mem y1)
        rw [hq, ka] at this
        cases this
       unfold Bn.cmpZ at hz
       split at hz
       ·cases hz
       ·split at hz
        ·cases hz
        ·omega
     ·rcases Nat.lt_or_ge i (dbN b).length with q | q
      ·exfalso
       obtain ⟨y1, y2, y3⟩ := dbN_at b i q
       rw [getD_dbw _ _ q, getD_out _ _ p] at hz
       have hne : dbw ((dbN b)[i]'q) ≠ 0 := dbw_ne _ fun hq => by
        rw [← y2] at hq
        have := List.contains_iff_mem.2 (List.getElem_mem y1)
        rw [hq, kb] at this
        cases this
       unfold Bn.cmpZ at hz
       split at hz
       ·cases hz
       ·split at hz
        ·cases hz
        ·omega
      ·omega
    exact ih (i + 1) (by omega) (by omega) (by omega)
   ·rw [if_neg hz, if_neg hz]
    exact ev_neg hz (ev_now rfl)
  rcases Nat.lt_or_ge i (dbN a).length with p | p
  ·obtain ⟨c, y1, y2, y3⟩ := nd a i p
   refine Ev.step (fun _ => by rw [spec_debParts.l1, y3, isDigit_f, y2]) ?_
   exact ev_pos (by omega) (ev_pos (by omega) (ev_some (ev_f key)))
  ·have e1 : i = (dbN a).length := by omega
   obtain ⟨c', z1, z2, z3⟩ := nd b i (by omega)
   by_cases xa : i < a.length
   ·obtain ⟨c, y2, y3⟩ := dn a i e1 xa
    refine Ev.step (fun _ => by rw [spec_debParts.l1, y3, z3, isDigit_f, isDigit_f, y2, z2]) ?_
    exact ev_pos (by omega) (ev_pos (by omega) (ev_some (ev_t (ev_pos (by omega) (ev_some key)))))
   ·refine Ev.step (fun _ => by rw [spec_debParts.l1, z3, isDigit_f, z2]) ?_
    exact ev_neg (by omega) (ev_pos (by omega) (ev_pos (by omega) (ev_some key)))
theorem l0_ev : ∀ (d : Nat) (a b : List UInt8), a.length + b.length ≤ d → a.length ≤ 100000 → b.length ≤ 100000 → a.contains 0 = false → b.contains 0 = false → Ev (fun k => spec_debParts.l0 k (ofL a) (ofL b)) (dbF d a b) := by
 intro d
 induction d with
 | zero =>
  intro a b h _ _ _ _
  have ha : a = [] := List.eq_nil_of_length_eq_zero (by omega)
  have hb : b = [] := List.eq_nil_of_length_eq_zero (by omega)
  subst ha
  subst hb
  refine Ev.step (fun _ => by rw [spec_debParts.l0]) ?_
  refine ev_neg (by rw [ofL_size]; simp) ?_
  rw [show decide (((ofL ([] : List UInt8)).size : Int) > 0) = false from rfl]
  refine Ev.step (fun _ => by rw [spec_debParts.j1]) ?_
  exact ev_f (ev_now rfl)
 | succ d ih =>
  intro a b h ha hb ka kb
  have sa := ofL_size a
  have sb := ofL_size b
  by_cases hn : a = [] ∧ b = []
  ·rw [dbF, if_pos hn, hn.1, hn.2]
   refine Ev.step (fun _ => by rw [spec_debParts.l0]) ?_
   refine ev_neg (by rw [ofL_size]; simp) ?_
   rw [show decide (((ofL ([] : List UInt8)).size : Int) > 0) = false from rfl]
   refine Ev.step (fun _ => by rw [spec_debParts.j1]) ?_
   exact ev_f (ev_now rfl)
  ·have hl : (dbT a).length + (dbT b).length ≤ d := by
    have h1 := dbT_le a
    have h2 := dbT_le b
    by_cases he : a = []
    ·have := dbT_less (l := b) (fun hb => hn ⟨he, hb⟩)
     omega
    ·have := dbT_less he
     omega
   have hr := ih (dbT a) (dbT b) hl (by have := dbT_le a; omega) (by have := dbT_le b; omega) (no0 ka (dbT_sub a)) (no0 kb (dbT_sub b))
   have h1 := l1_ev a b ha hb ka kb _ (fun he => tail_ev a b ha hb _ he hr) (max (dbN a).length (dbN b).length) 0 (by omega) (by omega) (by omega)
   rw [List.drop_zero, List.drop_zero] at h1
   have hk : Ev (fun k => spec_debParts.j1 k (ofL a) (ofL b) true) (dbF (d + 1) a b) := by
    refine Ev.step (fun _ => by rw [spec_debParts.j1]) ?_
    refine ev_t (ev_eq h1 ?_)
    rw [dbF_step]
    rfl
   refine Ev.step (fun _ => by rw [spec_debParts.l0]) ?_
   by_cases hp : ((ofL a).size : Int) > 0
   ·exact ev_pos hp hk
   ·refine ev_neg hp ?_
    have : decide (((ofL b).size : Int) > 0) = true := decide_eq_true (by
     have : b ≠ [] := fun hb => hn ⟨List.eq_nil_of_length_eq_zero (by omega), hb⟩
     have := List.length_pos_iff.2 this
     omega)
    rw [this]
    exact hk
theorem parts_ev (a b : List UInt8) (ha : a.length ≤ 100000) (hb : b.length ≤ 100000) (ka : a.contains 0 = false) (kb : b.contains 0 = false) : Ev (fun k => spec_debParts.f k (ofL a) (ofL b)) (dbP a b) := l0_ev (a.length + b.length) a b (Nat.le_refl _) ha hb ka kb
/-! the last hyphen -/
def liN (l : List UInt8) : Int := if l.contains 45 = true then ((upC l).length : Int) else -1
theorem upC_snoc (l : List UInt8) (c : UInt8) : liN (l ++ [c]) = if c = 45 then (l.length : Int) else liN l := by
 unfold liN upC
 by_cases h : c = 45
 ·subst h
  rw [if_pos rfl, if_pos (by simp)]
  simp
 ·rw [if_neg h]
  have h1 : (l ++ [c]).contains 45 = l.contains 45 := by
   rw [Bool.eq_iff_iff, List.contains_iff_mem, List.contains_iff_mem, List.mem_append, List.mem_singleton]
   exact ⟨fun hh => hh.elim id (fun e => absurd e.symm h), .inl⟩
  have h2 : (c != 45) = true := by simpa using h
  rw [h1, List.reverse_append, List.reverse_singleton, List.singleton_append, List.dropWhile_cons, if_pos h2]
theorem n45' (c : UInt8) : ((c.toNat : Int) = 45) ↔ c = 45 := ⟨fun h => UInt8.toNat_inj.1 (by have : (45 : UInt8).toNat = 45 := rfl; omega), fun h => by rw [h]; rfl⟩
theorem last_l (l : List UInt8) (hl : l.length ≤ 100000) (d : Nat) : ∀ i : Nat, i + d = l.length → Ev (fun k => spec_lastOf.l0 k (ofL l) 45 (liN (l.take i)) (i : Int)) (liN l) := by
 have hs := ofL_size l
 induction d with
 | zero =>
  intro i h
  refine Ev.step (fun _ => by rw [spec_lastOf.l0]) ?_
  refine ev_neg (by omega) (ev_now ?_)
  rw [List.take_of_length_le (by omega)]
 | succ d ih =>
  intro i h
  have hi : i < l.length := by omega
  have hb : bt (ofL l) (i : Int) = ((l[i]'hi).toNat : Int) := bt_ofL l i hi
  have hw : wrap64 ((i : Int) + 1) = ((i + 1 : Nat) : Int) := wrap_nat (by omega)
  have hu := upC_snoc (l.take i) (l[i]'hi)
  rw [← List.take_succ_eq_append_getElem hi, List.length_take, Nat.min_eq_left (by omega)] at hu
  have ih' := ih (i + 1) (by omega)
  rw [hu] at ih'
  refine Ev.step (fun _ => by rw [spec_lastOf.l0, hb, hw]) ?_
  clear hw
  refine ev_pos (by omega) (ev_pos (by omega) ?_)
  by_cases h45 : (l[i]'hi) = 45
  ·rw [if_pos h45] at ih'
   exact ev_pos ((n45' _).2 h45) ih'
  ·rw [if_neg h45] at ih'
   exact ev_neg (fun hh => h45 ((n45' _).1 hh)) ih'
theorem last_ev (l : List UInt8) (hl : l.length ≤ 100000) : Ev (fun k => spec_lastOf.f k (ofL l) 45) (liN l) := last_l l hl l.length 0 (by omega)
/-! a version parsed -/
abbrev DbR : Type := Bool × ByteArray × ByteArray × ByteArray × Bool
def dbR : Option DbV → DbR
 | none => (false, ⟨#[]⟩, ⟨#[]⟩, ⟨#[]⟩, false)
 | some x => (decide (x.1 < 0), Ss.plainS x.1, ofL x.2.1, ofL x.2.2, true)
theorem up_cut (l : List UInt8) (h : l.contains 45 = true) : l.take (upC l).length = upC l ∧ l.drop ((upC l).length + 1) = rvC l ∧ (upC l).length < l.length := by
 obtain ⟨h1, h2⟩ := up_cat l h
 have t1 := List.take_left' (l₁ := upC l) (l₂ := 45 :: rvC l) rfl
 rw [h1] at t1
 have e : (upC l ++ [45]) ++ rvC l = l := by rw [List.append_assoc]; exact h1
 have t2 := List.drop_left' (l₁ := upC l ++ [45]) (l₂ := rvC l) (i := (upC l).length + 1) (by simp)
 rw [e] at t2
 refine ⟨t1, t2, ?_⟩
 have := congrArg List.length h1
 simp at this
 omega
theorem idxI_val (c : UInt8) (l : List UInt8) : idxI c l = if l.contains c = true then ((befC c l).length : Int) else -1 := by
 unfold idxI
 by_cases h : l.dropWhile (· != c) = []
 ·rw [if_pos h, (drop_nil_iff c l).1 h, if_neg Bool.false_ne_true]
 ·rw [if_neg h]
  have : l.contains c = true := by
   cases hc : l.contains c with
   | true => rfl
   | false => exact absurd ((drop_nil_iff c l).2 hc) h
  rw [this, if_pos rfl]
  rfl
theorem parse_ev (l : List UInt8) (hl : l.length ≤ 100000) : Ev (fun k => spec_DebianParse.f k (ofL l)) (dbR (dbp l)) := by
 unfold spec_DebianParse.f
 refine Ev.bind (trim_ev l hl) ?_
 have hle := trim_le l
 generalize ht : Lib.trimSpace l = t at hle ⊢
 have hi := index_ev 58 t (by omega)
 have h58 : (((58 : UInt8).toNat : Nat) : Int) = 58 := rfl
 rw [h58, idxI_val] at hi
 refine Ev.bind hi ?_
 have hs := ofL_size t
 unfold dbp
 rw [ht]
 by_cases hc : t.contains 58 = true
 ·obtain ⟨b1, b2, b3⟩ := bef_cut 58 t hc
  rw [if_pos hc, if_pos hc]
  have hw : wrap64 (((befC 58 t).length : Int) + 1) = (((befC 58 t).length + 1 : Nat) : Int) := wrap_nat (by omega)
  have x1 : (ofL t).extract 0 ((befC 58 t).length : Int).toNat = ofL (befC 58 t) := by rw [Int.toNat_natCast, ofL_extract, List.drop_zero, b1]
  have x2 : (ofL t).extract ((((befC 58 t).length + 1 : Nat) : Int)).toNat (ofL t).size = ofL (aftC 58 t) := by rw [Int.toNat_natCast, ofL_extract, ofL_size, List.take_of_length_le (Nat.le_refl _), b2]
  have x3 : (ofL t).size - ((((befC 58 t).length + 1 : Nat) : Int)).toNat = (aftC 58 t).length := by rw [Int.toNat_natCast, hs, ← b2, List.length_drop]
  rw [x1, hw, x2, x3]
  clear hw x1 x2 x3
  refine ev_pos (by omega) (ev_pos (by omega) (ev_pos (by omega) ?_))
  have hn := number_ev (befC 58 t) (by omega)
  rw [numS_cvt] at hn
  refine Ev.bind hn ?_
  have hq : (aftC 58 t).length ≤ 100000 := by rw [← b2, List.length_drop]; omega
  cases hv : Ss.cvt (ofL (befC 58 t)) with
  | none => exact ev_f (ev_now rfl)
  | some z =>
   refine ev_t (ev_pos (by omega) (ev_pos (by omega) ?_))
   refine Ev.bind (last_ev (aftC 58 t) hq) ?_
   unfold liN dbS
   by_cases h45 : (aftC 58 t).contains 45 = true
   ·obtain ⟨u1, u2, u3⟩ := up_cut _ h45
    rw [if_pos h45, if_pos h45]
    have hw2 : wrap64 (((upC (aftC 58 t)).length : Int) + 1) = (((upC (aftC 58 t)).length + 1 : Nat) : Int) := wrap_nat (by omega)
    rw [hw2]
    clear hw2
    refine ev_pos (by omega) (ev_pos (by omega) (ev_pos (by omega) (ev_pos (by omega) (ev_pos (by omega) (ev_now ?_)))))
    rw [Int.toNat_natCast, Int.toNat_natCast, ofL_extract, ofL_extract, List.drop_zero, u1, List.take_of_length_le (Nat.le_refl _), u2]
    rfl
   ·rw [if_neg h45, if_neg h45]
    exact ev_neg (by omega) (ev_now rfl)
 ·rw [if_neg hc, if_neg hc]
  refine ev_neg (by omega) ?_
  refine Ev.bind (last_ev t (by omega)) ?_
  unfold liN dbS
  have hp : Ss.plainS 0 = (⟨#[]⟩ : ByteArray) := by unfold Ss.plainS; rw [show (0 : Int).natAbs = 0 from rfl, Ss.magOf_zero]; rfl
  by_cases h45 : t.contains 45 = true
  ·obtain ⟨u1, u2, u3⟩ := up_cut _ h45
   rw [if_pos h45, if_pos h45]
   have hw2 : wrap64 (((upC t).length : Int) + 1) = (((upC t).length + 1 : Nat) : Int) := wrap_nat (by omega)
   rw [hw2]
   clear hw2
   refine ev_pos (by omega) (ev_pos (by omega) (ev_pos (by omega) (ev_pos (by omega) (ev_pos (by omega) (ev_now ?_)))))
   rw [Int.toNat_natCast, Int.toNat_natCast, ofL_extract, ofL_extract, List.drop_zero, u1, ofL_size, List.take_of_length_le (Nat.le_refl _), u2]
   show _ = (decide ((0 : Int) < 0), Ss.plainS 0, ofL (upC t), ofL (rvC t), true)
   rw [hp]
   rfl
  ·rw [if_neg h45, if_neg h45]
   refine ev_neg (by omega) (ev_now ?_)
   show _ = (decide ((0 : Int) < 0), Ss.plainS 0, ofL t, ofL [48], true)
   rw [hp]
   rfl
end Go.Proofs.YtkcciinapkeaiaaDoor.Com

namespace Go.Proofs.YtkcciinapkeaiaaDoor.Com
open Go Go.RowKit Go.Proofs.YtkcciinapkeaiaaDoor.Z Go.Proofs.YtkcciinapkeaiaaDoor.Evs Go.Proofs.YtkcciinapkeaiaaDoor.By Go.Proofs.YtkcciinapkeaiaaDoor.Lx Go.Proofs.YtkcciinapkeaiaaDoorW.PrintWords Go.Proofs.YtkcciinapkeaiaaDoorW.PrintLast
set_option linter.unusedVariables false
set_option linter.unusedSimpArgs false
theorem magOf_len : ∀ (m n : Nat), n < 256 ^ m → (Ss.magOf n).length ≤ m
 | 0, n, h => by
  have : n = 0 := by rw [Nat.pow_zero] at h; omega
  rw [this, Ss.magOf_zero]
  simp
 | m + 1, n, h => by
  by_cases h0 : n = 0
  ·rw [h0, Ss.magOf_zero]
   simp
  ·have ih := magOf_len m (n / 256) (by rw [Nat.pow_succ] at h; omega)
   rw [Ss.magOf_pos h0, List.length_append]
   simp
   omega
theorem tp_256 : ∀ n : Nat, Ss.tp n < 256 ^ (n + 1)
 | 0 => by decide
 | n + 1 => by
  have ih := tp_256 n
  rw [Ss.tp_succ, Nat.pow_succ]
  omega
theorem mag_small {z : Int} {n : Nat} (h : z.natAbs ≤ Ss.tp n) : (Ss.magOf z.natAbs).length ≤ n + 1 := magOf_len _ _ (Nat.lt_of_le_of_lt h (tp_256 n))
theorem zv_mag' (z : Int) : Cw.zv (decide (z < 0)) (Ss.magOf z.natAbs) = z := by
 unfold Cw.zv
 rw [Ss.magOf_val]
 by_cases h : z < 0
 ·rw [decide_eq_true h, if_pos rfl]
  omega
 ·rw [decide_eq_false h, if_neg (by decide)]
  omega
theorem plain_order (x y : Int) (n : Nat) (hn : n ≤ 100000) (hx : x.natAbs ≤ Ss.tp n) (hy : y.natAbs ≤ Ss.tp n) : Ev (fun k => spec_intOrder.f k (decide (x < 0)) (Ss.plainS x) (decide (y < 0)) (Ss.plainS y)) (Bn.cmpZ x y) := by
 have h1 := mag_small hx
 have h2 := mag_small hy
 have h := Cw.intOrder_ev (decide (x < 0)) (decide (y < 0)) (Ss.magOf x.natAbs) (Ss.magOf y.natAbs) (by omega) (by omega)
 rw [zv_mag', zv_mag'] at h
 exact h
theorem trim_sub (l : List UInt8) : ∀ c ∈ Lib.trimSpace l, c ∈ l := fun c hc => by
 unfold Lib.trimSpace at hc
 rw [List.mem_reverse] at hc
 have := (List.dropWhile_sublist _).subset hc
 rw [List.mem_reverse] at this
 exact (List.dropWhile_sublist _).subset this
theorem dbS_sub (r : List UInt8) : (∀ x ∈ (dbS r).1, x ∈ r) ∧ (∀ x ∈ (dbS r).2, x ∈ r ∨ x = 48) := by
 unfold dbS
 split
 ·refine ⟨fun x hx => ?_, fun x hx => .inl ?_⟩
  ·have hx2 : x ∈ ((r.reverse.dropWhile (· != 45)).tail).reverse := hx
   rw [List.mem_reverse] at hx2
   have := ((List.tail_sublist _).trans (List.dropWhile_sublist _)).subset hx2
   rwa [List.mem_reverse] at this
  ·have hx2 : x ∈ (r.reverse.takeWhile (· != 45)).reverse := hx
   rw [List.mem_reverse] at hx2
   have := (List.takeWhile_sublist _).subset hx2
   rwa [List.mem_reverse] at this
 ·exact ⟨fun x hx => hx, fun x hx => .inr (List.mem_singleton.1 hx)⟩
theorem aft_sub (l : List UInt8) : ∀ x ∈ aftC 58 l, x ∈ l := fun x hx => ((List.tail_sublist _).trans (List.dropWhile_sublist _)).subset hx
theorem no0' {l m : List UInt8} (h : l.contains 0 = false) (hs : ∀ x ∈ m, x ∈ l ∨ x = 48) : m.contains 0 = false := by
 rw [Bool.eq_false_iff] at h ⊢
 intro h2
 rcases hs 0 (List.contains_iff_mem.1 h2) with h3 | h3
 ·exact h (List.contains_iff_mem.2 h3)
 ·exact absurd h3 (by decide)
/-- A known text's parts. -/
structure PtD (x : DbV) (n : Nat) : Prop where
 u1 : x.2.1.length ≤ n
 v1 : x.2.2.length ≤ n + 1
 u0 : x.2.1.contains 0 = false
 v0 : x.2.2.contains 0 = false
 z : x.1.natAbs ≤ Ss.tp n
theorem dbS_len (r : List UInt8) : (dbS r).1.length ≤ r.length ∧ (dbS r).2.length ≤ r.length + 1 := by
 unfold dbS
 split
 ·rename_i h
  obtain ⟨h1, _⟩ := up_cat r h
  have := congrArg List.length h1
  simp at this
  exact ⟨by show (upC r).length ≤ _; omega, by show (rvC r).length ≤ _; omega⟩
 ·exact ⟨Nat.le_refl _, by simp⟩
theorem dbp_pt {l : List UInt8} (h0 : l.contains 0 = false) {x : DbV} (h : dbp l = some x) : PtD x l.length := by
 have hl := trim_le l
 unfold dbp at h
 split at h
 ·rename_i hc
  obtain ⟨z, hz, rfl⟩ := Option.map_eq_some_iff.1 h
  obtain ⟨b1, b2, b3⟩ := bef_cut 58 _ hc
  have hal : (aftC 58 (Lib.trimSpace l)).length ≤ (Lib.trimSpace l).length := by rw [← b2, List.length_drop]; omega
  obtain ⟨d1, d2⟩ := dbS_len (aftC 58 (Lib.trimSpace l))
  obtain ⟨s1, s2⟩ := dbS_sub (aftC 58 (Lib.trimSpace l))
  have hsub : ∀ x ∈ aftC 58 (Lib.trimSpace l), x ∈ l := fun x hx => trim_sub l x (aft_sub _ x hx)
  have hz2 := Ss.cvt_small hz
  rw [ofL_size] at hz2
  exact ⟨Nat.le_trans d1 (by omega), Nat.le_trans d2 (by omega), no0 h0 fun x hx => hsub x (s1 x hx), no0' h0 fun x hx => (s2 x hx).imp (hsub x) id, Nat.le_trans hz2 (Ss.tp_le (by omega))⟩
 ·have := Option.some.inj h
  subst this
  obtain ⟨d1, d2⟩ := dbS_len (Lib.trimSpace l)
  obtain ⟨s1, s2⟩ := dbS_sub (Lib.trimSpace l)
  exact ⟨Nat.le_trans d1 (by omega), Nat.le_trans d2 (by omega), no0 h0 fun x hx => trim_sub l x (s1 x hx), no0' h0 fun x hx => (s2 x hx).imp (trim_sub l x) id, Nat.zero_le _⟩
theorem scmp_ev (a b : List UInt8) (ha : a.length ≤ 50000) (hb : b.length ≤ 50000) (ka : a.contains 0 = false) (kb : b.contains 0 = false) : Ev (fun k => spec_DebianCompare.f k (ofL a) (ofL b)) (match dbp a, dbp b with
 | some x, some y => (dvC x y, true)
 | _, _ => (0, false)) := by
 unfold spec_DebianCompare.f
 refine Ev.bind (parse_ev a (by omega)) (Ev.bind (parse_ev b (by omega)) ?_)
 cases ha' : dbp a with
 | none =>
  refine ev_f ?_
  refine Ev.step (fun _ => by rw [spec_DebianCompare.j0]) ?_
  exact ev_t (ev_now rfl)
 | some x =>
  cases hb' : dbp b with
  | none =>
   refine ev_t ?_
   refine Ev.step (fun _ => by rw [spec_DebianCompare.j0]) ?_
   exact ev_t (ev_now rfl)
  | some y =>
   have px := dbp_pt ka ha'
   have py := dbp_pt kb hb'
   refine ev_t ?_
   refine Ev.step (fun _ => by rw [spec_DebianCompare.j0]) ?_
   refine ev_f ?_
   have h1 := plain_order x.1 y.1 (a.length + b.length) (by omega) (Nat.le_trans px.z (Ss.tp_le (by omega))) (Nat.le_trans py.z (Ss.tp_le (by omega)))
   have h2 := parts_ev x.2.1 y.2.1 (by have := px.u1; omega) (by have := py.u1; omega) px.u0 py.u0
   have h3 := parts_ev x.2.2 y.2.2 (by have := px.v1; omega) (by have := py.v1; omega) px.v0 py.v0
   refine Ev.bind h1 ?_
   show Ev _ (dvC x y, true)
   unfold dvC
   by_cases hz : Bn.cmpZ x.1 y.1 = 0
   ·rw [if_pos hz]
    refine ev_pos hz (Ev.bind h2 ?_)
    by_cases hp : dbP x.2.1 y.2.1 = 0
    ·rw [if_pos hp]
     exact ev_pos hp (Ev.bind h3 (ev_now rfl))
    ·rw [if_neg hp]
     exact ev_neg hp (ev_now rfl)
   ·rw [if_neg hz]
    exact ev_neg hz (ev_now rfl)
end Go.Proofs.YtkcciinapkeaiaaDoor.Com

namespace Go.Proofs.YtkcciinapkeaiaaDoor.Com
open Go.RowKit Go.Proofs.YtkcciinapkeaiaaDoor.Z Go.Proofs.YtkcciinapkeaiaaDoor.Evs Go.Proofs.YtkcciinapkeaiaaDoorW.PrintWords Go.Proofs.YtkcciinapkeaiaaDoorW.PrintLast
set_option linter.unusedVariables false
set_option linter.unusedSimpArgs false

/-- short: an answer; where it is true the list is short and its texts are. -/
theorem short_l (l : List ByteArray) (hl : (l.length : Int) < 9223372036854775807) (d : Nat) : ∀ i : Nat, i + d = l.length →
  ∃ b, Ev (fun k => laws_short.l0 k l l (l.length : Int) (i : Int)) b ∧ (b = true → l.length ≤ 150 ∧ ∀ j, i ≤ j → j < l.length → (l.getD j ByteArray.empty).size ≤ 1500) := by
 induction d with
 | zero =>
  intro i h
  exact ⟨_, Ev.step (fun _ => by rw [laws_short.l0]) (ev_neg (by omega) (Ev.now _)), fun hb => ⟨by simp at hb; omega, fun j h1 h2 => by omega⟩⟩
 | succ d ih =>
  intro i h
  obtain ⟨b, hb, hq⟩ := ih (i + 1) (by omega)
  by_cases c : ((rdOf ByteArray.empty l (i : Int)).size : Int) > 1500
  ·exact ⟨false, Ev.step (fun _ => by rw [laws_short.l0]) (ev_pos (by omega) (ev_pos (by omega) (ev_pos (by omega) (ev_pos c (Ev.now _))))), fun h => by cases h⟩
  ·refine ⟨b, Ev.step (fun _ => by rw [laws_short.l0, wrap_nat (by omega)]) (ev_pos (by omega) (ev_pos (by omega) (ev_pos (by omega) (ev_neg c hb)))), fun h => ⟨(hq h).1, fun j h1 h2 => ?_⟩⟩
   by_cases e : j = i
   ·subst e; rw [rdOf_nat] at c; omega
   ·exact (hq h).2 j (by omega) h2
theorem short_ev (l : List ByteArray) (hl : (l.length : Int) < 9223372036854775807) : ∃ b, Ev (fun k => laws_short.f k l) b ∧ (b = true → l.length ≤ 150 ∧ ∀ j, j < l.length → (l.getD j ByteArray.empty).size ≤ 1500) := by
 obtain ⟨b, hb, hq⟩ := short_l l hl l.length 0 (by omega)
 exact ⟨b, hb, fun h => ⟨(hq h).1, fun j hj => (hq h).2 j (by omega) hj⟩⟩

theorem short2 (a b : ByteArray) : ∃ r, Ev (fun k => laws_short.f k [a, b]) r ∧ (r = true → a.size ≤ 1500 ∧ b.size ≤ 1500) := by
 obtain ⟨r, hr, hq⟩ := short_ev [a, b] (by simp)
 exact ⟨r, hr, fun h => ⟨(hq h).2 0 (by simp), (hq h).2 1 (by simp)⟩⟩
theorem short4 (a b c d : ByteArray) : ∃ r, Ev (fun k => laws_short.f k [a, b, c, d]) r ∧ (r = true → a.size ≤ 1500 ∧ b.size ≤ 1500 ∧ c.size ≤ 1500 ∧ d.size ≤ 1500) := by
 obtain ⟨r, hr, hq⟩ := short_ev [a, b, c, d] (by simp)
 exact ⟨r, hr, fun h => ⟨(hq h).2 0 (by simp), (hq h).2 1 (by simp), (hq h).2 2 (by simp), (hq h).2 3 (by simp)⟩⟩
end Go.Proofs.YtkcciinapkeaiaaDoor.Com

namespace Go.Proofs.YtkcciinapkeaiaaDoor.Com
open Go.RowKit Go.Proofs.YtkcciinapkeaiaaDoor.Z Go.Proofs.YtkcciinapkeaiaaDoor.Evs Go.Proofs.YtkcciinapkeaiaaDoorW.PrintWords Go.Proofs.YtkcciinapkeaiaaDoorW.PrintLast
set_option linter.unusedVariables false
set_option linter.unusedSimpArgs false
theorem turned1 {r b : Int} (h : b = -r) (h1 : -1 ≤ r) (h2 : r ≤ 1) : laws_turned.f r b = some true := by
 unfold laws_turned.f
 have e : wrap64 (-b) = r := by rw [wrap_in (by omega) (by omega)]; omega
 rw [e, if_pos rfl, if_pos h1, decide_eq_true h2]
end Go.Proofs.YtkcciinapkeaiaaDoor.Com

namespace Go.Proofs.YtkcciinapkeaiaaDoor.Pure
open Go Go.RowKit Go.Proofs.YtkcciinapkeaiaaDoor.Z Go.Proofs.YtkcciinapkeaiaaDoor.Evs Go.Proofs.YtkcciinapkeaiaaDoor.By Go.Proofs.YtkcciinapkeaiaaDoor.Com Go.Proofs.YtkcciinapkeaiaaDoor.Lx Go.Proofs.YtkcciinapkeaiaaDoor.Bv Go.Proofs.YtkcciinapkeaiaaDoorW.PrintWords Go.Proofs.YtkcciinapkeaiaaDoorW.PrintLast
set_option linter.unusedVariables false
set_option linter.unusedSimpArgs false
theorem FnDebian : laws_FnDebian.Pure := by
 intro a b h0 h1
 refine Ev.rounds ?_
 unfold laws_FnDebian.f
 have skip0 : Ev (fun k => laws_FnDebian.j0 k a b true) true := Ev.step (fun _ => by rw [laws_FnDebian.j0]) (ev_t (ev_now rfl))
 have skip1 : Ev (fun k => laws_FnDebian.j1 k a b true) true := Ev.step (fun _ => by rw [laws_FnDebian.j1]) (ev_t (ev_now rfl))
 refine ev_ite (fun _ => skip0) (fun _ => ?_)
 cases decide ((b.size : Int) > 2147483647) with
 | true => exact skip0
 | false =>
  refine Ev.step (fun _ => by rw [laws_FnDebian.j0]) (ev_f ?_)
  obtain ⟨r, e, s⟩ := short2 a b
  refine Ev.bind e ?_
  cases r with
  | false => exact ev_f skip1
  | true =>
   obtain ⟨s0, s1⟩ := s rfl
   obtain ⟨p0, e0, q0⟩ := known_b a s0
   obtain ⟨p1, e1, q1⟩ := known_b b s1
   refine ev_t (Ev.bind e0 ?_)
   cases p0 with
   | false => exact ev_f skip1
   | true =>
    refine ev_t (Ev.bind e1 ?_)
    cases p1 with
    | false => exact skip1
    | true =>
     have ka := q0 rfl
     have kb := q1 rfl
     have hs := scmp_ev (bl a) (bl b) (by rw [bl_length]; omega) (by rw [bl_length]; omega) ka.2 kb.2
     rw [ofL_bl, ofL_bl] at hs
     have ht : impl_DebianCompareText.f a b = impl_DebianCompare.f a b := rfl
     refine Ev.step (fun _ => by rw [laws_FnDebian.j1, ht, dcmp_f (by omega) (by omega) ka.1 kb.1, dcmp_f (by omega) (by omega) kb.1 ka.1]) ?_
     refine ev_f ?_
     cases ha : dbp (bl a) with
     | none =>
      cases hb : dbp (bl b) with
      | none =>
       rw [ha, hb] at hs
       refine Ev.bind hs (ev_some (ev_some (ev_some (ev_pos rfl (ev_t (ev_pos rfl (ev_t (ev_t ?_))))))))
       rw [turned1 (r := 0) (b := 0) (by decide) (by decide) (by decide)]
       exact ev_now rfl
      | some y =>
       rw [ha, hb] at hs
       refine Ev.bind hs (ev_some (ev_some (ev_some (ev_pos rfl (ev_t (ev_pos rfl (ev_t (ev_t ?_))))))))
       rw [turned1 (r := 0) (b := 0) (by decide) (by decide) (by decide)]
       exact ev_now rfl
     | some x =>
      cases hb : dbp (bl b) with
      | none =>
       rw [ha, hb] at hs
       refine Ev.bind hs (ev_some (ev_some (ev_some (ev_pos rfl (ev_t (ev_pos rfl (ev_t (ev_t ?_))))))))
       rw [turned1 (r := 0) (b := 0) (by decide) (by decide) (by decide)]
       exact ev_now rfl
      | some y =>
       rw [ha, hb] at hs
       refine Ev.bind hs (ev_some (ev_some (ev_some (ev_pos rfl (ev_t (ev_pos rfl (ev_t (ev_t ?_))))))))
       rw [turned1 (dvC_neg x y) (dvC_ran x y).1 (dvC_ran x y).2]
       exact ev_now rfl
end Go.Proofs.YtkcciinapkeaiaaDoor.Pure

namespace Go.Proofs.YtkcciinapkeaiaaDoor.fnDebian
open Go.ChangeShapes Go.WideShapes Go.ChangeAt Go.RowKit Go.Proofs.YtkcciinapkeaiaaDoor.Op Go.Proofs.YtkcciinapkeaiaaDoor.Z Go.Proofs.YtkcciinapkeaiaaDoorW.PrintWords
open Go.ChangeMaps (open_string shut_string)
set_option linter.unusedVariables false
set_option linter.unusedSimpArgs false
theorem own : ownKnob Tryd.prog.godebug = none := by kernel_rfl
/-- A world for the witness: the listed variables hold what their initialisers lay. -/
noncomputable def laidWorld (os : Os) : World := World.laidAll Tryd.prog os Rows.fnDebianRow.laid
set_option maxRecDepth 100000 in
theorem laid_met (os : Os) : laidMet Tryd.prog Rows.fnDebianRow.laid ((laidWorld os).forCall (fun _ _ => 0) ⟨#[], #[.string ByteArray.empty, .string ByteArray.empty], []⟩).memory :=
 laidMet_laidAll _ (by kernel_rfl) (by kernel_rfl)
set_option maxRecDepth 100000 in
theorem reads (os : Os) {H : Type} (enc : TypeId × Value → H) : DataW.whole enc Tryd.prog ((laidWorld os).forCall (fun _ _ => 0) ⟨#[], #[.string ByteArray.empty, .string ByteArray.empty], []⟩).memory Tryd.f6.params.toList Rows.fnDebianSpec.vars false #[.string ByteArray.empty, .string ByteArray.empty].toList 8 = some ([.lit (.string []), .lit (.string [])], [], []) := by kernel_rfl
set_option maxRecDepth 100000 in
theorem lifted (os : Os) (started : os.Started) (H : Type) (enc : TypeId × Value → H) (F : Stop.Interp) :
  ReturnsInHanded {} Tryd.checked os 6 .any ((OpenSpec.ofChange Rows.fnDebianSpec).preRow enc Tryd.prog Tryd.f6 Rows.fnDebianRow.domain false Rows.fnDebianRow.laid) (((OpenSpec.ofChange Rows.fnDebianSpec).at F).post enc Tryd.prog Tryd.f6 false true false false) := by
 refine returnsInHanded_of_row (C := Tryd.checked) (s := OpenSpec.ofChange Rows.fnDebianSpec) own started (by kernel_rfl) Tryd.func6
  (witness_row_atRef (enc := enc) (C := Tryd.checked) false (laidWorld os) #[.string ByteArray.empty, .string ByteArray.empty] (World.laidAll_os _ _ _) (by kernel_rfl) (by kernel_rfl) (by kernel_rfl)
   (OpenSpec.preRow_of_cond 8 (reads os enc) (by kernel_rfl) (fun k hk => by cases hk) (by kernel_rfl) (laid_met os))) ?_
 intro W base args ds gs before hval0 hW hcnd hk0 hsz0 hL hSh hho
 have hsz : (DataW.weightsEach Tryd.prog (Tryd.f6.params.toList ++ Rows.fnDebianSpec.plain.varTypes Tryd.prog) (ds ++ gs)).all (· ≤ reachBytes) = true := hsz0
 have hval : ∀ (j : Nat) t v, Tryd.f6.params[j]? = some t → args[j]? = some v → Value.okWide Tryd.prog W .any base t v := hval0
 have hW' := hW
 obtain ⟨p, q, hA0, hV, rfl, hfz, hnd⟩ := hW
 have hA : DataW.TrodAll enc Tryd.prog W 0 (fun _ => true) true Tryd.f6.params.toList args.toList ds p := hA0
 rw [Tryd.params6] at hA hval hsz
 obtain ⟨v0, vs0, d0, ds0, p0, q0, hargs, rfl, rfl, h0, r0⟩ := trodAll_cons hA
 obtain ⟨v1, vs1, d1, ds1, p1, q1, rfl, rfl, rfl, h1, r1⟩ := trodAll_cons r0
 obtain ⟨rfl, rfl, rfl⟩ := trodAll_nil r1
 obtain rfl : args = #[v0, v1] := by cases args; simp_all
 obtain ⟨rfl, rfl⟩ := trodVars_none hV
 obtain ⟨a0, rfl, rfl, rfl, y0⟩ := open_string Tryd.underlying9 (hval 0 9 v0 rfl rfl) h0
 have w0 : a0.size ≤ 140737488351232 := by
  have z := sized_string hsz (j := 0) (t := 9) rfl rfl
  rw [Array.length_toList] at z
  exact z
 obtain ⟨a1, rfl, rfl, rfl, y1⟩ := open_string Tryd.underlying9 (hval 1 9 v1 rfl rfl) h1
 have w1 : a1.size ≤ 140737488351232 := by
  have z := sized_string hsz (j := 1) (t := 9) rfl rfl
  rw [Array.length_toList] at z
  exact z
 clear hA0 hval0 hsz0 hsz
 refine (laws_FnDebian.walk Pure.FnDebian a0 a1 W w0 w1  (Gw.gw_of (l := Rows.fnDebianRow.laid) hL (List.Mem.tail _ (List.Mem.head _)) (List.Mem.tail _ (List.Mem.tail _ (List.Mem.tail _ (List.Mem.tail _ (List.Mem.head _))))) (List.Mem.tail _ (List.Mem.tail _ (List.Mem.tail _ (List.Mem.tail _ (List.Mem.tail _ (List.Mem.tail _ (List.Mem.head _))))))) (List.Mem.tail _ (List.Mem.tail _ (List.Mem.tail _ (List.Mem.head _)))))).mono fun e W' ⟨he, bel⟩ => ?_
 subst he
 exact ⟨_, rfl, _, _, _, [], _, [], hW', trodAll_mk1 (shut_bool Tryd.underlying4 _), (trodAll_cons_mk (shut_string Tryd.underlying9 y0) (trodAll_cons_mk (shut_string Tryd.underlying9 y1) trodAll_mk0)), rfl, bel.frame _, fun h => by cases h⟩
theorem said : Rows.FnDebianSaid :=
 OpenClaim.holds_of_cond 6 Tryd.f6 rfl rfl rfl rfl rfl rfl rfl ⟨rfl, rfl, rfl, rfl, rfl⟩ rfl rfl rfl rfl rfl (by kernel_rfl) Tryd.func6 (by kernel_rfl)
  (of_decide_eq_true (by kernel_rfl)) (by unfold Func.isWrapper; first | (rw [if_pos (by decide +kernel)]; kernel_rfl) | (rw [if_neg (by decide +kernel)]; exact ⟨rfl, rfl⟩))
  (fun os started H enc _ F => by rw [OpenClaim.pre_eq_preRow]; exact lifted os started H enc F)
theorem plain (f : FuncId) (fn : Func) (hf : Tryd.pinned.checked.prog.funcNamed "pub-seniority/laws.FnDebian" = some f) (hfn : Tryd.pinned.checked.prog.funcs[f]? = some fn) :
  true = Tryd.pinned.checked.prog.looks [] ∧ ∀ (j : Nat) t, fn.params[j]? = some t → Tryd.pinned.checked.prog.wantsStandIn t = false := by
 obtain rfl : f = 6 := Option.some.inj ((show Tryd.prog.funcNamed "pub-seniority/laws.FnDebian" = some 6 by kernel_rfl).symm.trans hf) |>.symm
 obtain rfl : fn = Tryd.f6 := (Option.some.inj (Tryd.func6.symm.trans hfn)).symm
 refine ⟨by kernel_rfl, fun j t ht => ?_⟩
 rw [Tryd.params6] at ht
 have h2 : ([9, 9] : List TypeId).all (fun t => !Tryd.prog.wantsStandIn t) = true := by kernel_rfl
 have h3 := List.all_eq_true.1 h2 t (by have := Array.mem_of_getElem? ht; simpa using this)
 exact (show Tryd.prog.wantsStandIn t = false from by simpa using h3)
theorem proved : Rows.FnDebianCardSaid :=
 Claim7.holds_tied_plain_at .later [] _ _ _ _ said (fun _ h => by cases h) (by kernel_rfl) (fun _ h => by cases h) fnDebian_row_tie rfl ⟨rfl, rfl⟩ (by kernel_rfl) rfl plain (by kernel_rfl)
#print axioms proved
end Go.Proofs.YtkcciinapkeaiaaDoor.fnDebian
namespace Go.Proofs.YtkcciinapkeaiaaDoor
/-- The card, under a short name, for the claim. -/
theorem fnDebian_holds : Rows.FnDebianCardSaid := fnDebian.proved
end Go.Proofs.YtkcciinapkeaiaaDoor
