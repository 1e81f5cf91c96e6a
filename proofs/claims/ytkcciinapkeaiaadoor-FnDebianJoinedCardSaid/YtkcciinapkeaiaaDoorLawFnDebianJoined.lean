/- FnDebianJoined. No condition beyond the row's own. -/
import Derived.Test.YtkcciinapkeaiaaDoorZ1
import Derived.Test.YtkcciinapkeaiaaDoorEv
import Derived.Test.YtkcciinapkeaiaaDoorBy
import Derived.Test.YtkcciinapkeaiaaDoorZ5
import Derived.Test.YtkcciinapkeaiaaDoorBn
import Derived.Test.YtkcciinapkeaiaaDoorBv
import Derived.Test.YtkcciinapkeaiaaDoorLx
import Derived.Test.YtkcciinapkeaiaaDoorZ6
import Derived.Test.YtkcciinapkeaiaaDoorZ11
import Derived.Test.YtkcciinapkeaiaaDoorZ12
import Derived.KernelRfl
import Derived.Test.YtkcciinapkeaiaaDoorZ21
import Derived.Test.YtkcciinapkeaiaaDoorZ25
import Derived.Test.YtkcciinapkeaiaaDoorRows
import Derived.Test.YtkcciinapkeaiaaDoorOp
import Derived.Test.YtkcciinapkeaiaaDoorCards
import Derived.Test.YtkcciinapkeaiaaDoorTie
import Derived.Test.YtkcciinapkeaiaaDoorGt
import Derived.Deep.DeepHandedRow
import Derived.Deep.DeepWitnessRowRef
import Derived.Lay
import Derived.WalkKit
import Derived.ProofKit
import Derived.OpenShut
import Derived.ShutString
import Derived.ChangeOld
import Derived.Below
import Derived.SizedLaws
namespace Go.Proofs.YtkcciinapkeaiaaDoor.Com
open Go.RowKit Go.Proofs.YtkcciinapkeaiaaDoor.Z Go.Proofs.YtkcciinapkeaiaaDoor.Evs Go.Proofs.YtkcciinapkeaiaaDoorW.PrintWords Go.Proofs.YtkcciinapkeaiaaDoorW.PrintLast
set_option linter.unusedVariables false
set_option linter.unusedSimpArgs false

/-- Ascii: an answer; where it is true every byte is below 128. -/
theorem ascii_l (s : ByteArray) (hs : s.size ≤ 140737488351232) (d : Nat) : ∀ i : Nat, i + d = s.size → ∃ r, Ev (fun k => spec_Ascii.l0 k s (i : Int)) r ∧ (r = true → ∀ j : Nat, i ≤ j → (h : j < s.size) → (s[j]'h).toNat < 128) := by
  induction d with
  | zero => intro i h; exact ⟨true, Ev.step (fun _ => by rw [spec_Ascii.l0]) (ev_neg (by omega) (Ev.now _)), fun _ j h1 h2 => by omega⟩
  | succ d ih =>
    intro i h
    obtain ⟨r, hr, hq⟩ := ih (i + 1) (by omega)
    have hb := bt_nat s i (by omega)
    by_cases c : bt s (i : Int) > 127
    · exact ⟨false, Ev.step (fun _ => by rw [spec_Ascii.l0]) (ev_pos (by omega) (ev_pos (by omega) (ev_pos c (Ev.now _)))), fun h => by cases h⟩
    · refine ⟨r, Ev.step (fun _ => by rw [spec_Ascii.l0, wrap_nat (by omega)]) (ev_pos (by omega) (ev_pos (by omega) (ev_neg c hr))), fun h j h1 h2 => ?_⟩
      by_cases e : j = i
      · subst e; omega
      · exact hq h j (by omega) h2
theorem ascii_ev (s : ByteArray) (hs : s.size ≤ 140737488351232) : ∃ r, Ev (fun k => spec_Ascii.f k s) r ∧ (r = true → ∀ j : Nat, (h : j < s.size) → (s[j]'h).toNat < 128) := by
  obtain ⟨r, hr, hq⟩ := ascii_l s hs s.size 0 (by omega)
  exact ⟨r, hr, fun h j hj => hq h j (by omega) hj⟩
end Go.Proofs.YtkcciinapkeaiaaDoor.Com

namespace Go.Proofs.YtkcciinapkeaiaaDoor.Com
open Go.RowKit Go.Proofs.YtkcciinapkeaiaaDoor.Z Go.Proofs.YtkcciinapkeaiaaDoor.Evs Go.Proofs.YtkcciinapkeaiaaDoor.By Go.Proofs.YtkcciinapkeaiaaDoorW.PrintWords Go.Proofs.YtkcciinapkeaiaaDoorW.PrintLast
set_option linter.unusedVariables false
set_option linter.unusedSimpArgs false

/-- The place of the first byte of a sort; -1 without one. -/
def idxI (c : UInt8) (l : List UInt8) : Int := if (l.dropWhile (· != c)) = [] then -1 else ((l.takeWhile (· != c)).length : Int)
theorem byte_eq (a c : UInt8) : ((a.toNat : Int) = (c.toNat : Int)) ↔ a = c := ⟨fun h => UInt8.toNat_inj.1 (by omega), fun h => by rw [h]⟩
theorem idx_split (c : UInt8) (l : List UInt8) : ∀ i : Nat, (∀ x ∈ l.take i, (x != c) = true) → l.takeWhile (· != c) = l.take i ++ (l.drop i).takeWhile (· != c) ∧ l.dropWhile (· != c) = (l.drop i).dropWhile (· != c) := by
  intro i h
  have e := List.take_append_drop i l
  constructor
  · conv => lhs; rw [← e]
    exact List.takeWhile_append_of_pos h
  · conv => lhs; rw [← e]
    exact List.dropWhile_append_of_pos h
theorem index_l (c : UInt8) (l : List UInt8) (hl : l.length ≤ 140737488351232) (d : Nat) : ∀ i : Nat, i + d = l.length → (∀ x ∈ l.take i, (x != c) = true) → Ev (fun k => spec_indexOf.l0 k (ofL l) (c.toNat : Int) (i : Int)) (idxI c l) := by
  have hs := ofL_size l
  induction d with
  | zero =>
    intro i h hp
    refine Ev.step (fun _ => by rw [spec_indexOf.l0]) (ev_neg (by omega) (ev_now ?_))
    have := (idx_split c l i hp).2
    rw [List.drop_of_length_le (by omega)] at this
    rw [idxI, if_pos (show List.dropWhile (fun x => x != c) l = [] from this)]
  | succ d ih =>
    intro i h hp
    have hi : i < l.length := by omega
    have hc := bt_ofL l i hi
    refine Ev.step (fun _ => by rw [spec_indexOf.l0, hc, wrap_nat (by omega)]) (ev_pos (by omega) (ev_pos (by omega) ?_))
    by_cases e : l[i]'hi = c
    · refine ev_pos ((byte_eq _ _).2 e) (ev_now ?_)
      have h1 := idx_split c l i hp
      rw [List.drop_eq_getElem_cons hi, List.dropWhile_cons, List.takeWhile_cons, if_neg (by simp [e]), if_neg (by simp [e])] at h1
      have h2 : ¬ List.dropWhile (fun x => x != c) l = [] := fun hh => by
        have := h1.2.symm.trans hh
        cases this
      rw [idxI, if_neg h2, h1.1, List.append_nil, List.length_take]
      omega
    · refine ev_neg (fun h => e ((byte_eq _ _).1 h)) (ih (i + 1) (by omega) (fun x hx => ?_))
      rw [List.take_succ_eq_append_getElem hi, List.mem_append] at hx
      rcases hx with hx | hx
      · exact hp x hx
      · simp at hx
        subst hx
        simpa using e
theorem index_ev (c : UInt8) (l : List UInt8) (hl : l.length ≤ 140737488351232) : Ev (fun k => spec_indexOf.f k (ofL l) (c.toNat : Int)) (idxI c l) := index_l c l hl l.length 0 (by omega) (by simp)
end Go.Proofs.YtkcciinapkeaiaaDoor.Com

namespace Go.Proofs.YtkcciinapkeaiaaDoor.Com
open Go Go.RowKit Go.Proofs.YtkcciinapkeaiaaDoor.Z Go.Proofs.YtkcciinapkeaiaaDoor.Evs Go.Proofs.YtkcciinapkeaiaaDoor.By Go.Proofs.YtkcciinapkeaiaaDoor.Lx Go.Proofs.YtkcciinapkeaiaaDoorW.PrintWords Go.Proofs.YtkcciinapkeaiaaDoorW.PrintLast
set_option linter.unusedVariables false
set_option linter.unusedSimpArgs false
theorem cmpZ_self (a : Int) : Bn.cmpZ a a = 0 := by unfold Bn.cmpZ; split <;> (try split) <;> omega
theorem cmpZ_ran (a b : Int) : -1 ≤ Bn.cmpZ a b ∧ Bn.cmpZ a b ≤ 1 := by unfold Bn.cmpZ; split <;> (try split) <;> omega
theorem cmpZ_neg (a b : Int) : Bn.cmpZ b a = -Bn.cmpZ a b := by unfold Bn.cmpZ; split <;> (try split) <;> (try split) <;> omega
theorem wF_self : ∀ (d : Nat) (a : List Int), wF d a a = 0
  | 0, _ => rfl
  | d + 1, a => by
    rw [wF, if_pos (cmpZ_self _)]
    exact wF_self d a.tail
theorem wF_neg : ∀ (d : Nat) (a b : List Int), wF d b a = -wF d a b
  | 0, _, _ => rfl
  | d + 1, a, b => by
    rw [wF, wF, wF_neg d a.tail b.tail, cmpZ_neg (a.headD 0) (b.headD 0)]
    split <;> split <;> omega
theorem wF_ran : ∀ (d : Nat) (a b : List Int), -1 ≤ wF d a b ∧ wF d a b ≤ 1
  | 0, _, _ => by unfold wF; omega
  | d + 1, a, b => by
    rw [wF]
    split
    · exact wF_ran d _ _
    · exact cmpZ_ran _ _
theorem dbC_self (a : List UInt8) : dbC a a = 0 := wF_self _ _
theorem dbC_neg (a b : List UInt8) : dbC b a = -dbC a b := by
  unfold dbC
  rw [Nat.max_comm, wF_neg]
theorem dbC_ran (a b : List UInt8) : -1 ≤ dbC a b ∧ dbC a b ≤ 1 := wF_ran _ _ _
theorem dbF_nil : ∀ d, dbF d [] [] = 0
  | 0 => rfl
  | d + 1 => by rw [dbF, if_pos ⟨rfl, rfl⟩]
/-- The comparison without its test of the end. -/
theorem dbF_step (d : Nat) (a b : List UInt8) : dbF (d + 1) a b = if dbC (dbN a) (dbN b) = 0 then (if Bn.cmpZ (Bv.decV (dbD a)) (Bv.decV (dbD b)) = 0 then dbF d (dbT a) (dbT b) else Bn.cmpZ (Bv.decV (dbD a)) (Bv.decV (dbD b))) else dbC (dbN a) (dbN b) := by
  by_cases h : a = [] ∧ b = []
  · obtain ⟨rfl, rfl⟩ := h
    rw [dbF_nil, if_pos (dbC_self _), if_pos (cmpZ_self _)]
    exact (dbF_nil d).symm
  · rw [dbF, if_neg h]
theorem dbF_neg : ∀ (d : Nat) (a b : List UInt8), dbF d b a = -dbF d a b
  | 0, _, _ => rfl
  | d + 1, a, b => by
    rw [dbF_step, dbF_step, dbF_neg d (dbT a) (dbT b), cmpZ_neg (Bv.decV (dbD a)), dbC_neg (dbN a)]
    split <;> split <;> (try split) <;> (try split) <;> omega
theorem dbF_ran : ∀ (d : Nat) (a b : List UInt8), -1 ≤ dbF d a b ∧ dbF d a b ≤ 1
  | 0, _, _ => by unfold dbF; omega
  | d + 1, a, b => by
    rw [dbF_step]
    split
    · split
      · exact dbF_ran d _ _
      · exact cmpZ_ran _ _
    · exact dbC_ran _ _
theorem dbP_neg (a b : List UInt8) : dbP b a = -dbP a b := by
  unfold dbP
  rw [Nat.add_comm, dbF_neg]
theorem dbP_ran (a b : List UInt8) : -1 ≤ dbP a b ∧ dbP a b ≤ 1 := dbF_ran _ _ _
end Go.Proofs.YtkcciinapkeaiaaDoor.Com

namespace Go.Proofs.YtkcciinapkeaiaaDoor.Com
open Go Go.RowKit Go.Proofs.YtkcciinapkeaiaaDoor.Z Go.Proofs.YtkcciinapkeaiaaDoor.Evs Go.Proofs.YtkcciinapkeaiaaDoor.By Go.Proofs.YtkcciinapkeaiaaDoor.Lx Go.Proofs.YtkcciinapkeaiaaDoorW.PrintWords Go.Proofs.YtkcciinapkeaiaaDoorW.PrintLast
set_option linter.unusedVariables false
set_option linter.unusedSimpArgs false
theorem blank_f (c : UInt8) : spec_debBlank.f (c.toNat : Int) = some (Lib.isSp c) := by
  have hu : ∀ n : UInt8, (c == n) = decide (c.toNat = n.toNat) := fun n => by
    rw [Bool.eq_iff_iff, beq_iff_eq, decide_eq_true_eq]
    exact ⟨fun h => by rw [h], fun h => UInt8.toNat_inj.1 h⟩
  unfold spec_debBlank.f Lib.isSp
  rw [hu 9, hu 10, hu 11, hu 12, hu 13, hu 32]
  have n9 : (9 : UInt8).toNat = 9 := rfl
  have n10 : (10 : UInt8).toNat = 10 := rfl
  have n11 : (11 : UInt8).toNat = 11 := rfl
  have n12 : (12 : UInt8).toNat = 12 := rfl
  have n13 : (13 : UInt8).toNat = 13 := rfl
  have n32 : (32 : UInt8).toNat = 32 := rfl
  rw [n9, n10, n11, n12, n13, n32]
  by_cases h1 : (c.toNat : Int) = 32
  · rw [if_pos h1, decide_eq_true (show c.toNat = 32 by omega), Bool.or_true]
  · rw [if_neg h1]
    by_cases h2 : (c.toNat : Int) ≥ 9
    · rw [if_pos h2]
      congr 1
      rw [Bool.eq_iff_iff]
      simp only [Bool.or_eq_true, decide_eq_true_eq]
      omega
    · rw [if_neg h2]
      congr 1
      symm
      rw [Bool.eq_false_iff]
      intro h
      simp only [Bool.or_eq_true, decide_eq_true_eq] at h
      omega
def trR (l : List UInt8) : List UInt8 := (l.reverse.dropWhile Lib.isSp).reverse
theorem trR_snoc (l : List UInt8) (c : UInt8) : trR (l ++ [c]) = if Lib.isSp c = true then trR l else l ++ [c] := by
  unfold trR
  rw [List.reverse_append, List.reverse_singleton, List.singleton_append, List.dropWhile_cons]
  split
  · rfl
  · rw [List.reverse_cons, List.reverse_reverse]
theorem trimR_l : ∀ (n : Nat) (l : List UInt8), l.length = n → n ≤ 100000 → Ev (fun k => spec_debTrim.l1 k (ofL l)) (ofL (trR l))
  | 0, l, h, hn => by
    have hl : l = [] := List.eq_nil_of_length_eq_zero h
    subst hl
    refine Ev.step (fun _ => by rw [spec_debTrim.l1]) ?_
    exact ev_neg (by rw [ofL_size]; simp) (ev_now rfl)
  | n + 1, l, h, hn => by
    rcases List.eq_nil_or_concat l with rfl | ⟨L, c, rfl⟩
    · simp at h
    · rw [List.concat_eq_append] at h ⊢
      have hL : L.length = n := by simpa using h
      have hs : (ofL (L ++ [c])).size = n + 1 := by rw [ofL_size]; exact h
      have hw : wrap64 (((ofL (L ++ [c])).size : Int) - 1) = (n : Int) := by rw [hs, wrap_in (by omega) (by omega)]; omega
      have hb : bt (ofL (L ++ [c])) (n : Int) = (c.toNat : Int) := by
        rw [bt_ofL _ n (by rw [h]; omega)]
        congr 2
        subst hL
        simp
      refine Ev.step (fun _ => by rw [spec_debTrim.l1, hw, hb, blank_f, hs]) (ev_pos (by omega) (ev_pos (by omega) (ev_pos (by omega) (ev_some ?_))))
      rw [trR_snoc]
      by_cases hc : Lib.isSp c = true
      · rw [if_pos hc]
        refine ev_pos hc (ev_pos (by omega) ?_)
        have he : (ofL (L ++ [c])).extract 0 ((n : Int)).toNat = ofL L := by
          rw [ofL_extract, Int.toNat_natCast, List.drop_zero, List.take_left' hL]
        rw [he]
        exact trimR_l n L hL (by omega)
      · rw [if_neg hc]
        exact ev_neg hc (ev_now rfl)
theorem trim_l : ∀ (n : Nat) (l : List UInt8), l.length = n → n ≤ 100000 → Ev (fun k => spec_debTrim.l0 k (ofL l)) (ofL (Lib.trimSpace l))
  | 0, l, h, hn => by
    have hl : l = [] := List.eq_nil_of_length_eq_zero h
    subst hl
    refine Ev.step (fun _ => by rw [spec_debTrim.l0]) ?_
    refine ev_neg (by rw [ofL_size]; simp) ?_
    exact Ev.step (fun _ => by rw [spec_debTrim.j1]) (trimR_l 0 [] rfl (by omega))
  | n + 1, l, h, hn => by
    cases l with
    | nil => simp at h
    | cons c r =>
      have hr : r.length = n := by simpa using h
      have hs : (ofL (c :: r)).size = n + 1 := by rw [ofL_size]; exact h
      have hb : bt (ofL (c :: r)) 0 = (c.toNat : Int) := bt_ofL (c :: r) 0 (by simp)
      refine Ev.step (fun _ => by rw [spec_debTrim.l0, hb, blank_f, hs]) (ev_pos (by omega) (ev_pos (by omega) (ev_some ?_)))
      by_cases hc : Lib.isSp c = true
      · refine ev_pos hc (ev_pos (by omega) ?_)
        have he : (ofL (c :: r)).extract 1 (n + 1) = ofL r := by
          rw [ofL_extract, List.take_of_length_le (by rw [h]; omega)]
          rfl
        rw [he]
        refine ev_eq (trim_l n r hr (by omega)) ?_
        unfold Lib.trimSpace
        rw [List.dropWhile_cons, if_pos hc]
      · refine ev_neg hc ?_
        refine ev_eq (Ev.step (fun _ => by rw [spec_debTrim.j1]) (trimR_l (n + 1) (c :: r) h hn)) ?_
        unfold Lib.trimSpace trR
        rw [List.dropWhile_cons, if_neg hc]
theorem trim_ev (l : List UInt8) (hl : l.length ≤ 100000) : Ev (fun k => spec_debTrim.f k (ofL l)) (ofL (Lib.trimSpace l)) := trim_l l.length l rfl hl
theorem trim_le (l : List UInt8) : (Lib.trimSpace l).length ≤ l.length := by
  unfold Lib.trimSpace
  rw [List.length_reverse]
  refine Nat.le_trans (List.dropWhile_sublist _).length_le ?_
  rw [List.length_reverse]
  exact (List.dropWhile_sublist _).length_le
theorem idxI_has (c : UInt8) (l : List UInt8) (h : idxI c l < 0) : l.contains c = false := by
  unfold idxI at h
  split at h
  · rename_i h1
    exact (drop_nil_iff c l).1 h1
  · omega
/-- A known text: no byte beyond 127, no byte 0. -/
def KnD (l : List UInt8) : Prop := (∀ c ∈ l, c.toNat < 128) ∧ l.contains 0 = false
theorem known_ev (l : List UInt8) (hl : l.length ≤ 100000) : ∃ b, Ev (fun k => spec_DebianKnown.f k (ofL l)) b ∧ (b = true → KnD l) := by
  obtain ⟨r, hr, hq⟩ := ascii_ev (ofL l) (by rw [ofL_size]; omega)
  have hi := index_ev 0 l (by omega)
  have h0 : (((0 : UInt8).toNat : Nat) : Int) = 0 := rfl
  rw [h0] at hi
  have hz := index_ev 58 (Lib.trimSpace l) (by have := trim_le l; omega)
  have h58 : (((58 : UInt8).toNat : Nat) : Int) = 58 := rfl
  rw [h58] at hz
  have tail : ∀ s : Bool, ∃ b, Ev (fun k => (spec_Ascii.f k (ofL l)).bind fun t => (if t = true then ((spec_indexOf.f k (ofL l) 0).bind fun t2 => (if t2 < 0 then (some (!s)) else (some false))) else (some false))) b ∧ (b = true → KnD l) := by
    intro s
    cases r with
    | false => exact ⟨false, Ev.bind hr (ev_f (ev_now rfl)), fun h => by cases h⟩
    | true =>
      by_cases hn : idxI 0 l < 0
      · refine ⟨!s, Ev.bind hr (ev_t (Ev.bind hi (ev_pos hn (ev_now rfl)))), fun _ => ⟨fun c hc => ?_, idxI_has 0 l hn⟩⟩
        obtain ⟨i, h1, rfl⟩ := List.getElem_of_mem hc
        exact hq rfl i (by rw [ofL_size]; exact h1)
      · exact ⟨false, Ev.bind hr (ev_t (Ev.bind hi (ev_neg hn (ev_now rfl)))), fun h => by cases h⟩
  unfold spec_DebianKnown.f
  obtain ⟨b0, e0, q0⟩ := tail false
  by_cases hs : ((ofL (Lib.trimSpace l)).size : Int) > 0
  · obtain ⟨b1, e1, q1⟩ := tail (decide (idxI 58 (Lib.trimSpace l) ≥ 0))
    by_cases h43 : bt (ofL (Lib.trimSpace l)) 0 = 43
    · exact ⟨b1, Ev.bind (trim_ev l hl) (ev_pos hs (ev_pos (by omega) (ev_pos h43 (Ev.bind hz e1)))), q1⟩
    · by_cases h45 : bt (ofL (Lib.trimSpace l)) 0 = 45
      · exact ⟨b1, Ev.bind (trim_ev l hl) (ev_pos hs (ev_pos (by omega) (ev_neg h43 (ev_pos h45 (Ev.bind hz e1))))), q1⟩
      · exact ⟨b0, Ev.bind (trim_ev l hl) (ev_pos hs (ev_pos (by omega) (ev_neg h43 (ev_neg h45 e0)))), q0⟩
  · exact ⟨b0, Ev.bind (trim_ev l hl) (ev_neg hs e0), q0⟩
theorem known_b (a : ByteArray) (h : a.size ≤ 1500) : ∃ r, Ev (fun k => spec_DebianKnown.f k a) r ∧ (r = true → KnD (bl a)) := by
  have := known_ev (bl a) (by rw [bl_length]; omega)
  rw [ofL_bl] at this
  exact this
theorem asc_bl {a : ByteArray} (h : ∀ c ∈ bl a, c.toNat < 128) : ascB a = true := by
  have := asc_of h
  rw [ofL_bl] at this
  exact this
theorem parts_f {a b : ByteArray} (ha : a.size ≤ 100000) (hb : b.size ≤ 100000) (ka : KnD (bl a)) (kb : KnD (bl b)) : impl_DebianParts.f a b = some (dbP (bl a) (bl b), true) := by
  unfold impl_DebianParts.f
  rw [if_pos ⟨⟨ha, asc_bl ka.1⟩, hb, asc_bl kb.1⟩]
theorem dcmp_f {a b : ByteArray} (ha : a.size ≤ 100000) (hb : b.size ≤ 100000) (ka : ∀ c ∈ bl a, c.toNat < 128) (kb : ∀ c ∈ bl b, c.toNat < 128) : impl_DebianCompare.f a b = some (match dbp (bl a), dbp (bl b) with
  | some x, some y => (dvC x y, true)
  | _, _ => (0, false)) := by
  unfold impl_DebianCompare.f
  rw [if_pos ⟨⟨ha, asc_bl ka⟩, hb, asc_bl kb⟩]
  rfl
theorem dvC_neg (x y : DbV) : dvC y x = -dvC x y := by
  unfold dvC
  rw [cmpZ_neg x.1 y.1, dbP_neg x.2.1, dbP_neg x.2.2]
  split <;> split <;> (try split) <;> (try split) <;> omega
theorem dvC_ran (x y : DbV) : -1 ≤ dvC x y ∧ dvC x y ≤ 1 := by
  unfold dvC
  split
  · split
    · exact dbP_ran _ _
    · exact dbP_ran _ _
  · exact cmpZ_ran _ _
end Go.Proofs.YtkcciinapkeaiaaDoor.Com

namespace Go.Proofs.YtkcciinapkeaiaaDoor.Com
open Go.RowKit Go.Proofs.YtkcciinapkeaiaaDoor.Z Go.Proofs.YtkcciinapkeaiaaDoor.Evs Go.Proofs.YtkcciinapkeaiaaDoorW.PrintWords Go.Proofs.YtkcciinapkeaiaaDoorW.PrintLast
set_option linter.unusedVariables false
set_option linter.unusedSimpArgs false

/-- short: an answer; where it is true the list is short and its texts are. -/
theorem short_l (l : List ByteArray) (hl : (l.length : Int) < 9223372036854775807) (d : Nat) : ∀ i : Nat, i + d = l.length →
    ∃ b, Ev (fun k => laws_short.l0 k l l (l.length : Int) (i : Int)) b ∧ (b = true → l.length ≤ 150 ∧ ∀ j, i ≤ j → j < l.length → (l.getD j ByteArray.empty).size ≤ 1500) := by
  induction d with
  | zero =>
    intro i h
    exact ⟨_, Ev.step (fun _ => by rw [laws_short.l0]) (ev_neg (by omega) (Ev.now _)), fun hb => ⟨by simp at hb; omega, fun j h1 h2 => by omega⟩⟩
  | succ d ih =>
    intro i h
    obtain ⟨b, hb, hq⟩ := ih (i + 1) (by omega)
    by_cases c : ((rdOf ByteArray.empty l (i : Int)).size : Int) > 1500
    · exact ⟨false, Ev.step (fun _ => by rw [laws_short.l0]) (ev_pos (by omega) (ev_pos (by omega) (ev_pos (by omega) (ev_pos c (Ev.now _))))), fun h => by cases h⟩
    · refine ⟨b, Ev.step (fun _ => by rw [laws_short.l0, wrap_nat (by omega)]) (ev_pos (by omega) (ev_pos (by omega) (ev_pos (by omega) (ev_neg c hb)))), fun h => ⟨(hq h).1, fun j h1 h2 => ?_⟩⟩
      by_cases e : j = i
      · subst e; rw [rdOf_nat] at c; omega
      · exact (hq h).2 j (by omega) h2
theorem short_ev (l : List ByteArray) (hl : (l.length : Int) < 9223372036854775807) : ∃ b, Ev (fun k => laws_short.f k l) b ∧ (b = true → l.length ≤ 150 ∧ ∀ j, j < l.length → (l.getD j ByteArray.empty).size ≤ 1500) := by
  obtain ⟨b, hb, hq⟩ := short_l l hl l.length 0 (by omega)
  exact ⟨b, hb, fun h => ⟨(hq h).1, fun j hj => (hq h).2 j (by omega) hj⟩⟩

theorem short2 (a b : ByteArray) : ∃ r, Ev (fun k => laws_short.f k [a, b]) r ∧ (r = true → a.size ≤ 1500 ∧ b.size ≤ 1500) := by
  obtain ⟨r, hr, hq⟩ := short_ev [a, b] (by simp)
  exact ⟨r, hr, fun h => ⟨(hq h).2 0 (by simp), (hq h).2 1 (by simp)⟩⟩
theorem short4 (a b c d : ByteArray) : ∃ r, Ev (fun k => laws_short.f k [a, b, c, d]) r ∧ (r = true → a.size ≤ 1500 ∧ b.size ≤ 1500 ∧ c.size ≤ 1500 ∧ d.size ≤ 1500) := by
  obtain ⟨r, hr, hq⟩ := short_ev [a, b, c, d] (by simp)
  exact ⟨r, hr, fun h => ⟨(hq h).2 0 (by simp), (hq h).2 1 (by simp), (hq h).2 2 (by simp), (hq h).2 3 (by simp)⟩⟩
end Go.Proofs.YtkcciinapkeaiaaDoor.Com

namespace Go.Proofs.YtkcciinapkeaiaaDoor.Com
open Go.RowKit Go.Proofs.YtkcciinapkeaiaaDoor.Z Go.Proofs.YtkcciinapkeaiaaDoor.Evs Go.Proofs.YtkcciinapkeaiaaDoor.By Go.Proofs.YtkcciinapkeaiaaDoorW.PrintWords Go.Proofs.YtkcciinapkeaiaaDoorW.PrintLast
set_option linter.unusedVariables false
set_option linter.unusedSimpArgs false

theorem plain_eq (a c : UInt8) : ((a.toNat : Int) == (c.toNat : Int)) = (a == c) := by
  rw [Bool.eq_iff_iff, beq_iff_eq, beq_iff_eq]
  exact ⟨fun h => UInt8.toNat_inj.1 (by omega), fun h => by rw [h]⟩
/-- The inner loop: is the byte one of those told, or was it good already. -/
theorem plain_1 (s m : List UInt8) (hm : m.length ≤ 1000) (i : Nat) (c : UInt8) (r : Bool) (hno : Ev (fun k => laws_plain.l0 k (ofL s) (ofL m) (wrap64 ((i : Int) + 1))) r) (d : Nat) :
    ∀ (j : Nat) (b : Bool), j + d = m.length → Ev (fun k => laws_plain.l1 k (ofL s) (ofL m) (i : Int) (c.toNat : Int) b (j : Int)) ((b || (m.drop j).contains c) && r) := by
  have hs := ofL_size m
  induction d with
  | zero =>
    intro j b h
    refine Ev.step (fun _ => by rw [laws_plain.l1]) (ev_neg (by omega) ?_)
    rw [List.drop_of_length_le (by omega)]
    cases b with
    | true => exact ev_t (by simpa using hno)
    | false => exact ev_f (ev_now (by simp))
  | succ d ih =>
    intro j b h
    have hj : j < m.length := by omega
    have hc := bt_ofL m j hj
    have e : m.drop j = m[j] :: m.drop (j + 1) := List.drop_eq_getElem_cons hj
    refine Ev.step (fun _ => by rw [laws_plain.l1, hc, plain_eq, wrap_nat (by omega)]) (ev_pos (by omega) ?_)
    cases b with
    | true =>
      refine ev_t ?_
      have := ih (j + 1) true (by omega)
      simpa using this
    | false =>
      refine ev_f (ev_pos (by omega) ?_)
      have := ih (j + 1) (c == m[j]) (by omega)
      rw [e, List.contains_cons]
      simpa using this
def plainC (m : List UInt8) (c : UInt8) : Bool := dg c || lt c || m.contains c
theorem plain_l (s m : List UInt8) (hs0 : s.length ≤ 140737488351232) (hm : m.length ≤ 1000) (d : Nat) : ∀ i : Nat, i + d = s.length → Ev (fun k => laws_plain.l0 k (ofL s) (ofL m) (i : Int)) ((s.drop i).all (plainC m) && !s.isEmpty) := by
  have hs := ofL_size s
  induction d with
  | zero =>
    intro i h
    refine Ev.step (fun _ => by rw [laws_plain.l0]) (ev_neg (by omega) (ev_now ?_))
    rw [List.drop_of_length_le (by omega), toList_ofL]
    simp
  | succ d ih =>
    intro i h
    have hi : i < s.length := by omega
    have hc := bt_ofL s i hi
    have hw : wrap64 ((i : Int) + 1) = ((i + 1 : Nat) : Int) := wrap_nat (by omega)
    have nx := ih (i + 1) (by omega)
    rw [← hw] at nx
    have inner : ∀ b : Bool, b = (dg s[i] || lt s[i]) → Ev (fun k => laws_plain.j1 k (ofL s) (ofL m) (i : Int) (s[i].toNat : Int) b) ((s.drop i).all (plainC m) && !s.isEmpty) := by
      intro b hb
      refine Ev.step (fun _ => by rw [laws_plain.j1]) ?_
      have := plain_1 s m hm i s[i] _ nx m.length 0 b (by omega)
      rw [List.drop_zero] at this
      rw [List.drop_eq_getElem_cons hi, List.all_cons, plainC, ← hb, Bool.and_assoc]
      exact this
    refine Ev.step (fun _ => by rw [laws_plain.l0, hc]) (ev_pos (by omega) (ev_pos (by omega) ?_))
    have low : ∀ (b : Bool), dg s[i] = false → (¬ (97 ≤ s[i].toNat ∧ s[i].toNat ≤ 122)) → Ev (fun k => if (s[i].toNat : Int) ≥ 65 then (laws_plain.j1 k (ofL s) (ofL m) (i : Int) (s[i].toNat : Int) (decide ((s[i].toNat : Int) ≤ 90))) else (laws_plain.j1 k (ofL s) (ofL m) (i : Int) (s[i].toNat : Int) false)) ((s.drop i).all (plainC m) && !s.isEmpty) := by
      intro _ h1 h2
      by_cases c : (s[i].toNat : Int) ≥ 65
      · refine ev_pos c (inner _ ?_)
        rw [h1, Bool.false_or, lt, decide_eq_decide]
        omega
      · refine ev_neg c (inner _ ?_)
        rw [h1, Bool.false_or, lt]
        symm
        rw [decide_eq_false_iff_not]
        omega
    have mid : dg s[i] = false → Ev (fun k => if (s[i].toNat : Int) ≥ 97 then (if (s[i].toNat : Int) ≤ 122 then (laws_plain.j1 k (ofL s) (ofL m) (i : Int) (s[i].toNat : Int) true) else (if (s[i].toNat : Int) ≥ 65 then (laws_plain.j1 k (ofL s) (ofL m) (i : Int) (s[i].toNat : Int) (decide ((s[i].toNat : Int) ≤ 90))) else (laws_plain.j1 k (ofL s) (ofL m) (i : Int) (s[i].toNat : Int) false))) else (if (s[i].toNat : Int) ≥ 65 then (laws_plain.j1 k (ofL s) (ofL m) (i : Int) (s[i].toNat : Int) (decide ((s[i].toNat : Int) ≤ 90))) else (laws_plain.j1 k (ofL s) (ofL m) (i : Int) (s[i].toNat : Int) false))) ((s.drop i).all (plainC m) && !s.isEmpty) := by
      intro h1
      by_cases c : (s[i].toNat : Int) ≥ 97
      · refine ev_pos c ?_
        by_cases c2 : (s[i].toNat : Int) ≤ 122
        · refine ev_pos c2 (inner _ ?_)
          rw [h1, Bool.false_or, lt, decide_eq_true (by omega)]
        · exact ev_neg c2 (low true h1 (by omega))
      · exact ev_neg c (low true h1 (by omega))
    by_cases c : (s[i].toNat : Int) ≥ 48
    · refine ev_pos c ?_
      by_cases c2 : (s[i].toNat : Int) ≤ 57
      · refine ev_pos c2 (inner _ ?_)
        rw [dg, decide_eq_true (by omega), Bool.true_or]
      · exact ev_neg c2 (mid (by rw [dg]; exact decide_eq_false (by omega)))
    · exact ev_neg c (mid (by rw [dg]; exact decide_eq_false (by omega)))
theorem plain_ev (s m : List UInt8) (hs0 : s.length ≤ 140737488351232) (hm : m.length ≤ 1000) : Ev (fun k => laws_plain.f k (ofL s) (ofL m)) (s.all (plainC m) && !s.isEmpty) := plain_l s m hs0 hm s.length 0 (by omega)
end Go.Proofs.YtkcciinapkeaiaaDoor.Com

namespace Go.Proofs.YtkcciinapkeaiaaDoor.Pure
open Go Go.RowKit Go.Proofs.YtkcciinapkeaiaaDoor.Z Go.Proofs.YtkcciinapkeaiaaDoor.Evs Go.Proofs.YtkcciinapkeaiaaDoor.By Go.Proofs.YtkcciinapkeaiaaDoor.Com Go.Proofs.YtkcciinapkeaiaaDoor.Lx Go.Proofs.YtkcciinapkeaiaaDoor.Bv Go.Proofs.YtkcciinapkeaiaaDoorW.PrintWords Go.Proofs.YtkcciinapkeaiaaDoorW.PrintLast
set_option linter.unusedVariables false
set_option linter.unusedSimpArgs false
theorem plQ (m a : List UInt8) (hm : ∀ c, plainC m c = true → c ≠ 58 ∧ Lib.isSp c = false) (h : (a.all (plainC m) && !a.isEmpty) = true) : a.contains 58 = false ∧ ∀ x ∈ a, Lib.isSp x = false := by
  rw [Bool.and_eq_true] at h
  obtain ⟨h1, _⟩ := h
  constructor
  · rw [Bool.eq_false_iff]
    intro hc
    exact (hm 58 (List.all_eq_true.1 h1 58 (List.contains_iff_mem.1 hc))).1 rfl
  · exact fun x hx => (hm x (List.all_eq_true.1 h1 x hx)).2
theorem pl4 (c : UInt8) (h : plainC [46, 43, 126, 45] c = true) : c ≠ 58 ∧ Lib.isSp c = false := by
  constructor
  · intro e
    rw [e] at h
    exact absurd h (by decide)
  · rw [Bool.eq_false_iff]
    intro hs
    unfold Lib.isSp at hs
    simp only [Bool.or_eq_true, beq_iff_eq] at hs
    rcases hs with ((((rfl | rfl) | rfl) | rfl) | rfl) | rfl <;> exact absurd h (by decide)
theorem pl3 (c : UInt8) (h : plainC [46, 43, 126] c = true) : (c ≠ 58 ∧ Lib.isSp c = false) ∧ c ≠ 45 := by
  refine ⟨⟨?_, ?_⟩, ?_⟩
  · intro e
    rw [e] at h
    exact absurd h (by decide)
  · rw [Bool.eq_false_iff]
    intro hs
    unfold Lib.isSp at hs
    simp only [Bool.or_eq_true, beq_iff_eq] at hs
    rcases hs with ((((rfl | rfl) | rfl) | rfl) | rfl) | rfl <;> exact absurd h (by decide)
  · intro e
    rw [e] at h
    exact absurd h (by decide)
theorem trim_same (l : List UInt8) (h : ∀ x ∈ l, Lib.isSp x = false) : Lib.trimSpace l = l := by
  have hd : ∀ m : List UInt8, (∀ x ∈ m, Lib.isSp x = false) → m.dropWhile Lib.isSp = m := fun m hm => by
    cases m with
    | nil => rfl
    | cons c r => rw [List.dropWhile_cons, if_neg (by rw [hm c (by simp)]; decide)]
  unfold Lib.trimSpace
  rw [hd l h, hd l.reverse (fun x hx => h x (List.mem_reverse.1 hx)), List.reverse_reverse]
theorem dbp_no (a : List UInt8) (h : a.contains 58 = false) (hs : ∀ x ∈ a, Lib.isSp x = false) : dbp a = some (0, dbS a) := by
  unfold dbp
  rw [trim_same a hs, if_neg (by rw [h]; decide)]
theorem dbS_at (u p : List UInt8) (h : ∀ x ∈ p, x ≠ 45) : dbS (u ++ 45 :: p) = (u, p) := by
  have hall : ∀ x ∈ p.reverse, (x != 45) = true := fun x hx => by
    rw [bne_iff_ne]
    exact h x (List.mem_reverse.1 hx)
  have hr : (u ++ 45 :: p).reverse = p.reverse ++ 45 :: u.reverse := by simp
  unfold dbS
  rw [if_pos (by rw [List.contains_iff_mem]; simp)]
  unfold upC rvC
  rw [hr, List.dropWhile_append_of_pos hall, List.takeWhile_append_of_pos hall, List.dropWhile_cons, if_neg (by decide), List.takeWhile_cons, if_neg (by decide)]
  simp
theorem dbp_join (u p : List UInt8) (h1 : u.contains 58 = false) (h2 : ∀ x ∈ u, Lib.isSp x = false) (h3 : p.contains 58 = false) (h4 : ∀ x ∈ p, Lib.isSp x = false) (h5 : ∀ x ∈ p, x ≠ 45) : dbp (u ++ 45 :: p) = some (0, u, p) := by
  have hc : (u ++ 45 :: p).contains 58 = false := by
    rw [Bool.eq_false_iff] at h1 h3 ⊢
    intro hc
    rcases List.mem_append.1 (List.contains_iff_mem.1 hc) with hx | hx
    · exact h1 (List.contains_iff_mem.2 hx)
    · rcases List.mem_cons.1 hx with hx | hx
      · exact absurd hx (by decide)
      · exact h3 (List.contains_iff_mem.2 hx)
  have hs : ∀ x ∈ u ++ 45 :: p, Lib.isSp x = false := fun x hx => by
    rcases List.mem_append.1 hx with hx | hx
    · exact h2 x hx
    · rcases List.mem_cons.1 hx with rfl | hx
      · decide
      · exact h4 x hx
  rw [dbp_no _ hc hs, dbS_at u p h5]
theorem first_ev (x y : Int) : Ev (fun k => laws_first.f k [x, y]) (if x = 0 then y else x) := by
  have r0 : rd [x, y] 0 = x := rfl
  have r1 : rd [x, y] 1 = y := rfl
  have w0 : wrap64 ((0 : Int) + 1) = 1 := wrap_in (by decide) (by decide)
  have w1 : wrap64 ((1 : Int) + 1) = 2 := wrap_in (by decide) (by decide)
  unfold laws_first.f
  refine Ev.step (fun _ => by rw [laws_first.l0, r0, w0]) ?_
  refine ev_pos (by show (0 : Int) < 2; decide) (ev_pos (by decide) (ev_pos (by show (0 : Int) < 2; decide) ?_))
  by_cases hx : x = 0
  · rw [if_pos hx]
    refine ev_pos hx ?_
    refine Ev.step (fun _ => by rw [laws_first.l0, r1, w1]) ?_
    refine ev_pos (by show (1 : Int) < 2; decide) (ev_pos (by decide) (ev_pos (by show (1 : Int) < 2; decide) ?_))
    by_cases hy : y = 0
    · refine ev_pos hy ?_
      refine Ev.step (fun _ => by rw [laws_first.l0]) ?_
      exact ev_neg (by show ¬ (2 : Int) < 2; decide) (ev_now hy.symm)
    · exact ev_neg hy (ev_now rfl)
  · rw [if_neg hx]
    exact ev_neg hx (ev_now rfl)
theorem FnDebianJoined : laws_FnDebianJoined.Pure := by
  intro a0 a1 a2 a3 h0 h1 h2 h3
  refine Ev.rounds ?_
  unfold laws_FnDebianJoined.f
  have z0 : Ev (fun k => laws_FnDebianJoined.j0 k a0 a1 a2 a3 true) true := Ev.step (fun _ => by rw [laws_FnDebianJoined.j0]) (ev_t (ev_now rfl))
  have z1 : Ev (fun k => laws_FnDebianJoined.j1 k a0 a1 a2 a3 true) true := Ev.step (fun _ => by rw [laws_FnDebianJoined.j1]) (ev_t (ev_now rfl))
  refine ev_ite (fun _ => z0) (fun c0 => ev_ite (fun _ => z0) (fun c1 => ev_ite (fun _ => z0) (fun c2 => ?_)))
  cases c3 : decide ((a3.size : Int) > 2147483647) with
  | true => exact z0
  | false =>
    obtain ⟨r, hr, hq⟩ := short4 a0 a1 a2 a3
    refine Ev.step (fun _ => by rw [laws_FnDebianJoined.j0]) ?_
    refine ev_f (Ev.bind hr ?_)
    cases r with
    | false => exact ev_f z1
    | true =>
      obtain ⟨s0, s1, s2, s3⟩ := hq rfl
      have l0 := bl_length a0
      have l1 := bl_length a1
      have l2 := bl_length a2
      have l3 := bl_length a3
      have p0 := plain_ev (bl a0) [46, 43, 126, 45] (by omega) (by simp)
      have p1 := plain_ev (bl a1) [46, 43, 126, 45] (by omega) (by simp)
      have p2 := plain_ev (bl a2) [46, 43, 126] (by omega) (by simp)
      have p3 := plain_ev (bl a3) [46, 43, 126] (by omega) (by simp)
      obtain ⟨k0, e0, q0⟩ := known_b a0 s0
      obtain ⟨k1, e1, q1⟩ := known_b a1 s1
      obtain ⟨k2, e2, q2⟩ := known_b a2 s2
      obtain ⟨k3, e3, q3⟩ := known_b a3 s3
      refine ev_t (Ev.bind p0 ?_)
      cases g0 : ((bl a0).all (plainC [46, 43, 126, 45]) && !(bl a0).isEmpty) with
      | false => exact ev_f z1
      | true =>
       refine ev_t (Ev.bind p1 ?_)
       cases g1 : ((bl a1).all (plainC [46, 43, 126, 45]) && !(bl a1).isEmpty) with
       | false => exact ev_f z1
       | true =>
        refine ev_t (Ev.bind p2 ?_)
        cases g2 : ((bl a2).all (plainC [46, 43, 126]) && !(bl a2).isEmpty) with
        | false => exact ev_f z1
        | true =>
         refine ev_t (Ev.bind p3 ?_)
         cases g3 : ((bl a3).all (plainC [46, 43, 126]) && !(bl a3).isEmpty) with
         | false => exact ev_f z1
         | true =>
          refine ev_t (Ev.bind e0 ?_)
          cases k0 with
          | false => exact ev_f z1
          | true =>
           refine ev_t (Ev.bind e1 ?_)
           cases k1 with
           | false => exact ev_f z1
           | true =>
            refine ev_t (Ev.bind e2 ?_)
            cases k2 with
            | false => exact ev_f z1
            | true =>
             refine ev_t (Ev.bind e3 ?_)
             cases k3 with
             | false => exact z1
             | true =>
              have ka := q0 rfl
              have kb := q1 rfl
              have kc := q2 rfl
              have kd := q3 rfl
              obtain ⟨x0, y0⟩ := plQ _ _ pl4 g0
              obtain ⟨x1, y1⟩ := plQ _ _ pl4 g1
              obtain ⟨x2, y2⟩ := plQ _ _ (fun c h => (pl3 c h).1) g2
              obtain ⟨x3, y3⟩ := plQ _ _ (fun c h => (pl3 c h).1) g3
              rw [Bool.and_eq_true] at g2 g3
              have d2 : ∀ x ∈ bl a2, x ≠ 45 := fun x hx => (pl3 x (List.all_eq_true.1 g2.1 x hx)).2
              have d3 : ∀ x ∈ bl a3, x ≠ 45 := fun x hx => (pl3 x (List.all_eq_true.1 g3.1 x hx)).2
              have cat : ∀ a b : ByteArray, (a ++ (⟨#[45]⟩ : ByteArray)) ++ b = ofL (bl a ++ 45 :: bl b) := fun a b => by
                have : bl a ++ 45 :: bl b = (bl a ++ [45]) ++ bl b := by simp
                rw [this, ← ofL_append, ← ofL_append]
                rfl
              have asc : ∀ (e a : List UInt8), (∀ c ∈ e, c.toNat < 128) → (∀ c ∈ a, c.toNat < 128) → ∀ c ∈ bl (ofL (e ++ 45 :: a)), c.toNat < 128 := fun e a he ha c hc => by
                rw [bl_ofL] at hc
                rcases List.mem_append.1 hc with hc | hc
                · exact he c hc
                · rcases List.mem_cons.1 hc with rfl | hc
                  · decide
                  · exact ha c hc
              have sz : ∀ a b : ByteArray, (ofL (bl a ++ 45 :: bl b)).size = a.size + (b.size + 1) := fun a b => by rw [ofL_size, List.length_append, List.length_cons, bl_length, bl_length]
              have r2 := dcmp_f (a := ofL (bl a0 ++ 45 :: bl a2)) (b := ofL (bl a1 ++ 45 :: bl a3)) (by rw [sz]; omega) (by rw [sz]; omega) (asc _ _ ka.1 kc.1) (asc _ _ kb.1 kd.1)
              rw [bl_ofL, bl_ofL, dbp_join _ _ x0 y0 x2 y2 d2, dbp_join _ _ x1 y1 x3 y3 d3, ← cat, ← cat] at r2
              have r3 : impl_DebianParse.f ((a0 ++ (⟨#[45]⟩ : ByteArray)) ++ a2) = some (false, Ss.plainS 0, a0, a2, true) := by
                unfold impl_DebianParse.f
                rw [cat, if_pos ⟨by rw [sz]; omega, asc_bl (asc _ _ ka.1 kc.1)⟩, bl_ofL, dbp_join _ _ x0 y0 x2 y2 d2]
                rfl
              have v2 : impl_DebianCompare.f ((a0 ++ (⟨#[45]⟩ : ByteArray)) ++ a2) ((a1 ++ (⟨#[45]⟩ : ByteArray)) ++ a3) = some (if dbP (bl a0) (bl a1) = 0 then dbP (bl a2) (bl a3) else dbP (bl a0) (bl a1), true) := r2
              have z2 : (a0 ++ (⟨#[45]⟩ : ByteArray)).size = a0.size + 1 := by simp; rfl
              have z3 : (a1 ++ (⟨#[45]⟩ : ByteArray)).size = a1.size + 1 := by simp; rfl
              clear r2 cat asc sz
              refine Ev.step (fun _ => by rw [Bool.not_true, laws_FnDebianJoined.j1, parts_f (by omega) (by omega) ka kb, parts_f (by omega) (by omega) kc kd, v2, r3]) ?_
              refine ev_f (ev_some (ev_some (ev_pos (by omega) (ev_pos (by omega) (ev_pos (by omega) (ev_pos (by omega) (ev_some (ev_some ?_))))))))
              refine ev_t (ev_t (ev_t (ev_t ?_)))
              refine Ev.bind (first_ev _ _) ?_
              refine ev_pos rfl (ev_pos rfl (ev_now ?_))
              exact (show (a2.toList == a2.toList) = true from beq_self_eq_true _)
end Go.Proofs.YtkcciinapkeaiaaDoor.Pure

namespace Go.Proofs.YtkcciinapkeaiaaDoor.fnDebianJoined
open Go.ChangeShapes Go.WideShapes Go.ChangeAt Go.RowKit Go.Proofs.YtkcciinapkeaiaaDoor.Op Go.Proofs.YtkcciinapkeaiaaDoor.Z Go.Proofs.YtkcciinapkeaiaaDoorW.PrintWords
open Go.ChangeMaps (open_string shut_string)
set_option linter.unusedVariables false
set_option linter.unusedSimpArgs false
theorem own : ownKnob Tryd.prog.godebug = none := by kernel_rfl
/-- A world for the witness: the listed variables hold what their initialisers lay. -/
noncomputable def laidWorld (os : Os) : World := World.laidAll Tryd.prog os Rows.fnDebianJoinedRow.laid
set_option maxRecDepth 100000 in
theorem laid_met (os : Os) : laidMet Tryd.prog Rows.fnDebianJoinedRow.laid ((laidWorld os).forCall (fun _ _ => 0) ⟨#[], #[.string ByteArray.empty, .string ByteArray.empty, .string ByteArray.empty, .string ByteArray.empty], []⟩).memory :=
  laidMet_laidAll _ (by kernel_rfl) (by kernel_rfl)
set_option maxRecDepth 100000 in
theorem reads (os : Os) {H : Type} (enc : TypeId × Value → H) : DataW.whole enc Tryd.prog ((laidWorld os).forCall (fun _ _ => 0) ⟨#[], #[.string ByteArray.empty, .string ByteArray.empty, .string ByteArray.empty, .string ByteArray.empty], []⟩).memory Tryd.f7.params.toList Rows.fnDebianJoinedSpec.vars false #[.string ByteArray.empty, .string ByteArray.empty, .string ByteArray.empty, .string ByteArray.empty].toList 8 = some ([.lit (.string []), .lit (.string []), .lit (.string []), .lit (.string [])], [], []) := by kernel_rfl
set_option maxRecDepth 100000 in
theorem lifted (os : Os) (started : os.Started) (H : Type) (enc : TypeId × Value → H) (F : Stop.Interp) :
    ReturnsInHanded {} Tryd.checked os 7 .any ((OpenSpec.ofChange Rows.fnDebianJoinedSpec).preRow enc Tryd.prog Tryd.f7 Rows.fnDebianJoinedRow.domain false Rows.fnDebianJoinedRow.laid) (((OpenSpec.ofChange Rows.fnDebianJoinedSpec).at F).post enc Tryd.prog Tryd.f7 false true false false) := by
  refine returnsInHanded_of_row (C := Tryd.checked) (s := OpenSpec.ofChange Rows.fnDebianJoinedSpec) own started (by kernel_rfl) Tryd.func7
    (witness_row_atRef (enc := enc) (C := Tryd.checked) false (laidWorld os) #[.string ByteArray.empty, .string ByteArray.empty, .string ByteArray.empty, .string ByteArray.empty] (World.laidAll_os _ _ _) (by kernel_rfl) (by kernel_rfl) (by kernel_rfl)
      (OpenSpec.preRow_of_cond 8 (reads os enc) (by kernel_rfl) (fun k hk => by cases hk) (by kernel_rfl) (laid_met os))) ?_
  intro W base args ds gs before hval0 hW hcnd hk0 hsz0 hL hSh hho
  have hsz : (DataW.weightsEach Tryd.prog (Tryd.f7.params.toList ++ Rows.fnDebianJoinedSpec.plain.varTypes Tryd.prog) (ds ++ gs)).all (· ≤ reachBytes) = true := hsz0
  have hval : ∀ (j : Nat) t v, Tryd.f7.params[j]? = some t → args[j]? = some v → Value.okWide Tryd.prog W .any base t v := hval0
  have hW' := hW
  obtain ⟨p, q, hA0, hV, rfl, hfz, hnd⟩ := hW
  have hA : DataW.TrodAll enc Tryd.prog W 0 (fun _ => true) true Tryd.f7.params.toList args.toList ds p := hA0
  rw [Tryd.params7] at hA hval hsz
  obtain ⟨v0, vs0, d0, ds0, p0, q0, hargs, rfl, rfl, h0, r0⟩ := trodAll_cons hA
  obtain ⟨v1, vs1, d1, ds1, p1, q1, rfl, rfl, rfl, h1, r1⟩ := trodAll_cons r0
  obtain ⟨v2, vs2, d2, ds2, p2, q2, rfl, rfl, rfl, h2, r2⟩ := trodAll_cons r1
  obtain ⟨v3, vs3, d3, ds3, p3, q3, rfl, rfl, rfl, h3, r3⟩ := trodAll_cons r2
  obtain ⟨rfl, rfl, rfl⟩ := trodAll_nil r3
  obtain rfl : args = #[v0, v1, v2, v3] := by cases args; simp_all
  obtain ⟨rfl, rfl⟩ := trodVars_none hV
  obtain ⟨a0, rfl, rfl, rfl, y0⟩ := open_string Tryd.underlying9 (hval 0 9 v0 rfl rfl) h0
  have w0 : a0.size ≤ 140737488351232 := by
    have z := sized_string hsz (j := 0) (t := 9) rfl rfl
    rw [Array.length_toList] at z
    exact z
  obtain ⟨a1, rfl, rfl, rfl, y1⟩ := open_string Tryd.underlying9 (hval 1 9 v1 rfl rfl) h1
  have w1 : a1.size ≤ 140737488351232 := by
    have z := sized_string hsz (j := 1) (t := 9) rfl rfl
    rw [Array.length_toList] at z
    exact z
  obtain ⟨a2, rfl, rfl, rfl, y2⟩ := open_string Tryd.underlying9 (hval 2 9 v2 rfl rfl) h2
  have w2 : a2.size ≤ 140737488351232 := by
    have z := sized_string hsz (j := 2) (t := 9) rfl rfl
    rw [Array.length_toList] at z
    exact z
  obtain ⟨a3, rfl, rfl, rfl, y3⟩ := open_string Tryd.underlying9 (hval 3 9 v3 rfl rfl) h3
  have w3 : a3.size ≤ 140737488351232 := by
    have z := sized_string hsz (j := 3) (t := 9) rfl rfl
    rw [Array.length_toList] at z
    exact z
  clear hA0 hval0 hsz0 hsz
  refine (laws_FnDebianJoined.walk Pure.FnDebianJoined a0 a1 a2 a3 W w0 w1 w2 w3  (Gw.gw_of (l := Rows.fnDebianJoinedRow.laid) hL (List.Mem.tail _ (List.Mem.head _)) (List.Mem.tail _ (List.Mem.tail _ (List.Mem.tail _ (List.Mem.tail _ (List.Mem.head _))))) (List.Mem.tail _ (List.Mem.tail _ (List.Mem.tail _ (List.Mem.tail _ (List.Mem.tail _ (List.Mem.tail _ (List.Mem.head _))))))) (List.Mem.tail _ (List.Mem.tail _ (List.Mem.tail _ (List.Mem.head _)))))).mono fun e W' ⟨he, bel⟩ => ?_
  subst he
  exact ⟨_, rfl, _, _, _, [], _, [], hW', trodAll_mk1 (shut_bool Tryd.underlying4 _), (trodAll_cons_mk (shut_string Tryd.underlying9 y0) (trodAll_cons_mk (shut_string Tryd.underlying9 y1) (trodAll_cons_mk (shut_string Tryd.underlying9 y2) (trodAll_cons_mk (shut_string Tryd.underlying9 y3) trodAll_mk0)))), rfl, bel.frame _, fun h => by cases h⟩
theorem said : Rows.FnDebianJoinedSaid :=
  OpenClaim.holds_of_cond 7 Tryd.f7 rfl rfl rfl rfl rfl rfl rfl ⟨rfl, rfl, rfl, rfl, rfl⟩ rfl rfl rfl rfl rfl (by kernel_rfl) Tryd.func7 (by kernel_rfl)
    (of_decide_eq_true (by kernel_rfl)) (by unfold Func.isWrapper; first | (rw [if_pos (by decide +kernel)]; kernel_rfl) | (rw [if_neg (by decide +kernel)]; exact ⟨rfl, rfl⟩))
    (fun os started H enc _ F => by rw [OpenClaim.pre_eq_preRow]; exact lifted os started H enc F)
theorem plain (f : FuncId) (fn : Func) (hf : Tryd.pinned.checked.prog.funcNamed "pub-seniority/laws.FnDebianJoined" = some f) (hfn : Tryd.pinned.checked.prog.funcs[f]? = some fn) :
    true = Tryd.pinned.checked.prog.looks [] ∧ ∀ (j : Nat) t, fn.params[j]? = some t → Tryd.pinned.checked.prog.wantsStandIn t = false := by
  obtain rfl : f = 7 := Option.some.inj ((show Tryd.prog.funcNamed "pub-seniority/laws.FnDebianJoined" = some 7 by kernel_rfl).symm.trans hf) |>.symm
  obtain rfl : fn = Tryd.f7 := (Option.some.inj (Tryd.func7.symm.trans hfn)).symm
  refine ⟨by kernel_rfl, fun j t ht => ?_⟩
  rw [Tryd.params7] at ht
  have h2 : ([9, 9, 9, 9] : List TypeId).all (fun t => !Tryd.prog.wantsStandIn t) = true := by kernel_rfl
  have h3 := List.all_eq_true.1 h2 t (by have := Array.mem_of_getElem? ht; simpa using this)
  exact (show Tryd.prog.wantsStandIn t = false from by simpa using h3)
theorem proved : Rows.FnDebianJoinedCardSaid :=
  Claim7.holds_tied_plain_at .later [] _ _ _ _ said (fun _ h => by cases h) (by kernel_rfl) (fun _ h => by cases h) fnDebianJoined_row_tie rfl ⟨rfl, rfl⟩ (by kernel_rfl) rfl plain (by kernel_rfl)
#print axioms proved
end Go.Proofs.YtkcciinapkeaiaaDoor.fnDebianJoined
namespace Go.Proofs.YtkcciinapkeaiaaDoor
/-- The card, under a short name, for the claim. -/
theorem fnDebianJoined_holds : Rows.FnDebianJoinedCardSaid := fnDebianJoined.proved
end Go.Proofs.YtkcciinapkeaiaaDoor
