/- FnMaven: how two Maven versions compare, given by their tokens. No condition beyond the row's own. -/
import Derived.Test.YtondnpfncgcdkaaDoorZ1
import Derived.Test.YtondnpfncgcdkaaDoorBy
import Derived.Test.YtondnpfncgcdkaaDoorZ2
import Derived.Lib.Bytealg
import Derived.Test.YtondnpfncgcdkaaDoorEv
import Derived.Test.YtondnpfncgcdkaaDoorZ3
import Derived.Test.YtondnpfncgcdkaaDoorZ7
import Derived.Test.YtondnpfncgcdkaaDoorBv
import Derived.Test.YtondnpfncgcdkaaDoorZ8
import Derived.Test.YtondnpfncgcdkaaDoorZ9
import Derived.Test.YtondnpfncgcdkaaDoorZ10
import Derived.Test.YtondnpfncgcdkaaDoorZ11
import Derived.Test.YtondnpfncgcdkaaDoorRows
import Derived.Test.YtondnpfncgcdkaaDoorOp
import Derived.Test.YtondnpfncgcdkaaDoorCards
import Derived.Test.YtondnpfncgcdkaaDoorTie
import Derived.Test.YtondnpfncgcdkaaDoorGn
import Derived.Deep.DeepHandedRow
import Derived.Deep.DeepWitnessRowRef
import Derived.Lay
import Derived.WalkKit
import Derived.ProofKit
import Derived.OpenShut
import Derived.ShutString
import Derived.ChangeOld
import Derived.Below
import Derived.SizedLaws
namespace Go.Proofs.YtondnpfncgcdkaaDoor.Com
open Go.RowKit Go.Proofs.YtondnpfncgcdkaaDoor.Z Go.Proofs.YtondnpfncgcdkaaDoor.Evs Go.Proofs.YtondnpfncgcdkaaDoor.By Go.Proofs.YtondnpfncgcdkaaDoorW.PrintWords Go.Proofs.YtondnpfncgcdkaaDoorW.PrintLast
set_option linter.unusedVariables false
set_option linter.unusedSimpArgs false

theorem isDigit_f (c : UInt8) : spec_isDigit.f (c.toNat : Int) = some (dg c) := by
 unfold spec_isDigit.f dg
 by_cases h : (c.toNat : Int) ≥ 48
 ·rw [if_pos h]
  congr 1
  rw [Bool.eq_iff_iff, decide_eq_true_eq, decide_eq_true_eq]
  omega
 ·rw [if_neg h]
  congr 1
  symm
  rw [decide_eq_false_iff_not]
  omega
/-- Digits alone, one at least. -/
def allD (l : List UInt8) : Bool := l.all dg && decide (0 < l.length)
theorem digits_l (l : List UInt8) (hl : l.length ≤ 140737488351232) (d : Nat) : ∀ i : Nat, i + d = l.length → Ev (fun k => spec_allDigits.l0 k (ofL l) (i : Int)) ((l.drop i).all dg && decide (0 < l.length)) := by
 have hs := ofL_size l
 induction d with
 | zero =>
  intro i h
  refine Ev.step (fun _ => by rw [spec_allDigits.l0]) (ev_neg (by omega) (ev_now ?_))
  rw [List.drop_of_length_le (by omega), hs]
  simp
 | succ d ih =>
  intro i h
  have hc := bt_ofL l i (by omega)
  refine Ev.step (fun _ => by rw [spec_allDigits.l0, hc, isDigit_f, Option.bind_some, wrap_nat (by omega)]) (ev_pos (by omega) (ev_pos (by omega) ?_))
  rw [List.drop_eq_getElem_cons (by omega), List.all_cons]
  cases e : dg (l[i]'(by omega)) with
  | true => exact ev_t (by simpa using ih (i + 1) (by omega))
  | false => exact ev_f (ev_now (by simp))
theorem digits_ev (l : List UInt8) (hl : l.length ≤ 140737488351232) : Ev (fun k => spec_allDigits.f k (ofL l)) (allD l) := digits_l l hl l.length 0 (by omega)
end Go.Proofs.YtondnpfncgcdkaaDoor.Com

namespace Go.Proofs.YtondnpfncgcdkaaDoor.Com
open Go Go.RowKit Go.Proofs.YtondnpfncgcdkaaDoor.Z Go.Proofs.YtondnpfncgcdkaaDoor.Evs Go.Proofs.YtondnpfncgcdkaaDoor.By Go.Proofs.YtondnpfncgcdkaaDoorW.PrintWords Go.Proofs.YtondnpfncgcdkaaDoorW.PrintLast
set_option linter.unusedVariables false
set_option linter.unusedSimpArgs false

def cmpI (a b : Int) : Int := if a < b then -1 else if b < a then 1 else 0
theorem orderI_f (a b : Int) : spec_orderInts.f a b = some (cmpI a b) := by
 unfold spec_orderInts.f cmpI
 split
 ·rfl
 ·split
  ·rfl
  ·rfl
theorem bless : ∀ a b : List UInt8, Op.bytesLess a b = decide (Lib.compareBytes a b = -1)
 | [], [] => rfl
 | [], _ :: _ => rfl
 | _ :: _, [] => rfl
 | x :: a, y :: b => by
  rw [Op.bytesLess, Lib.compareBytes, bless a b]
  by_cases h : x < y
  ·rw [if_pos h]
   simp [h]
  ·rw [if_neg h]
   by_cases h2 : y < x
   ·rw [if_pos h2]
    have : ¬ x = y := fun e => by subst e; exact h h2
    simp [h, this]
   ·rw [if_neg h2]
    have : x = y := UInt8.toNat_inj.1 (by have h : ¬ x.toNat < y.toNat := h; have h2 : ¬ y.toNat < x.toNat := h2; omega)
    subst this
    simp [h]
theorem cmpB_range : ∀ a b : List UInt8, Lib.compareBytes a b = -1 ∨ Lib.compareBytes a b = 0 ∨ Lib.compareBytes a b = 1
 | [], [] => .inr (.inl rfl)
 | [], _ :: _ => .inl rfl
 | _ :: _, [] => .inr (.inr rfl)
 | x :: a, y :: b => by
  rw [Lib.compareBytes]
  split
  ·exact .inl rfl
  ·split
   ·exact .inr (.inr rfl)
   ·exact cmpB_range a b
theorem cmpB_anti : ∀ a b : List UInt8, Lib.compareBytes b a = -Lib.compareBytes a b
 | [], [] => rfl
 | [], _ :: _ => rfl
 | _ :: _, [] => rfl
 | x :: a, y :: b => by
  rw [Lib.compareBytes, Lib.compareBytes, cmpB_anti a b]
  by_cases h : x < y
  ·have h2 : ¬ y < x := fun h2 => by have h : x.toNat < y.toNat := h; have h2 : y.toNat < x.toNat := h2; omega
   rw [if_pos h, if_neg h2, if_pos h]; rfl
  ·by_cases h2 : y < x
   ·rw [if_pos h2, if_neg h, if_pos h2]
   ·rw [if_neg h2, if_neg h, if_neg h, if_neg h2]
theorem order_f (a b : List UInt8) : spec_order.f (ofL a) (ofL b) = some (Lib.compareBytes a b) := by
 unfold spec_order.f
 rw [toList_ofL, toList_ofL, bless, bless, cmpB_anti a b]
 rcases cmpB_range a b with h | h | h <;> rw [h] <;> rfl
/-- Digits without the zeros ahead. -/
def stripZ (l : List UInt8) : List UInt8 := l.dropWhile (· == 48)
def cmpD (a b : List UInt8) : Int := if (stripZ a).length = (stripZ b).length then Lib.compareBytes (stripZ a) (stripZ b) else cmpI ((stripZ a).length : Int) ((stripZ b).length : Int)
theorem strip_not (c : UInt8) (l : List UInt8) (e : ¬ c = 48) : stripZ (c :: l) = c :: l := by
 rw [stripZ, List.dropWhile_cons, if_neg (by simpa using e)]
theorem ext1 (c : UInt8) (r : List UInt8) : (ofL (c :: r)).extract 1 (ofL (c :: r)).size = ofL r := by
 rw [ofL_size, ofL_extract, List.take_length]
 rfl
theorem onum3 (a b : List UInt8) : Ev (fun k => spec_orderNumbers.j3 k (ofL a) (ofL b)) (if a.length = b.length then Lib.compareBytes a b else cmpI (a.length : Int) (b.length : Int)) := by
 refine Ev.step (fun _ => by rw [spec_orderNumbers.j3, ofL_size, ofL_size, order_f, orderI_f]) ?_
 by_cases h : a.length = b.length
 ·rw [if_pos h]
  exact ev_pos (by omega) (ev_now rfl)
 ·rw [if_neg h]
  exact ev_neg (by omega) (ev_now rfl)
theorem onum1 (a : List UInt8) : ∀ (b : List UInt8), b.length ≤ 140737488351232 → Ev (fun k => spec_orderNumbers.l1 k (ofL a) (ofL b)) (if a.length = (stripZ b).length then Lib.compareBytes a (stripZ b) else cmpI (a.length : Int) ((stripZ b).length : Int))
 | [], _ => Ev.step (fun _ => by rw [spec_orderNumbers.l1]) (ev_neg (by rw [ofL_size]; simp) (onum3 a []))
 | c :: b, h => by
  have hb : bt (ofL (c :: b)) 0 = (c.toNat : Int) := bt_ofL (c :: b) 0 (by simp)
  have hs := ofL_size (c :: b)
  have hl : (c :: b).length = b.length + 1 := rfl
  refine Ev.step (fun _ => by rw [spec_orderNumbers.l1, hb, ext1]) (ev_pos (by omega) (ev_pos (by omega) ?_))
  by_cases e : c = 48
  ·subst e
   refine ev_pos rfl (ev_pos (by omega) ?_)
   have := onum1 a b (by omega)
   rw [show stripZ (48 :: b) = stripZ b from rfl]
   exact this
  ·refine ev_neg (fun h => e (UInt8.toNat_inj.1 (by have : (48 : UInt8).toNat = 48 := rfl; omega))) ?_
   rw [strip_not c b e]
   exact onum3 a (c :: b)
theorem onum0 (b : List UInt8) (hb0 : b.length ≤ 140737488351232) : ∀ (a : List UInt8), a.length ≤ 140737488351232 → Ev (fun k => spec_orderNumbers.l0 k (ofL a) (ofL b)) (cmpD a b)
 | [], _ => Ev.step (fun _ => by rw [spec_orderNumbers.l0]) (ev_neg (by rw [ofL_size]; simp) (Ev.step (fun _ => by rw [spec_orderNumbers.j1]) (onum1 [] b hb0)))
 | c :: a, h => by
  have hb : bt (ofL (c :: a)) 0 = (c.toNat : Int) := bt_ofL (c :: a) 0 (by simp)
  have hs := ofL_size (c :: a)
  have hl : (c :: a).length = a.length + 1 := rfl
  refine Ev.step (fun _ => by rw [spec_orderNumbers.l0, hb, ext1]) (ev_pos (by omega) (ev_pos (by omega) ?_))
  by_cases e : c = 48
  ·subst e
   refine ev_pos rfl (ev_pos (by omega) ?_)
   have := onum0 b hb0 a (by omega)
   rw [cmpD, show stripZ (48 :: a) = stripZ a from rfl]
   exact this
  ·refine ev_neg (fun h => e (UInt8.toNat_inj.1 (by have : (48 : UInt8).toNat = 48 := rfl; omega))) ?_
   rw [cmpD, strip_not c a e]
   exact Ev.step (fun _ => by rw [spec_orderNumbers.j1]) (onum1 (c :: a) b hb0)
theorem orderNumbers_ev (a b : List UInt8) (ha : a.length ≤ 140737488351232) (hb : b.length ≤ 140737488351232) : Ev (fun k => spec_orderNumbers.f k (ofL a) (ofL b)) (cmpD a b) := onum0 b hb a ha
end Go.Proofs.YtondnpfncgcdkaaDoor.Com

namespace Go.Proofs.YtondnpfncgcdkaaDoor.Com
open Go.RowKit Go.Proofs.YtondnpfncgcdkaaDoor.Z Go.Proofs.YtondnpfncgcdkaaDoor.Evs Go.Proofs.YtondnpfncgcdkaaDoorW.PrintWords Go.Proofs.YtondnpfncgcdkaaDoorW.PrintLast
set_option linter.unusedVariables false
set_option linter.unusedSimpArgs false

/-- Ascii: an answer; where it is true every byte is below 128. -/
theorem ascii_l (s : ByteArray) (hs : s.size ≤ 140737488351232) (d : Nat) : ∀ i : Nat, i + d = s.size → ∃ r, Ev (fun k => spec_Ascii.l0 k s (i : Int)) r ∧ (r = true → ∀ j : Nat, i ≤ j → (h : j < s.size) → (s[j]'h).toNat < 128) := by
 induction d with
 | zero => intro i h; exact ⟨true, Ev.step (fun _ => by rw [spec_Ascii.l0]) (ev_neg (by omega) (Ev.now _)), fun _ j h1 h2 => by omega⟩
 | succ d ih =>
  intro i h
  obtain ⟨r, hr, hq⟩ := ih (i + 1) (by omega)
  have hb := bt_nat s i (by omega)
  by_cases c : bt s (i : Int) > 127
  ·exact ⟨false, Ev.step (fun _ => by rw [spec_Ascii.l0]) (ev_pos (by omega) (ev_pos (by omega) (ev_pos c (Ev.now _)))), fun h => by cases h⟩
  ·refine ⟨r, Ev.step (fun _ => by rw [spec_Ascii.l0, wrap_nat (by omega)]) (ev_pos (by omega) (ev_pos (by omega) (ev_neg c hr))), fun h j h1 h2 => ?_⟩
   by_cases e : j = i
   ·subst e; omega
   ·exact hq h j (by omega) h2
theorem ascii_ev (s : ByteArray) (hs : s.size ≤ 140737488351232) : ∃ r, Ev (fun k => spec_Ascii.f k s) r ∧ (r = true → ∀ j : Nat, (h : j < s.size) → (s[j]'h).toNat < 128) := by
 obtain ⟨r, hr, hq⟩ := ascii_l s hs s.size 0 (by omega)
 exact ⟨r, hr, fun h j hj => hq h j (by omega) hj⟩
end Go.Proofs.YtondnpfncgcdkaaDoor.Com

namespace Go.Proofs.YtondnpfncgcdkaaDoor.Cm
open Go Go.RowKit Go.Proofs.YtondnpfncgcdkaaDoor.Z Go.Proofs.YtondnpfncgcdkaaDoor.Gw Go.Proofs.YtondnpfncgcdkaaDoor.Evs Go.Proofs.YtondnpfncgcdkaaDoor.By Go.Proofs.YtondnpfncgcdkaaDoor.Ss Go.Proofs.YtondnpfncgcdkaaDoor.Com Go.Proofs.YtondnpfncgcdkaaDoorW.PrintWords Go.Proofs.YtondnpfncgcdkaaDoorW.PrintLast
set_option linter.unusedVariables false
set_option linter.unusedSimpArgs false
/-- A value that something is said of: digits, or nothing, or a small letter first. -/
def low1 (c : UInt8) : Prop := 97 ≤ c.toNat ∧ c.toNat ≤ 122
def TV (l : List UInt8) : Prop := allD l = true ∨ l = [] ∨ ∃ c r, l = c :: r ∧ low1 c
theorem allD_cons {c : UInt8} {r : List UInt8} (h : allD (c :: r) = true) : dg c = true := by
 unfold allD at h
 rw [Bool.and_eq_true] at h
 exact List.all_eq_true.1 h.1 c (by simp)
theorem sg_of {l : List UInt8} (h : TV l) : sgN (ofL l) = 0 ∧ sgB (ofL l) = false := by
 cases l with
 | nil =>
  unfold sgN sgB
  rw [dif_neg (by decide), dif_neg (by decide)]
  exact ⟨rfl, rfl⟩
 | cons c r =>
  have h0 : 0 < (ofL (c :: r)).size := by rw [ofL_size]; simp
  have hg : (ofL (c :: r))[0]'h0 = c := rfl
  have hc : ¬ c = 45 ∧ ¬ c = 43 := by
   rcases h with h | h | ⟨d, s, e, hd⟩
   ·have hd := allD_cons h
    exact ⟨fun e => by subst e; revert hd; decide, fun e => by subst e; revert hd; decide⟩
   ·cases h
   ·cases e
    unfold low1 at hd
    exact ⟨fun e => by subst e; revert hd; decide, fun e => by subst e; revert hd; decide⟩
  unfold sgN sgB
  rw [dif_pos h0, dif_pos h0, hg, if_neg (by simp [hc.1, hc.2])]
  exact ⟨rfl, beq_eq_false_iff_ne.2 hc.1⟩
theorem cvtK {l : List UInt8} (h : TV l) : cvt (ofL l) = if allD l = true then some (Bv.decV l) else none := by
 obtain ⟨h1, h2⟩ := sg_of h
 unfold cvt
 rw [h1, h2, bl_ofL, List.drop_zero]
 unfold allD
 by_cases hd : l = []
 ·subst hd
  rfl
 ·by_cases ha : l.all dg = true
  ·rw [if_pos ⟨hd, ha⟩, ha, decide_eq_true (List.length_pos_iff.2 hd)]
   rfl
  ·rw [if_neg (fun hh => ha hh.2), if_neg (fun hh => ha (Bool.and_eq_true _ _ ▸ hh).1)]
/-! words -/
theorem kw_l (s : ByteArray) (d : Nat) : ∀ i : Nat, i + d = 7 → Ev (fun k => spec_Keyword.l0 k s kws (i : Int)) (kwFrom s (kws.drop i) i) := by
 have hl : (kws.length : Int) = 7 := rfl
 induction d with
 | zero =>
  intro i h
  obtain rfl : i = 7 := by omega
  have he : kwFrom s (kws.drop 7) 7 = 7 := rfl
  rw [he]
  exact Ev.step (fun _ => by rw [spec_Keyword.l0, hl]) (ev_neg (by omega) (Ev.now _))
 | succ d ih =>
  intro i h
  rw [kw_drop s i (by omega)]
  have hr : rdOf ByteArray.empty kws (i : Int) = kwAt i := by rw [rdOf_nat]; rfl
  by_cases c : (kwAt i).toList = s.toList
  ·rw [if_pos (by simpa using c)]
   exact Ev.step (fun _ => by rw [spec_Keyword.l0, hl, hr]) (ev_pos (by omega) (ev_pos (by omega) (ev_pos c (Ev.now _))))
  ·rw [if_neg (by simpa using c)]
   exact Ev.step (fun _ => by rw [spec_Keyword.l0, hl, hr, wrap_nat (by omega)]) (ev_pos (by omega) (ev_pos (by omega) (ev_neg c (ih (i + 1) (by omega)))))
theorem kw_ev (s : ByteArray) : Ev (fun k => spec_Keyword.f k s) (kwI s) := kw_l s 7 0 (by omega)
theorem kw_range (s : ByteArray) : ∀ (l : List ByteArray) (i : Nat), (i : Int) ≤ kwFrom s l i ∧ kwFrom s l i ≤ (i : Int) + l.length
 | [], i => by unfold kwFrom; simp
 | x :: l, i => by
  have h := kw_range s l (i + 1)
  unfold kwFrom
  rw [List.length_cons]
  split <;> omega
theorem kw_at (s : ByteArray) : ∀ (l : List ByteArray) (i n : Nat), kwFrom s l i = ((i + n : Nat) : Int) → n < l.length → (l.getD n ByteArray.empty).toList = s.toList
 | [], i, n, _, hn => by simp at hn
 | x :: l, i, n, h, hn => by
  unfold kwFrom at h
  by_cases e : (x.toList == s.toList) = true
  ·rw [if_pos e] at h
   obtain rfl : n = 0 := by omega
   simpa using e
  ·rw [if_neg e] at h
   have hr := kw_range s l (i + 1)
   cases n with
   | zero => omega
   | succ n =>
    have := kw_at s l (i + 1) n (by rw [h]; omega) (by simpa using hn)
    simpa using this
theorem kwI_range (s : ByteArray) : 0 ≤ kwI s ∧ kwI s ≤ 7 := by
 have h := kw_range s kws 0
 have hl : (kws.length : Int) = 7 := rfl
 unfold kwI
 omega
theorem kwI_same {s t : ByteArray} (h : kwI s = kwI t) (h7 : ¬ kwI s = 7) : s.toList = t.toList := by
 obtain ⟨h1, h2⟩ := kwI_range s
 obtain ⟨n, hn⟩ := Int.eq_ofNat_of_zero_le h1
 have a := kw_at s kws 0 n (by rw [Nat.zero_add]; exact hn) (by show n < 7; omega)
 have b := kw_at t kws 0 n (by rw [Nat.zero_add]; exact h.symm.trans hn) (by show n < 7; omega)
 rw [← a, ← b]
theorem kw_zero : kwI (ofL [48]) = 7 := by decide +kernel
theorem kw_nil : kwI (ofL []) = 5 := by decide +kernel
theorem kw_sp : kwI (⟨#[115, 112]⟩ : ByteArray) = 6 := by decide +kernel
/-! two tokens -/
def toT (p v : ByteArray) : Int × Bool := if p.toList = [45] then (if allD (bl v) = true then 2 else 1, true) else if p.toList = [46] then (if allD (bl v) = true then 3 else 0, true) else (0, false)
def qC (v u : ByteArray) : Int := if kwI v = kwI u then Lib.compareBytes (bl v) (bl u) else cmpI (kwI v) (kwI u)
def mo (p v : ByteArray) (n : Bool) (q u : ByteArray) (m : Bool) : Int × Bool :=
 if p.toList = q.toList then
  (if allD (bl v) = true then (if allD (bl u) = true then cmpD (bl v) (bl u) else if n = true ∧ kwI u > 6 then -1 else 1)
   else if allD (bl u) = true then (if m = true ∧ kwI v > 6 then 1 else -1) else qC v u, true)
 else (cmpI (toT p v).1 (toT q u).1, (toT p v).2 && (toT q u).2)
theorem dig_ev2 (v : ByteArray) (hv : v.size ≤ 2147483647) : Ev (fun k => spec_allDigits.f k v) (allD (bl v)) := by
 have := digits_ev (bl v) (by rw [bl_length]; omega)
 rwa [ofL_bl] at this
theorem dig_ev (v : ByteArray) (hv : v.size ≤ 1000000) : Ev (fun k => spec_allDigits.f k v) (allD (bl v)) := dig_ev2 v (by omega)
theorem ord2 (p v : ByteArray) (n b : Bool) : Ev (fun k => spec_TokenOrder.j2 k b p v n) (if b = true then (2, true) else if p.toList = [45] then (1, true) else (0, false)) := by
 refine Ev.step (fun _ => by rw [spec_TokenOrder.j2]) ?_
 cases b with
 | true => exact ev_t (ev_now rfl)
 | false =>
  refine ev_f ?_
  rw [if_neg Bool.false_ne_true]
  by_cases e : p.toList = [45]
  ·exact ev_pos e (ev_now (if_pos e).symm)
  ·exact ev_neg e (ev_now (if_neg e).symm)
theorem ord1 (p v : ByteArray) (n x b : Bool) : Ev (fun k => spec_TokenOrder.j1 k x b p v n) (if b = true then (0, true) else if p.toList = [45] then (if x = true then 2 else 1, true) else (0, false)) := by
 refine Ev.step (fun _ => by rw [spec_TokenOrder.j1]) ?_
 cases b with
 | true => exact ev_t (ev_now rfl)
 | false =>
  refine ev_f ?_
  rw [if_neg Bool.false_ne_true]
  by_cases e : p.toList = [45]
  ·refine ev_pos e (ev_eq (ord2 p v n x) ?_)
   rw [if_pos e, if_pos e]
   cases x <;> rfl
  ·refine ev_neg e (ev_eq (ord2 p v n false) ?_)
   rw [if_neg e, if_neg e]
   rfl
theorem ord0 (p v : ByteArray) (n x b : Bool) : Ev (fun k => spec_TokenOrder.j0 k x b p v n) (if b = true then (3, true) else if p.toList = [46] then (if x = false then (0, true) else if p.toList = [45] then (2, true) else (0, false)) else if p.toList = [45] then (if x = true then 2 else 1, true) else (0, false)) := by
 refine Ev.step (fun _ => by rw [spec_TokenOrder.j0]) ?_
 cases b with
 | true => exact ev_t (ev_now rfl)
 | false =>
  refine ev_f ?_
  rw [if_neg Bool.false_ne_true]
  by_cases e : p.toList = [46]
  ·refine ev_pos e (ev_eq (ord1 p v n x (!x)) ?_)
   rw [if_pos e]
   cases x <;> rfl
  ·refine ev_neg e (ev_eq (ord1 p v n x false) ?_)
   rw [if_neg e]
   rfl
theorem order_ev (p v : ByteArray) (n : Bool) (hv : v.size ≤ 1000000) : Ev (fun k => spec_TokenOrder.f k p v n) (toT p v) := by
 have hd := dig_ev v hv
 unfold spec_TokenOrder.f
 refine Ev.bind hd ?_
 unfold toT
 by_cases e1 : p.toList = [46]
 ·have n46 : ¬ p.toList = [45] := fun h => by rw [e1] at h; revert h; decide
  refine ev_pos e1 (ev_eq (ord0 p v n _ _) ?_)
  rw [if_pos e1, if_neg n46, if_neg n46, if_pos e1]
  cases allD (bl v) <;> rfl
 ·refine ev_neg e1 (ev_eq (ord0 p v n _ _) ?_)
  rw [if_neg Bool.false_ne_true, if_neg e1, if_neg e1]
theorem qual_ev (v u : ByteArray) : Ev (fun k => spec_mavenQualifiers.f k v u) (qC v u) := by
 have ho : spec_order.f v u = some (Lib.compareBytes (bl v) (bl u)) := order_f (bl v) (bl u)
 unfold spec_mavenQualifiers.f qC
 refine Ev.bind (kw_ev v) (Ev.bind (kw_ev u) ?_)
 by_cases e : kwI v = kwI u
 ·rw [ho]
  exact ev_pos e (ev_now (if_pos e).symm)
 ·rw [orderI_f]
  exact ev_neg e (ev_now (if_neg e).symm)
theorem one_ev (p v : ByteArray) (n : Bool) (q u : ByteArray) (m : Bool) (hv : v.size ≤ 1000000) (hu : u.size ≤ 1000000) : Ev (fun k => spec_mavenOne.f k p v n q u m) (mo p v n q u m) := by
 have hd := dig_ev v hv
 have hd2 := dig_ev u hu
 have ho : Ev (fun k => spec_orderNumbers.f k v u) (cmpD (bl v) (bl u)) := by
  have := orderNumbers_ev (bl v) (bl u) (by rw [bl_length]; omega) (by rw [bl_length]; omega)
  rwa [ofL_bl, ofL_bl] at this
 have hs : Ev (fun k => spec_Keyword.f k (⟨#[115, 112]⟩ : ByteArray)) 6 := ev_eq (kw_ev _) kw_sp
 unfold spec_mavenOne.f mo
 refine Ev.bind hd (Ev.bind hd2 ?_)
 by_cases e : p.toList = q.toList
 ·rw [if_pos e]
  refine ev_pos e ?_
  cases hx : allD (bl v) with
  | true =>
   cases hy : allD (bl u) with
   | true =>
    rw [if_pos rfl, if_pos rfl]
    exact ev_t (Ev.step (fun _ => by rw [spec_mavenOne.j0]) (ev_t (Ev.bind ho (ev_now rfl))))
   | false =>
    rw [if_pos rfl, if_neg (by decide)]
    refine ev_t (Ev.step (fun _ => by rw [spec_mavenOne.j0]) (ev_f (ev_t (Ev.step (fun _ => by rw [spec_mavenOne.j1]) (ev_f (ev_t ?_))))))
    have rest : Ev (fun k => spec_mavenOne.j2 k true false false p v n q u m) (1, true) := by
     refine Ev.step (fun _ => by rw [spec_mavenOne.j2]) (ev_f (ev_f ?_))
     exact Ev.step (fun _ => by rw [spec_mavenOne.j3]) (ev_f (ev_t (ev_now rfl)))
    cases n with
    | false =>
     rw [if_neg (fun h => by cases h.1)]
     exact ev_f rest
    | true =>
     refine ev_t (Ev.bind (kw_ev u) (Ev.bind hs ?_))
     by_cases hk : kwI u > 6
     ·rw [if_pos ⟨rfl, hk⟩, decide_eq_true hk]
      exact Ev.step (fun _ => by rw [spec_mavenOne.j2]) (ev_t (ev_now rfl))
     ·rw [if_neg (fun h => hk h.2), decide_eq_false hk]
      exact rest
  | false =>
   rw [if_neg (by decide)]
   cases hy : allD (bl u) with
   | true =>
    rw [if_pos rfl]
    refine ev_f (Ev.step (fun _ => by rw [spec_mavenOne.j0]) ?_)
    refine ev_f (ev_f ?_)
    show Ev (fun k => spec_mavenOne.j1 k false true false p v n q u m) _
    refine Ev.step (fun _ => by rw [spec_mavenOne.j1]) ?_
    refine ev_f (ev_f ?_)
    refine Ev.step (fun _ => by rw [spec_mavenOne.j2]) ?_
    refine ev_f (ev_t ?_)
    have rest : Ev (fun k => spec_mavenOne.j3 k false false) (-1, true) := Ev.step (fun _ => by rw [spec_mavenOne.j3]) (ev_f (ev_f (ev_now rfl)))
    cases m with
    | false =>
     rw [if_neg (fun h => by cases h.1)]
     exact ev_f rest
    | true =>
     refine ev_t (Ev.bind (kw_ev v) (Ev.bind hs ?_))
     by_cases hk : kwI v > 6
     ·rw [if_pos ⟨rfl, hk⟩, decide_eq_true hk]
      exact Ev.step (fun _ => by rw [spec_mavenOne.j3]) (ev_t (ev_now rfl))
     ·rw [if_neg (fun h => hk h.2), decide_eq_false hk]
      exact rest
   | false =>
    rw [if_neg (by decide)]
    refine ev_f (Ev.step (fun _ => by rw [spec_mavenOne.j0]) ?_)
    refine ev_f (ev_f ?_)
    show Ev (fun k => spec_mavenOne.j1 k false false true p v n q u m) _
    refine Ev.step (fun _ => by rw [spec_mavenOne.j1]) ?_
    exact ev_t (Ev.bind (qual_ev v u) (ev_now rfl))
 ·rw [if_neg e]
  have h1 := order_ev p v n hv
  have h2 := order_ev q u m hu
  refine ev_neg e (Ev.bind h1 (Ev.bind h2 ?_))
  rw [orderI_f]
  cases hb : (toT p v).2 with
  | true => exact ev_some (ev_t (ev_now rfl))
  | false => exact ev_some (ev_f (ev_now rfl))
theorem cmpD_zero {a b : List UInt8} (ha : allD a = true) (hb : allD b = true) : cmpD a b = Bn.cmpZ (Bv.decV a) (Bv.decV b) := by
 unfold allD at ha hb
 rw [Bool.and_eq_true] at ha hb
 exact Bv.dec_cmp a b ha.1 hb.1
theorem cmpZ_rng (a b : Int) : Bn.cmpZ a b = -1 ∨ Bn.cmpZ a b = 0 ∨ Bn.cmpZ a b = 1 := by
 unfold Bn.cmpZ
 split
 ·simp
 ·split <;> simp
theorem cmpZ_neg (a b : Int) : Bn.cmpZ b a = -Bn.cmpZ a b := by
 unfold Bn.cmpZ
 rcases Int.lt_trichotomy a b with h | h | h
 ·rw [if_neg (by omega), if_pos h, if_pos h]
  rfl
 ·rw [if_neg (by omega), if_neg (by omega), if_neg (by omega), if_neg (by omega)]
  rfl
 ·rw [if_pos h, if_neg (by omega), if_pos h]
theorem cmpI_neg (a b : Int) : cmpI b a = -cmpI a b := cmpZ_neg a b
theorem cmpI_lt (a b : Int) : decide (cmpI a b < 0) = decide (a < b) := by
 unfold cmpI
 split
 ·rename_i h
  rw [decide_eq_true h]
  rfl
 ·rename_i h
  rw [decide_eq_false h]
  split <;> rfl
theorem qC_neg (v u : ByteArray) : qC u v = -qC v u := by
 unfold qC
 by_cases e : kwI v = kwI u
 ·rw [if_pos e.symm, if_pos e]
  exact cmpB_anti _ _
 ·rw [if_neg (fun h => e h.symm), if_neg e]
  exact cmpI_neg _ _
theorem mo_neg (p v : ByteArray) (n : Bool) (q u : ByteArray) (m : Bool) : (mo q u m p v n).1 = -(mo p v n q u m).1 ∧ (mo q u m p v n).2 = (mo p v n q u m).2 := by
 unfold mo
 by_cases e : p.toList = q.toList
 ·rw [if_pos e, if_pos e.symm]
  refine ⟨?_, rfl⟩
  cases hx : allD (bl v) <;> cases hy : allD (bl u)
  ·exact qC_neg v u
  ·by_cases c : m = true ∧ kwI v > 6
   ·simp [c]
   ·simp [c]
  ·by_cases c : n = true ∧ kwI u > 6
   ·simp [c]
   ·simp [c]
  ·rw [if_pos rfl, if_pos rfl, if_pos rfl, if_pos rfl, cmpD_zero hx hy, cmpD_zero hy hx]
   exact cmpZ_neg _ _
 ·rw [if_neg e, if_neg (fun h => e h.symm)]
  exact ⟨cmpI_neg _ _, Bool.and_comm _ _⟩
/-- A token's value, and what a filled one has. -/
structure TkK (v : ByteArray) (n : Bool) : Prop where
 tv : TV (bl v)
 sz : v.size ≤ 1000000
 nl : n = true → bl v = [48] ∨ bl v = []
theorem letter_gt {v : ByteArray} (h : TV (bl v)) (hd : allD (bl v) = false) (hk : kwI v = 7) : Lib.compareBytes [48] (bl v) = -1 := by
 rcases h with h | h | ⟨c, r, e, hc⟩
 ·rw [hd] at h
  cases h
 ·exfalso
  have : v = ofL [] := by rw [← ofL_bl v, h]
  rw [this, kw_nil] at hk
  cases hk
 ·rw [e, Lib.compareBytes]
  unfold low1 at hc
  have : (48 : UInt8) < c := by
   show (48 : UInt8).toNat < c.toNat
   have : (48 : UInt8).toNat = 48 := rfl
   omega
  rw [if_pos this]
theorem zero_of {v : ByteArray} {n : Bool} (h : TkK v n) (hn : n = true) (hd : allD (bl v) = true) : v = ofL [48] := by
 rcases h.nl hn with e | e
 ·rw [← ofL_bl v, e]
 ·rw [e] at hd
  cases hd
theorem bl_lt (v u : ByteArray) : Op.bytesLess v.toList u.toList = decide (Lib.compareBytes (bl v) (bl u) < 0) := by
 rw [toList_bl, toList_bl, bless]
 rcases cmpB_range (bl v) (bl u) with h | h | h <;> rw [h] <;> rfl
theorem kwL_qC {v u : ByteArray} : kwL v u = decide (qC v u < 0) := by
 have r1 := kwI_range v
 have r2 := kwI_range u
 unfold kwL qC
 by_cases e : kwI v = kwI u
 ·rw [if_pos e]
  by_cases h7 : kwI v = 7
  ·rw [if_pos ⟨h7, by omega⟩]
   exact bl_lt v u
  ·have hs := kwI_same e h7
   rw [toList_bl, toList_bl] at hs
   have h0 : Lib.compareBytes (bl u) (bl u) = 0 := by have := cmpB_anti (bl u) (bl u); omega
   rw [if_neg (fun h => h7 h.1), hs, h0, e]
   simp
 ·rw [if_neg e, if_neg (fun h => e (h.1.trans h.2.symm)), cmpI_lt]
theorem qoT_toT {p v : ByteArray} {n : Bool} (h : TkK v n) : qoT p v = if (toT p v).2 = true then some (toT p v).1 else none := by
 have hc := cvtK h.tv
 rw [ofL_bl] at hc
 unfold qoT toT
 rw [hc]
 by_cases e1 : p.toList = [45]
 ·rw [if_pos e1, if_pos e1]
  cases allD (bl v) <;> rfl
 ·rw [if_neg e1, if_neg e1]
  by_cases e2 : p.toList = [46]
  ·rw [if_pos e2, if_pos e2]
   cases allD (bl v) <;> rfl
  ·rw [if_neg e2, if_neg e2]
   rfl
theorem less_mo {p v : ByteArray} {n : Bool} {q u : ByteArray} {m : Bool} (hv : TkK v n) (hu : TkK u m) : tkLess p v n q u m = if (mo p v n q u m).2 = true then some (decide ((mo p v n q u m).1 < 0)) else none := by
 have c1 := cvtK hv.tv
 have c2 := cvtK hu.tv
 rw [ofL_bl] at c1 c2
 unfold tkLess mo
 by_cases e : p.toList = q.toList
 ·rw [if_pos e, if_pos e, if_pos rfl, c1, c2]
  cases hx : allD (bl v) <;> cases hy : allD (bl u)
  ·simp only [Bool.false_eq_true, if_false]
   rw [kwL_qC]
  ·simp only [Bool.false_eq_true, if_false, if_true]
   cases hm : m with
   | false => simp
   | true =>
    have hz := zero_of hu hm hy
    have hz7 : kwI u = 7 := by rw [hz]; exact kw_zero
    have r1 := kwI_range v
    simp only [if_true, true_and]
    by_cases h7 : kwI v = 7
    ·have hb := letter_gt hv.tv hx h7
     have hl : kwL v u = false := by
      unfold kwL
      rw [if_pos ⟨h7, hz7⟩, bl_lt, cmpB_anti, hz, bl_ofL, hb]
      rfl
     rw [hl, if_pos (by omega)]
     rfl
    ·have hl : kwL v u = true := by
      unfold kwL
      rw [if_neg (fun h => h7 h.1)]
      exact decide_eq_true (by omega)
     rw [hl, if_neg (by omega)]
     rfl
  ·simp only [Bool.false_eq_true, if_false, if_true]
   cases hn : n with
   | false => simp
   | true =>
    have hz := zero_of hv hn hx
    have hz7 : kwI v = 7 := by rw [hz]; exact kw_zero
    have r1 := kwI_range u
    simp only [if_true, true_and]
    by_cases h7 : kwI u = 7
    ·have hb := letter_gt hu.tv hy h7
     have hl : kwL v u = true := by
      unfold kwL
      rw [if_pos ⟨hz7, h7⟩, bl_lt, hz, bl_ofL, hb]
      rfl
     rw [hl, if_pos (by omega)]
     rfl
    ·have hl : kwL v u = false := by
      unfold kwL
      rw [if_neg (fun h => h7 h.2)]
      exact decide_eq_false (by omega)
     rw [hl, if_neg (by omega)]
     rfl
  ·simp only [if_true]
   rw [cmpD_zero hx hy]
   rcases cmpZ_rng (Bv.decV (bl v)) (Bv.decV (bl u)) with h | h | h <;> rw [h] <;> rfl
 ·rw [if_neg e, if_neg e]
  unfold ltQ
  rw [qoT_toT hv, qoT_toT hu]
  obtain ⟨a, b⟩ := toT p v
  obtain ⟨c, d⟩ := toT q u
  cases b with
  | false => rfl
  | true =>
   cases d with
   | false => rfl
   | true =>
    show some (decide (a < c)) = some (decide (cmpI a c < 0))
    rw [cmpI_lt]
/-- A token that something is said of. -/
theorem known2_ev (p v : ByteArray) (n : Bool) (hv : v.size ≤ 2147483647) : ∃ r, Ev (fun k => spec_TokenKnown.f k p v n) r ∧ (r = true → n = false ∧ TV (bl v) ∧ (p.toList = [] ∨ p.toList = [46] ∨ p.toList = [45]) ∧ (allD (bl v) = true → (bl v).length = 1 ∨ (bl v).head? ≠ some 48)) := by
 have hd := dig_ev2 v hv
 obtain ⟨b, hb, hq⟩ := ascii_ev v (by omega)
 have tru : Ev (fun k => spec_TokenKnown.j0 k true p v n) false := Ev.step (fun _ => by rw [spec_TokenKnown.j0]) (ev_t (ev_now rfl))
 have hz : (bl v).length = v.size := bl_length v
 have fal : ∃ r, Ev (fun k => spec_TokenKnown.j0 k false p v n) r ∧ (r = true → TV (bl v) ∧ (allD (bl v) = true → (bl v).length = 1 ∨ (bl v).head? ≠ some 48)) := by
  cases hx : allD (bl v) with
  | true =>
   rw [hx] at hd
   have hk : TV (bl v) := .inl hx
   have hp : 0 < (bl v).length := by
    unfold allD at hx
    rw [Bool.and_eq_true] at hx
    exact of_decide_eq_true hx.2
   by_cases h1 : (v.size : Int) = 1
   ·exact ⟨true, Ev.step (fun _ => by rw [spec_TokenKnown.j0]) (ev_f (Ev.bind hd (ev_t (ev_pos h1 (ev_now rfl))))), fun _ => ⟨hk, fun _ => .inl (by omega)⟩⟩
   ·have hw : Ev (fun k => spec_TokenKnown.j0 k false p v n) (bt v 0 != 48) := by
     refine Ev.step (fun _ => by rw [spec_TokenKnown.j0]) ?_
     exact ev_f (Ev.bind hd (ev_t (ev_neg h1 (ev_pos (by omega) (ev_now rfl)))))
    refine ⟨_, hw, fun hr => ⟨hk, fun _ => .inr fun e => ?_⟩⟩
    have hne : ¬ bt v 0 = 48 := by simpa using hr
    apply hne
    have h0 : bt v 0 = ((bl v)[0].toNat : Int) := by
     have := bt_ofL (bl v) 0 hp
     rw [ofL_bl] at this
     exact this
    rw [h0]
    rw [List.head?_eq_getElem?, List.getElem?_eq_getElem hp] at e
    rw [Option.some.inj e]
    rfl
  | false =>
   rw [hx] at hd
   by_cases e : v.toList = []
   ·have hk : TV (bl v) := .inr (.inl (by rw [← toList_bl]; exact e))
    refine ⟨true, Ev.step (fun _ => by rw [spec_TokenKnown.j0]) (ev_f (Ev.bind hd (ev_f ?_))), fun _ => ⟨hk, fun h => by cases h⟩⟩
    unfold spec_mavenLetters.f
    rw [if_pos e]
    exact ev_now rfl
   ·have hne : ¬ bl v = [] := fun h => e (by rw [toList_bl]; exact h)
    obtain ⟨c, r, hcr⟩ := List.exists_cons_of_ne_nil hne
    have hp : (0 : Int) < (v.size : Int) := by rw [← hz, hcr, List.length_cons]; omega
    have h0 : bt v 0 = (c.toNat : Int) := by
     have := bt_ofL (bl v) 0 (by rw [hcr]; simp)
     rw [ofL_bl] at this
     have h2 : bt v 0 = ((bl v)[0]'(by rw [hcr]; simp)).toNat := this
     rw [h2]
     simp [hcr]
    by_cases g : (c.toNat : Int) ≥ 97
    ·refine ⟨decide ((c.toNat : Int) ≤ 122), Ev.step (fun _ => by rw [spec_TokenKnown.j0]) (ev_f (Ev.bind hd (ev_f ?_))), fun hr => ⟨.inr (.inr ⟨c, r, hcr, ?_⟩), fun h => by cases h⟩⟩
     ·unfold spec_mavenLetters.f
      rw [if_neg e, if_pos hp, h0, if_pos g]
      exact ev_now rfl
     ·have := of_decide_eq_true hr
      unfold low1
      omega
    ·refine ⟨false, Ev.step (fun _ => by rw [spec_TokenKnown.j0]) (ev_f (Ev.bind hd (ev_f ?_))), fun hr => by cases hr⟩
     unfold spec_mavenLetters.f
     rw [if_neg e, if_pos hp, h0, if_neg g]
     exact ev_now rfl
 obtain ⟨r, hr, hrq⟩ := fal
 unfold spec_TokenKnown.f
 cases n with
 | true => exact ⟨false, ev_t tru, fun h => by cases h⟩
 | false =>
  have arm : ∀ (P : Prop), P → ∃ r, Ev (fun k => (spec_Ascii.f k v).bind fun t => spec_TokenKnown.j0 k (!t) p v false) r ∧ (r = true → (false = false ∧ TV (bl v) ∧ P ∧ (allD (bl v) = true → (bl v).length = 1 ∨ (bl v).head? ≠ some 48))) := by
   intro P hP
   cases b with
   | false => exact ⟨false, Ev.bind hb tru, fun h => by cases h⟩
   | true => exact ⟨r, Ev.bind hb hr, fun h => ⟨rfl, (hrq h).1, hP, (hrq h).2⟩⟩
  by_cases e0 : p.toList = []
  ·obtain ⟨r, h1, h2⟩ := arm (p.toList = [] ∨ p.toList = [46] ∨ p.toList = [45]) (.inl e0)
   exact ⟨r, ev_f (ev_pos e0 h1), h2⟩
  ·by_cases e1 : p.toList = [46]
   ·obtain ⟨r, h1, h2⟩ := arm (p.toList = [] ∨ p.toList = [46] ∨ p.toList = [45]) (.inr (.inl e1))
    exact ⟨r, ev_f (ev_neg e0 (ev_pos e1 h1)), h2⟩
   ·by_cases e2 : p.toList = [45]
    ·obtain ⟨r, h1, h2⟩ := arm (p.toList = [] ∨ p.toList = [46] ∨ p.toList = [45]) (.inr (.inr e2))
     exact ⟨r, ev_f (ev_neg e0 (ev_neg e1 (ev_pos e2 h1))), h2⟩
    ·exact ⟨false, ev_f (ev_neg e0 (ev_neg e1 (ev_neg e2 tru))), fun h => by cases h⟩
end Go.Proofs.YtondnpfncgcdkaaDoor.Cm

namespace Go.Proofs.YtondnpfncgcdkaaDoor.Com
open Go.RowKit Go.Proofs.YtondnpfncgcdkaaDoor.Z Go.Proofs.YtondnpfncgcdkaaDoor.Evs Go.Proofs.YtondnpfncgcdkaaDoorW.PrintWords Go.Proofs.YtondnpfncgcdkaaDoorW.PrintLast
set_option linter.unusedVariables false
set_option linter.unusedSimpArgs false

/-- short: an answer; where it is true the list is short and its texts are. -/
theorem short_l (l : List ByteArray) (hl : (l.length : Int) < 9223372036854775807) (d : Nat) : ∀ i : Nat, i + d = l.length →
  ∃ b, Ev (fun k => laws_short.l0 k l l (l.length : Int) (i : Int)) b ∧ (b = true → l.length ≤ 150 ∧ ∀ j, i ≤ j → j < l.length → (l.getD j ByteArray.empty).size ≤ 1500) := by
 induction d with
 | zero =>
  intro i h
  exact ⟨_, Ev.step (fun _ => by rw [laws_short.l0]) (ev_neg (by omega) (Ev.now _)), fun hb => ⟨by simp at hb; omega, fun j h1 h2 => by omega⟩⟩
 | succ d ih =>
  intro i h
  obtain ⟨b, hb, hq⟩ := ih (i + 1) (by omega)
  by_cases c : ((rdOf ByteArray.empty l (i : Int)).size : Int) > 1500
  ·exact ⟨false, Ev.step (fun _ => by rw [laws_short.l0]) (ev_pos (by omega) (ev_pos (by omega) (ev_pos (by omega) (ev_pos c (Ev.now _))))), fun h => by cases h⟩
  ·refine ⟨b, Ev.step (fun _ => by rw [laws_short.l0, wrap_nat (by omega)]) (ev_pos (by omega) (ev_pos (by omega) (ev_pos (by omega) (ev_neg c hb)))), fun h => ⟨(hq h).1, fun j h1 h2 => ?_⟩⟩
   by_cases e : j = i
   ·subst e; rw [rdOf_nat] at c; omega
   ·exact (hq h).2 j (by omega) h2
theorem short_ev (l : List ByteArray) (hl : (l.length : Int) < 9223372036854775807) : ∃ b, Ev (fun k => laws_short.f k l) b ∧ (b = true → l.length ≤ 150 ∧ ∀ j, j < l.length → (l.getD j ByteArray.empty).size ≤ 1500) := by
 obtain ⟨b, hb, hq⟩ := short_l l hl l.length 0 (by omega)
 exact ⟨b, hb, fun h => ⟨(hq h).1, fun j hj => (hq h).2 j (by omega) hj⟩⟩

theorem short2 (a b : ByteArray) : ∃ r, Ev (fun k => laws_short.f k [a, b]) r ∧ (r = true → a.size ≤ 1500 ∧ b.size ≤ 1500) := by
 obtain ⟨r, hr, hq⟩ := short_ev [a, b] (by simp)
 exact ⟨r, hr, fun h => ⟨(hq h).2 0 (by simp), (hq h).2 1 (by simp)⟩⟩
end Go.Proofs.YtondnpfncgcdkaaDoor.Com

namespace Go.Proofs.YtondnpfncgcdkaaDoor.Cm
open Go Go.RowKit Go.Proofs.YtondnpfncgcdkaaDoor.Z Go.Proofs.YtondnpfncgcdkaaDoor.Gw Go.Proofs.YtondnpfncgcdkaaDoor.Evs Go.Proofs.YtondnpfncgcdkaaDoor.By Go.Proofs.YtondnpfncgcdkaaDoor.Com Go.Proofs.YtondnpfncgcdkaaDoorW.PrintWords Go.Proofs.YtondnpfncgcdkaaDoorW.PrintLast
set_option linter.unusedVariables false
set_option linter.unusedSimpArgs false
abbrev TI : Type := S23
abbrev TZ : Type := S53
def cvz (x : TI) : TZ := ⟨x.f0, x.f1, x.f2⟩
def czm (x : TZ) : MT := ⟨x.f0, x.f1, x.f2⟩
def cv (x : TI) : MT := ⟨x.f0, x.f1, x.f2⟩
theorem rdI (l : List TI) (i : Nat) (hi : i < l.length) : rd_T23 l (i : Int) = l[i] := by
 unfold rd_T23
 rw [Int.toNat_natCast, List.getD_eq_getElem?_getD, List.getElem?_eq_getElem hi]
 rfl
theorem rdZ (l : List TZ) (i : Nat) (hi : i < l.length) : rd_T53 l (i : Int) = l[i] := by
 unfold rd_T53
 rw [Int.toNat_natCast, List.getD_eq_getElem?_getD, List.getElem?_eq_getElem hi]
 rfl
theorem zzm_l (l : List TZ) (hl : l.length ≤ 1000000) (d : Nat) : ∀ (i : Nat) (acc : List MT), i + d = l.length → acc.length ≤ i → Ev (fun k => semantic_ZZMaven.l0 k l (l.length : Int) (i : Int) acc) (acc ++ (l.drop i).map czm) := by
 induction d with
 | zero =>
  intro i acc h ha
  refine Ev.step (fun _ => by rw [semantic_ZZMaven.l0]) ?_
  refine ev_neg (by omega) (ev_now ?_)
  rw [List.drop_of_length_le (by omega)]
  simp
 | succ d ih =>
  intro i acc h ha
  have hi : i < l.length := by omega
  have e : l.drop i = l[i] :: l.drop (i + 1) := List.drop_eq_getElem_cons hi
  have hw : wrap64 ((i : Int) + 1) = ((i + 1 : Nat) : Int) := wrap_nat (by omega)
  have hn := ih (i + 1) (acc ++ [czm l[i]]) (by omega) (by simp; omega)
  refine Ev.step (fun _ => by rw [semantic_ZZMaven.l0, rdZ l i hi, hw]) ?_
  refine ev_pos (by omega) (ev_pos (by omega) (ev_pos (by omega) (ev_some (ev_pos (by omega) (ev_eq hn ?_)))))
  rw [e, List.map_cons, List.append_assoc]
  rfl
theorem mvn_l (l : List TI) (hl : l.length ≤ 1000000) (d : Nat) : ∀ (i : Nat) (acc : List TZ), i + d = l.length → acc.length = i → Ev (fun k => impl_maven.l0 k acc l (l.length : Int) (i : Int)) ((acc ++ (l.drop i).map cvz).map czm) := by
 induction d with
 | zero =>
  intro i acc h ha
  have hz := zzm_l acc (by omega) acc.length 0 [] (by omega) (by simp)
  refine Ev.step (fun _ => by rw [impl_maven.l0]) ?_
  have hf : Ev (fun k => semantic_ZZMaven.f k acc) (acc.map czm) := by
   unfold semantic_ZZMaven.f
   refine ev_eq hz ?_
   simp
  have e : (acc ++ (l.drop i).map cvz).map czm = acc.map czm := by
   rw [List.drop_of_length_le (by omega)]
   simp
  rw [e]
  exact ev_neg (by omega) (Ev.bind hf (ev_now rfl))
 | succ d ih =>
  intro i acc h ha
  have hi : i < l.length := by omega
  have e : l.drop i = l[i] :: l.drop (i + 1) := List.drop_eq_getElem_cons hi
  have hw : wrap64 ((i : Int) + 1) = ((i + 1 : Nat) : Int) := wrap_nat (by omega)
  have hn := ih (i + 1) (acc ++ [cvz l[i]]) (by omega) (by simp; omega)
  refine Ev.step (fun _ => by rw [impl_maven.l0, rdI l i hi, hw]) ?_
  refine ev_pos (by omega) (ev_pos (by omega) (ev_pos (by omega) (ev_pos (by omega) (ev_eq hn ?_))))
  rw [e, List.map_cons, List.append_assoc]
  rfl
theorem maven_ev (l : List TI) (hl : l.length ≤ 1000000) : Ev (fun k => impl_maven.f k l) (l.map cv) := by
 have h := mvn_l l hl l.length 0 [] (by omega) rfl
 unfold impl_maven.f
 refine ev_eq h ?_
 rw [List.drop_zero, List.nil_append, List.map_map]
 rfl
/-- The reference's comparison, by filled-up tokens. -/
def moT (x y : MT) : Int × Bool := mo x.f0 x.f1 x.f2 y.f0 y.f1 y.f2
def mcF (l r : List MT) : Nat → Nat → Option Int
 | 0, _ => some 0
 | d + 1, i => (fillT l r i).bind fun x => (fillT r l i).bind fun y => if (moT x y).2 = true then (if (moT x y).1 = 0 then mcF l r d (i + 1) else some (moT x y).1) else none
theorem mcF_step (l r : List MT) (d i : Nat) : mcF l r (d + 1) i = (fillT l r i).bind fun x => (fillT r l i).bind fun y => if (moT x y).2 = true then (if (moT x y).1 = 0 then mcF l r d (i + 1) else some (moT x y).1) else none := rfl
theorem null_ev (x z : MT) (h : nullT x = some z) : Ev (fun k => spec_TokenNull.f k x.f0 x.f1 x.f2) (z.f0, z.f1, z.f2, true) := by
 unfold nullT at h
 unfold spec_TokenNull.f
 by_cases e1 : x.f0.toList = [46]
 ·rw [if_pos e1] at h
  obtain rfl := Option.some.inj h
  have hp : x.f0 = ⟨#[46]⟩ := toList_inj (e1.trans (toList_ofL [46]).symm)
  have n45 : ¬ x.f0.toList = [45] := fun hh => by rw [e1] at hh; revert hh; decide
  refine ev_neg n45 (ev_pos e1 (Ev.step (fun _ => by rw [spec_TokenNull.j0]) ?_))
  by_cases e2 : x.f1.toList = [115, 112]
  ·refine ev_pos (by rw [e2]; rfl) (ev_now ?_)
   rw [if_pos e2, hp]
  ·refine ev_neg (by simpa using e2) (ev_pos e1 (ev_now ?_))
   rw [if_neg e2, hp]
 ·rw [if_neg e1] at h
  by_cases e2 : x.f0.toList = [45]
  ·rw [if_pos e2] at h
   obtain rfl := Option.some.inj h
   have hp : x.f0 = ⟨#[45]⟩ := toList_inj (e2.trans (toList_ofL [45]).symm)
   refine ev_pos e2 (Ev.step (fun _ => by rw [spec_TokenNull.j0]) ?_)
   refine ev_pos (by rw [e2]; rfl) (ev_now ?_)
   rw [hp]
  ·rw [if_neg e2] at h
   cases h
theorem cv_get (l : List TI) (i : Nat) (h : i < l.length) : (l.map cv).getD i zeroT = cv l[i] := by
 rw [List.getD_eq_getElem?_getD, List.getElem?_map, List.getElem?_eq_getElem h]
 rfl
theorem spec_mv (l r : List TI) (hl : l.length ≤ 1000) (hr : r.length ≤ 1000) (hs : ∀ x ∈ l, x.f1.size ≤ 1000000) (hs' : ∀ x ∈ r, x.f1.size ≤ 1000000) (c : Int) (d : Nat) : ∀ i : Nat, i + d = max l.length r.length → mcF (l.map cv) (r.map cv) d i = some c → Ev (fun k => spec_MavenCompare.l0 k l r (i : Int)) (c, true) := by
 induction d with
 | zero =>
  intro i h hc
  obtain rfl : 0 = c := Option.some.inj hc
  refine Ev.step (fun _ => by rw [spec_MavenCompare.l0]) ?_
  refine ev_neg (by omega) ?_
  rw [decide_eq_false (by omega : ¬ (i : Int) < (r.length : Int))]
  exact Ev.step (fun _ => by rw [spec_MavenCompare.j1]) (ev_f (ev_now rfl))
 | succ d ih =>
  intro i h hc
  have hw : wrap64 ((i : Int) + 1) = ((i + 1 : Nat) : Int) := wrap_nat (by omega)
  rw [mcF_step] at hc
  obtain ⟨x, hx, hc⟩ := Option.bind_eq_some_iff.1 hc
  obtain ⟨y, hy, hc⟩ := Option.bind_eq_some_iff.1 hc
  have two : x.f1.size ≤ 1000000 → y.f1.size ≤ 1000000 → Ev (fun k => spec_MavenCompare.j2 k l r true (i : Int) x.f0 x.f1 x.f2 y.f0 y.f1 y.f2) (c, true) := by
   intro h1 h2
   have ho := one_ev x.f0 x.f1 x.f2 y.f0 y.f1 y.f2 h1 h2
   refine Ev.step (fun _ => by rw [spec_MavenCompare.j2, hw]) ?_
   refine ev_t (Ev.bind ho ?_)
   cases hb : (moT x y).2 with
   | false => rw [if_neg (by rw [hb]; decide)] at hc; cases hc
   | true =>
    rw [if_pos hb] at hc
    by_cases h0 : (moT x y).1 = 0
    ·rw [if_pos h0] at hc
     exact ev_pos hb (ev_pos h0 (ih (i + 1) (by omega) hc))
    ·rw [if_neg h0] at hc
     obtain rfl := Option.some.inj hc
     exact ev_pos hb (ev_neg h0 (ev_now (by rw [show (mo x.f0 x.f1 x.f2 y.f0 y.f1 y.f2).2 = true from hb]; rfl)))
  have j1 : Ev (fun k => spec_MavenCompare.j1 k l r (i : Int) true) (c, true) := by
   by_cases c1 : i < l.length
   ·unfold fillT at hx
    rw [if_pos (by rw [List.length_map]; exact c1), cv_get l i c1] at hx
    obtain rfl := Option.some.inj hx
    have s1 : (cv l[i]).f1.size ≤ 1000000 := hs _ (List.getElem_mem c1)
    by_cases c2 : i < r.length
    ·unfold fillT at hy
     rw [if_pos (by rw [List.length_map]; exact c2), cv_get r i c2] at hy
     obtain rfl := Option.some.inj hy
     have t := two s1 (hs' _ (List.getElem_mem c2))
     refine Ev.step (fun _ => by rw [spec_MavenCompare.j1, rdI l i c1, rdI r i c2]) ?_
     exact ev_t (ev_neg (by omega) (ev_neg (by omega) (ev_pos (by omega) (ev_pos (by omega) (ev_pos (by omega) t)))))
    ·unfold fillT at hy
     rw [if_neg (by rw [List.length_map]; exact c2), cv_get l i c1] at hy
     have t := two s1 (nullT_sz hy)
     have hn := null_ev _ _ hy
     refine Ev.step (fun _ => by rw [spec_MavenCompare.j1, rdI l i c1]) ?_
     exact ev_t (ev_neg (by omega) (ev_pos (by omega) (ev_pos (by omega) (ev_pos (by omega) (Ev.bind hn t)))))
   ·have c2 : i < r.length := by omega
    unfold fillT at hx hy
    rw [if_neg (by rw [List.length_map]; exact c1), cv_get r i c2] at hx
    rw [if_pos (by rw [List.length_map]; exact c2), cv_get r i c2] at hy
    obtain rfl := Option.some.inj hy
    have t := two (nullT_sz hx) (hs' _ (List.getElem_mem c2))
    have hn := null_ev _ _ hx
    refine Ev.step (fun _ => by rw [spec_MavenCompare.j1, rdI r i c2]) ?_
    exact ev_t (ev_pos (by omega) (ev_pos (by omega) (ev_pos (by omega) (Ev.bind hn t))))
  refine Ev.step (fun _ => by rw [spec_MavenCompare.l0]) ?_
  by_cases c1 : (i : Int) < (l.length : Int)
  ·exact ev_pos c1 j1
  ·refine ev_neg c1 ?_
   rw [decide_eq_true (by omega : (i : Int) < (r.length : Int))]
   exact j1
end Go.Proofs.YtondnpfncgcdkaaDoor.Cm

namespace Go.Proofs.YtondnpfncgcdkaaDoor.Cm
open Go Go.RowKit Go.Proofs.YtondnpfncgcdkaaDoor.Z Go.Proofs.YtondnpfncgcdkaaDoor.Gw Go.Proofs.YtondnpfncgcdkaaDoor.Evs Go.Proofs.YtondnpfncgcdkaaDoor.By Go.Proofs.YtondnpfncgcdkaaDoor.Com Go.Proofs.YtondnpfncgcdkaaDoorW.PrintWords Go.Proofs.YtondnpfncgcdkaaDoorW.PrintLast
set_option linter.unusedVariables false
set_option linter.unusedSimpArgs false
def cano (l : List UInt8) : Prop := allD l = true → l.length = 1 ∨ l.head? ≠ some 48
structure GoodT (x : MT) : Prop where
 k : TkK x.f1 x.f2
 c : cano (bl x.f1)
theorem cmpB_eq : ∀ a b : List UInt8, Lib.compareBytes a b = 0 → a = b
 | [], [], _ => rfl
 | [], _ :: _, h => by cases h
 | _ :: _, [], h => by cases h
 | x :: a, y :: b, h => by
  rw [Lib.compareBytes] at h
  split at h
  ·cases h
  ·split at h
   ·cases h
   ·rename_i h1 h2
    have : x = y := UInt8.toNat_inj.1 (by have h1 : ¬ x.toNat < y.toNat := h1; have h2 : ¬ y.toNat < x.toNat := h2; omega)
    rw [this, cmpB_eq a b h]
theorem cmpI_zero {a b : Int} (h : cmpI a b = 0) : a = b := by
 unfold cmpI at h
 split at h
 ·cases h
 ·split at h
  ·cases h
  ·omega
theorem strip_can {l : List UInt8} (hd : allD l = true) (hc : cano l) : (l = [48] ∧ stripZ l = []) ∨ (stripZ l = l ∧ l ≠ []) := by
 cases l with
 | nil => cases hd
 | cons c r =>
  by_cases e : c = 48
  ·subst e
   rcases hc hd with h | h
   ·have : r = [] := by simpa using h
    subst this
    exact .inl ⟨rfl, rfl⟩
   ·exact absurd rfl h
  ·exact .inr ⟨strip_not c r e, by simp⟩
theorem cmpD_same {a b : List UInt8} (ha : allD a = true) (hb : allD b = true) (ca : cano a) (cb : cano b) (h : cmpD a b = 0) : a = b := by
 have hs : stripZ a = stripZ b := by
  unfold cmpD at h
  split at h
  ·exact cmpB_eq _ _ h
  ·have := cmpI_zero h
   omega
 rcases strip_can ha ca with ⟨h1, h2⟩ | ⟨h1, h2⟩ <;> rcases strip_can hb cb with ⟨h3, h4⟩ | ⟨h3, h4⟩
 ·rw [h1, h3]
 ·rw [h2, h3] at hs
  exact absurd hs.symm h4
 ·rw [h1, h4] at hs
  exact absurd hs h2
 ·rw [← h1, hs, h3]
theorem cmpB_self (a : List UInt8) : Lib.compareBytes a a = 0 := by have := cmpB_anti a a; omega
theorem toT_dis {p v q u : ByteArray} (hp : (toT p v).2 = true) (hq : (toT q u).2 = true) (h : (toT p v).1 = (toT q u).1) : p.toList = q.toList := by
 unfold toT at hp hq h
 by_cases a1 : p.toList = [45] <;> by_cases b1 : q.toList = [45]
 ·rw [a1, b1]
 ·rw [if_pos a1, if_neg b1] at h
  by_cases b2 : q.toList = [46]
  ·rw [if_pos b2] at h
   cases hx : allD (bl v) <;> cases hy : allD (bl u) <;> simp [hx, hy] at h
  ·rw [if_neg b1, if_neg b2] at hq
   cases hq
 ·rw [if_neg a1, if_pos b1] at h
  by_cases a2 : p.toList = [46]
  ·rw [if_pos a2] at h
   cases hx : allD (bl v) <;> cases hy : allD (bl u) <;> simp [hx, hy] at h
  ·rw [if_neg a1, if_neg a2] at hp
   cases hp
 ·by_cases a2 : p.toList = [46]
  ·by_cases b2 : q.toList = [46]
   ·rw [a2, b2]
   ·rw [if_neg b1, if_neg b2] at hq
    cases hq
  ·rw [if_neg a1, if_neg a2] at hp
   cases hp
/-- Two tokens are equal where the reference says so. -/
theorem eq_mo {x y : MT} (hx : GoodT x) (hy : GoodT y) (h2 : (moT x y).2 = true) : eqT x y = true ↔ (moT x y).1 = 0 := by
 unfold eqT
 rw [Bool.and_eq_true, beq_iff_eq, beq_iff_eq, toList_bl x.f1, toList_bl y.f1]
 unfold moT mo at h2 ⊢
 by_cases e : x.f0.toList = y.f0.toList
 ·rw [if_pos e] at h2 ⊢
  show _ ↔ (if allD (bl x.f1) = true then (if allD (bl y.f1) = true then cmpD (bl x.f1) (bl y.f1) else if x.f2 = true ∧ kwI y.f1 > 6 then -1 else 1) else if allD (bl y.f1) = true then (if y.f2 = true ∧ kwI x.f1 > 6 then 1 else -1) else qC x.f1 y.f1) = 0
  cases hd : allD (bl x.f1) <;> cases hd2 : allD (bl y.f1)
  ·rw [if_neg (by decide), if_neg (by decide)]
   constructor
   ·rintro ⟨_, h⟩
    have hxy : x.f1 = y.f1 := by rw [← ofL_bl x.f1, ← ofL_bl y.f1, h]
    unfold qC
    rw [hxy, if_pos rfl, cmpB_self]
   ·intro h
    refine ⟨e, ?_⟩
    unfold qC at h
    split at h
    ·exact cmpB_eq _ _ h
    ·rename_i hne
     exact absurd (cmpI_zero h) hne
  ·rw [if_neg (by decide), if_pos rfl]
   constructor
   ·rintro ⟨_, h⟩
    rw [h, hd2] at hd
    cases hd
   ·intro h
    split at h <;> cases h
  ·rw [if_pos rfl, if_neg (by decide)]
   constructor
   ·rintro ⟨_, h⟩
    rw [h, hd2] at hd
    cases hd
   ·intro h
    split at h <;> cases h
  ·rw [if_pos rfl, if_pos rfl]
   constructor
   ·rintro ⟨_, h⟩
    rw [h]
    unfold cmpD
    rw [if_pos rfl, cmpB_self]
   ·intro h
    exact ⟨e, cmpD_same hd hd2 hx.c hy.c h⟩
 ·rw [if_neg e] at h2 ⊢
  have h3 : ((toT x.f0 x.f1).2 && (toT y.f0 y.f1).2) = true := h2
  rw [Bool.and_eq_true] at h3
  constructor
  ·rintro ⟨h, _⟩
   exact absurd h e
  ·intro h
   exact absurd (toT_dis h3.1 h3.2 (cmpI_zero h)) e
theorem cmpD_range (a b : List UInt8) : cmpD a b = -1 ∨ cmpD a b = 0 ∨ cmpD a b = 1 := by
 unfold cmpD
 split
 ·exact cmpB_range _ _
 ·exact cmpZ_rng _ _
theorem mo_range (x y : MT) : (moT x y).1 = -1 ∨ (moT x y).1 = 0 ∨ (moT x y).1 = 1 := by
 unfold moT mo
 split
 ·show (if allD (bl x.f1) = true then (if allD (bl y.f1) = true then cmpD (bl x.f1) (bl y.f1) else if x.f2 = true ∧ kwI y.f1 > 6 then -1 else 1) else if allD (bl y.f1) = true then (if y.f2 = true ∧ kwI x.f1 > 6 then 1 else -1) else qC x.f1 y.f1) = -1 ∨ _ = 0 ∨ _ = 1
  split
  ·split
   ·exact cmpD_range _ _
   ·split <;> simp
  ·split
   ·split <;> simp
   ·unfold qC
    split
    ·exact cmpB_range _ _
    ·exact cmpZ_rng _ _
 ·exact cmpZ_rng _ _
/-- Tokens of a version. -/
structure KM (l : List MT) : Prop where
 n : l.length ≤ 40
 pos : 0 < l.length
 g : ∀ i, (h : i < l.length) → GoodT l[i] ∧ (l[i]).f2 = false
 p : ∀ i, (h : i < l.length) → if i = 0 then (l[i]).f0.toList = [] else (l[i]).f0.toList = [46] ∨ (l[i]).f0.toList = [45]
 t : 1 < l.length → ∀ h : l.length - 1 < l.length, (l[l.length - 1]).f1.toList ≠ [48] ∧ (l[l.length - 1]).f1.toList ≠ []
theorem null_of {x : MT} (h : x.f0.toList = [46] ∨ x.f0.toList = [45]) : ∃ z, nullT x = some z ∧ GoodT z ∧ z.f0.toList = x.f0.toList ∧ (z.f1.toList = [48] ∨ z.f1.toList = []) := by
 have g0 : ∀ p n, GoodT ⟨p, ⟨#[]⟩, n⟩ := fun p n => ⟨⟨.inr (.inl rfl), show (⟨#[]⟩ : ByteArray).size ≤ 1000000 by decide, fun _ => .inr rfl⟩, fun hh => by cases hh⟩
 have g1 : ∀ p n, GoodT ⟨p, ⟨#[48]⟩, n⟩ := fun p n => ⟨⟨.inl (show allD [48] = true by decide), show (⟨#[48]⟩ : ByteArray).size ≤ 1000000 by decide, fun _ => .inl rfl⟩, fun _ => .inl rfl⟩
 unfold nullT
 rcases h with h | h
 ·rw [if_pos h]
  by_cases e : x.f1.toList = [115, 112]
  ·rw [if_pos e]
   exact ⟨_, rfl, g0 _ _, by rw [h]; exact toList_ofL [46], .inr (toList_ofL [])⟩
  ·rw [if_neg e]
   exact ⟨_, rfl, g1 _ _, by rw [h]; exact toList_ofL [46], .inl (toList_ofL [48])⟩
 ·rw [if_neg (fun hh => by rw [h] at hh; revert hh; decide), if_pos h]
  exact ⟨_, rfl, g0 _ _, by rw [h]; exact toList_ofL [45], .inr (toList_ofL [])⟩
theorem mo_pref {x y : MT} (h : x.f0.toList = y.f0.toList) : (moT x y).2 = true := by
 unfold moT mo
 rw [if_pos h]
theorem toT_ok {p v : ByteArray} (h : p.toList = [46] ∨ p.toList = [45]) : (toT p v).2 = true := by
 unfold toT
 rcases h with h | h
 ·rw [if_neg (fun hh => by rw [h] at hh; revert hh; decide), if_pos h]
 ·rw [if_pos h]
theorem step_ok {l r : List MT} (hl : KM l) (hr : KM r) (i : Nat) (h : i < max l.length r.length) : ∃ x y, fillT l r i = some x ∧ fillT r l i = some y ∧ GoodT x ∧ GoodT y ∧ (moT x y).2 = true := by
 have pl := hl.pos
 have pr := hr.pos
 unfold fillT
 by_cases c1 : i < l.length
 ·rw [if_pos c1, getD_at c1]
  have g1 := (hl.g i c1).1
  have p1 := hl.p i c1
  by_cases c2 : i < r.length
  ·rw [if_pos c2, getD_at c2]
   refine ⟨_, _, rfl, rfl, g1, (hr.g i c2).1, ?_⟩
   have p2 := hr.p i c2
   by_cases e : i = 0
   ·rw [if_pos e] at p1 p2
    exact mo_pref (p1.trans p2.symm)
   ·rw [if_neg e] at p1 p2
    by_cases e2 : (l[i]).f0.toList = (r[i]).f0.toList
    ·exact mo_pref e2
    ·unfold moT mo
     rw [if_neg e2]
     show ((toT _ _).2 && (toT _ _).2) = true
     rw [toT_ok p1, toT_ok p2]
     rfl
  ·rw [if_neg c2]
   rw [if_neg (by omega)] at p1
   obtain ⟨z, hz, gz, pz, _⟩ := null_of p1
   exact ⟨_, z, rfl, hz, g1, gz, mo_pref pz.symm⟩
 ·have c2 : i < r.length := by omega
  have p2 := hr.p i c2
  rw [if_neg (by omega)] at p2
  obtain ⟨z, hz, gz, pz, _⟩ := null_of p2
  rw [if_neg c1, if_pos c2, getD_at c2]
  exact ⟨z, _, hz, rfl, gz, (hr.g i c2).1, mo_pref pz⟩
/-- The comparison from a place on. -/
theorem main_l {l r : List MT} (hl : KM l) (hr : KM r) (d : Nat) : ∀ i : Nat, i + d = max l.length r.length → ∃ c, mcF l r d i = some c ∧ mcF r l d i = some (-c) ∧ (c = -1 ∨ c = 0 ∨ c = 1) ∧ lsF l r d i = some (decide (c < 0)) ∧ (c = 0 → ∀ j, i ≤ j → j < max l.length r.length → ∀ x y, fillT l r j = some x → fillT r l j = some y → eqT x y = true) ∧ ((∀ j, i ≤ j → j < max l.length r.length → ∀ x y, fillT l r j = some x → fillT r l j = some y → eqT x y = true) → c = 0) := by
 induction d with
 | zero => exact fun i h => ⟨0, rfl, rfl, by simp, rfl, fun _ j h1 h2 => by omega, fun _ => rfl⟩
 | succ d ih =>
  intro i h
  obtain ⟨c, h1, h2, h3, h4, h5, h6⟩ := ih (i + 1) (by omega)
  obtain ⟨x, y, hx, hy, gx, gy, ho⟩ := step_ok hl hr i (by omega)
  have hn := mo_neg x.f0 x.f1 x.f2 y.f0 y.f1 y.f2
  have ho2 : (moT y x).2 = true := hn.2.trans ho
  have hn1 : (moT y x).1 = -(moT x y).1 := hn.1
  have he := eq_mo gx gy ho
  have hm : tkLess x.f0 x.f1 x.f2 y.f0 y.f1 y.f2 = some (decide ((moT x y).1 < 0)) := by
   rw [less_mo gx.k gy.k]
   exact if_pos ho
  have e1 : mcF l r (d + 1) i = if (moT x y).1 = 0 then mcF l r d (i + 1) else some (moT x y).1 := by
   rw [mcF_step, hx, hy, Option.bind_some, Option.bind_some, if_pos ho]
  have e2 : mcF r l (d + 1) i = if (moT y x).1 = 0 then mcF r l d (i + 1) else some (moT y x).1 := by
   rw [mcF_step, hx, hy, Option.bind_some, Option.bind_some, if_pos ho2]
  have e3 : lsF l r (d + 1) i = if eqT x y = true then lsF l r d (i + 1) else some (decide ((moT x y).1 < 0)) := by
   rw [lsF_step, hx, hy, Option.bind_some, Option.bind_some, hm]
  rw [e1, e2, e3, hn1]
  by_cases hz : (moT x y).1 = 0
  ·rw [if_pos hz, if_pos (by omega), if_pos (he.2 hz)]
   refine ⟨c, h1, h2, h3, h4, fun hc j hj hj2 x' y' hx' hy' => ?_, fun hall => h6 (fun j hj hj2 => hall j (by omega) hj2)⟩
   by_cases ej : j = i
   ·subst ej
    rw [hx] at hx'
    rw [hy] at hy'
    cases hx'
    cases hy'
    exact he.2 hz
   ·exact h5 hc j (by omega) hj2 x' y' hx' hy'
  ·have hne : ¬ eqT x y = true := fun hh => hz (he.1 hh)
   rw [if_neg hz, if_neg (by omega), if_neg hne]
   exact ⟨_, rfl, rfl, mo_range x y, rfl, fun hc => absurd hc hz, fun hall => absurd (hall i (Nat.le_refl i) (by omega) x y hx hy) hne⟩
theorem eqM_all : ∀ l r : List MT, l.length = r.length → (∀ j, (h : j < l.length) → (h' : j < r.length) → eqT l[j] r[j] = true) → eqM l r = true
 | [], [], _, _ => rfl
 | x :: l, y :: r, h, ha => by
  have h0 : eqT x y = true := ha 0 (by simp) (by simp)
  rw [eqM, h0, eqM_all l r (by simpa using h) (fun j h1 h2 => ha (j + 1) (by simpa using h1) (by simpa using h2))]
  rfl
 | [], _ :: _, h, _ => by simp at h
 | _ :: _, [], h, _ => by simp at h
theorem eqM_at : ∀ l r : List MT, eqM l r = true → l.length = r.length ∧ ∀ j, (h : j < l.length) → (h' : j < r.length) → eqT l[j] r[j] = true
 | [], [], _ => ⟨rfl, fun j h => by simp at h⟩
 | x :: l, y :: r, h => by
  rw [eqM, Bool.and_eq_true] at h
  obtain ⟨h1, h2⟩ := eqM_at l r h.2
  refine ⟨by simp [h1], fun j hj hj' => ?_⟩
  cases j with
  | zero => exact h.1
  | succ j => exact h2 j (by simpa using hj) (by simpa using hj')
 | [], _ :: _, h => by cases h
 | _ :: _, [], h => by cases h
theorem eqT_val {x y : MT} (h : eqT x y = true) : x.f1.toList = y.f1.toList := by
 unfold eqT at h
 rw [Bool.and_eq_true, beq_iff_eq, beq_iff_eq] at h
 exact h.2
theorem same_len {l r : List MT} (hl : KM l) (hr : KM r) (h : ∀ j, 0 ≤ j → j < max l.length r.length → ∀ x y, fillT l r j = some x → fillT r l j = some y → eqT x y = true) : l.length = r.length := by
 have pl := hl.pos
 have pr := hr.pos
 rcases Nat.lt_trichotomy l.length r.length with c | c | c
 ·exfalso
  have hj : r.length - 1 < r.length := by omega
  have hp := hr.p (r.length - 1) hj
  rw [if_neg (by omega)] at hp
  obtain ⟨z, hz, _, _, hv⟩ := null_of hp
  have e := h (r.length - 1) (by omega) (by omega) z (r[r.length - 1]) (by unfold fillT; rw [if_neg (by omega), getD_at hj]; exact hz) (by unfold fillT; rw [if_pos hj, getD_at hj])
  have ev := eqT_val e
  have ht := hr.t (by omega) hj
  rcases hv with hv | hv
  ·exact ht.1 (ev.symm.trans hv)
  ·exact ht.2 (ev.symm.trans hv)
 ·exact c
 ·exfalso
  have hj : l.length - 1 < l.length := by omega
  have hp := hl.p (l.length - 1) hj
  rw [if_neg (by omega)] at hp
  obtain ⟨z, hz, _, _, hv⟩ := null_of hp
  have e := h (l.length - 1) (by omega) (by omega) (l[l.length - 1]) z (by unfold fillT; rw [if_pos hj, getD_at hj]) (by unfold fillT; rw [if_neg (by omega), getD_at hj]; exact hz)
  have ev := eqT_val e
  have ht := hl.t (by omega) hj
  rcases hv with hv | hv
  ·exact ht.1 (ev.trans hv)
  ·exact ht.2 (ev.trans hv)
/-- The whole comparison: the reference's, the turned one's, the walk's. -/
theorem main_c {l r : List MT} (hl : KM l) (hr : KM r) : ∃ c : Int, mcF l r (max l.length r.length) 0 = some c ∧ mcF r l (max r.length l.length) 0 = some (-c) ∧ (-1 ≤ c ∧ c ≤ 1) ∧ cmM l r = some c := by
 obtain ⟨c, h1, h2, h3, h4, h5, h6⟩ := main_l hl hr (max l.length r.length) 0 (by omega)
 refine ⟨c, h1, by rw [Nat.max_comm]; exact h2, by omega, ?_⟩
 unfold cmM
 by_cases hc : c = 0
 ·have hall := h5 hc
  have hlen := same_len hl hr (fun j h0 hj x y hx hy => hall j h0 hj x y hx hy)
  have he : eqM l r = true := eqM_all l r hlen (fun j hj hj' => hall j (by omega) (by omega) _ _ (by unfold fillT; rw [if_pos hj, getD_at hj]) (by unfold fillT; rw [if_pos hj', getD_at hj']))
  rw [if_pos he, hc]
 ·have he : ¬ eqM l r = true := fun he => hc (by
   obtain ⟨hlen, hat⟩ := eqM_at l r he
   refine h6 (fun j _ hj x y hx hy => ?_)
   have c1 : j < l.length := by omega
   have c2 : j < r.length := by omega
   unfold fillT at hx hy
   rw [if_pos c1, getD_at c1] at hx
   rw [if_pos c2, getD_at c2] at hy
   cases hx
   cases hy
   exact hat j c1 c2)
  rw [if_neg he]
  unfold lsM
  rw [h4, Option.bind_some]
  rcases h3 with rfl | h | rfl
  ·rfl
  ·exact absurd h hc
  ·rfl
end Go.Proofs.YtondnpfncgcdkaaDoor.Cm

namespace Go.Proofs.YtondnpfncgcdkaaDoor.Com
open Go.RowKit Go.Proofs.YtondnpfncgcdkaaDoor.Z Go.Proofs.YtondnpfncgcdkaaDoor.Evs Go.Proofs.YtondnpfncgcdkaaDoorW.PrintWords Go.Proofs.YtondnpfncgcdkaaDoorW.PrintLast
set_option linter.unusedVariables false
set_option linter.unusedSimpArgs false
theorem turned1 {r b : Int} (h : b = -r) (h1 : -1 ≤ r) (h2 : r ≤ 1) : laws_turned.f r b = some true := by
 unfold laws_turned.f
 have e : wrap64 (-b) = r := by rw [wrap_in (by omega) (by omega)]; omega
 rw [e, if_pos rfl, if_pos h1, decide_eq_true h2]
end Go.Proofs.YtondnpfncgcdkaaDoor.Com

namespace Go.Proofs.YtondnpfncgcdkaaDoor.Pure
open Go.RowKit Go.Proofs.YtondnpfncgcdkaaDoor.Z Go.Proofs.YtondnpfncgcdkaaDoor.Evs Go.Proofs.YtondnpfncgcdkaaDoor.By Go.Proofs.YtondnpfncgcdkaaDoor.Com Go.Proofs.YtondnpfncgcdkaaDoor.Cm Go.Proofs.YtondnpfncgcdkaaDoorW.PrintWords Go.Proofs.YtondnpfncgcdkaaDoorW.PrintLast
set_option linter.unusedVariables false
set_option linter.unusedSimpArgs false
theorem fits11_q (p v : ByteArray) (n : Bool) : ∃ r, laws_zzFits11.f p v n = some r ∧ (r = true → v.size ≤ 2147483647) := by
 unfold laws_zzFits11.f
 by_cases h1 : (p.size : Int) > 2147483647
 ·exact ⟨false, if_pos h1, fun h => by cases h⟩
 ·by_cases h2 : (v.size : Int) > 2147483647
  ·exact ⟨false, by rw [if_neg h1, if_pos h2], fun h => by cases h⟩
  ·exact ⟨true, by rw [if_neg h1, if_neg h2], fun _ => by omega⟩
theorem fits10_l (l : List TI) (hl : l.length ≤ 2147483647) (d : Nat) : ∀ i : Nat, i + d = l.length → ∃ r, Ev (fun k => laws_zzFits10.l0 k l (l.length : Int) (i : Int)) r ∧ (r = true → ∀ x ∈ l.drop i, x.f1.size ≤ 2147483647) := by
 induction d with
 | zero =>
  intro i h
  refine ⟨true, Ev.step (fun _ => by rw [laws_zzFits10.l0]) (ev_neg (by omega) (ev_now rfl)), fun _ x hx => ?_⟩
  rw [List.drop_of_length_le (by omega)] at hx
  simp at hx
 | succ d ih =>
  intro i h
  have hi : i < l.length := by omega
  have e : l.drop i = l[i] :: l.drop (i + 1) := List.drop_eq_getElem_cons hi
  have hw : wrap64 ((i : Int) + 1) = ((i + 1 : Nat) : Int) := wrap_nat (by omega)
  obtain ⟨r, hr, hq⟩ := ih (i + 1) (by omega)
  obtain ⟨b, hb, hbq⟩ := fits11_q (l[i]).f0 (l[i]).f1 (l[i]).f2
  cases b with
  | false =>
   refine ⟨false, Ev.step (fun _ => by rw [laws_zzFits10.l0, rdI l i hi, hb]) ?_, fun h => by cases h⟩
   exact ev_pos (by omega) (ev_pos (by omega) (ev_pos (by omega) (ev_some (ev_f (ev_now rfl)))))
  | true =>
   refine ⟨r, Ev.step (fun _ => by rw [laws_zzFits10.l0, rdI l i hi, hb, hw]) ?_, fun hh x hx => ?_⟩
   ·exact ev_pos (by omega) (ev_pos (by omega) (ev_pos (by omega) (ev_some (ev_t hr))))
   ·rw [e] at hx
    rcases List.mem_cons.1 hx with rfl | hx
    ·exact hbq rfl
    ·exact hq hh x hx
theorem fits10_ev (l : List TI) : ∃ r, Ev (fun k => laws_zzFits10.f k l) r ∧ (r = true → l.length ≤ 2147483647 ∧ ∀ x ∈ l, x.f1.size ≤ 2147483647) := by
 unfold laws_zzFits10.f
 by_cases h : (l.length : Int) > 2147483647
 ·exact ⟨false, ev_pos h (ev_now rfl), fun h => by cases h⟩
 ·obtain ⟨r, hr, hq⟩ := fits10_l l (by omega) l.length 0 (by omega)
  exact ⟨r, ev_neg h hr, fun hh => ⟨by omega, fun x hx => hq hh x (by simpa using hx)⟩⟩
/-- What the reference asks of a token at a place. -/
def K1 (x : TI) (i : Nat) : Prop := x.f2 = false ∧ TV (bl x.f1) ∧ cano (bl x.f1) ∧ (if i = 0 then x.f0.toList = [] else x.f0.toList = [46] ∨ x.f0.toList = [45])
theorem kn_l (l : List TI) (hl : l.length ≤ 2147483647) (hs : ∀ x ∈ l, x.f1.size ≤ 2147483647) (d : Nat) : ∀ i : Nat, i + d = l.length → ∃ r, Ev (fun k => spec_MavenKnown.l0 k l (i : Int)) r ∧ (r = true → 0 < l.length ∧ ∀ j, i ≤ j → (h : j < l.length) → K1 l[j] j) := by
 induction d with
 | zero =>
  intro i h
  refine ⟨decide ((l.length : Int) > 0), Ev.step (fun _ => by rw [spec_MavenKnown.l0]) (ev_neg (by omega) (ev_now rfl)), fun hh => ⟨by have := of_decide_eq_true hh; omega, fun j h1 h2 => by omega⟩⟩
 | succ d ih =>
  intro i h
  have hi : i < l.length := by omega
  have hw : wrap64 ((i : Int) + 1) = ((i + 1 : Nat) : Int) := wrap_nat (by omega)
  obtain ⟨r, hr, hq⟩ := ih (i + 1) (by omega)
  obtain ⟨b, hb, hbq⟩ := known2_ev (l[i]).f0 (l[i]).f1 (l[i]).f2 (hs _ (List.getElem_mem hi))
  cases b with
  | false =>
   refine ⟨false, Ev.step (fun _ => by rw [spec_MavenKnown.l0, rdI l i hi]) ?_, fun h => by cases h⟩
   exact ev_pos (by omega) (ev_pos (by omega) (Ev.bind hb (ev_f (ev_now rfl))))
  | true =>
   obtain ⟨q1, q2, q3, q4⟩ := hbq rfl
   by_cases c : (((l[i]).f0.toList == ([] : List UInt8)) != ((i : Int) == 0)) = true
   ·refine ⟨false, Ev.step (fun _ => by rw [spec_MavenKnown.l0, rdI l i hi]) ?_, fun h => by cases h⟩
    exact ev_pos (by omega) (ev_pos (by omega) (Ev.bind hb (ev_t (ev_pos c (ev_now rfl)))))
   ·refine ⟨r, Ev.step (fun _ => by rw [spec_MavenKnown.l0, rdI l i hi, hw]) ?_, fun hh => ⟨(hq hh).1, fun j h1 h2 => ?_⟩⟩
    ·exact ev_pos (by omega) (ev_pos (by omega) (Ev.bind hb (ev_t (ev_neg c hr))))
    ·by_cases ej : j = i
     ·subst ej
      refine ⟨q1, q2, q4, ?_⟩
      by_cases e0 : j = 0
      ·rw [if_pos e0]
       subst e0
       by_cases e : (l[0]).f0.toList = []
       ·exact e
       ·exact absurd (by simp [e]) c
      ·rw [if_neg e0]
       by_cases e : (l[j]).f0.toList = []
       ·exact absurd (by rw [e]; simp; omega) c
       ·rcases q3 with h | h | h
        ·exact absurd h e
        ·exact .inl h
        ·exact .inr h
     ·exact (hq hh).2 j (by omega) h2
theorem trim_f (v : ByteArray) (p : ByteArray) (n : Bool) : ∃ r, spec_TokenTrims.f p v n = some r ∧ (r = false → v.toList ≠ [48] ∧ v.toList ≠ []) := by
 unfold spec_TokenTrims.f
 by_cases h1 : v.toList = [48]
 ·exact ⟨true, if_pos h1, fun h => by cases h⟩
 ·by_cases h2 : v.toList = []
  ·exact ⟨true, by rw [if_neg h1, if_pos h2], fun h => by cases h⟩
  ·by_cases h3 : v.toList = [102, 105, 110, 97, 108]
   ·exact ⟨true, by rw [if_neg h1, if_neg h2, if_pos h3], fun h => by cases h⟩
   ·exact ⟨_, by rw [if_neg h1, if_neg h2, if_neg h3], fun _ => ⟨h1, h2⟩⟩
def KL (l : List TI) : Prop := KM (l.map cv) ∧ ∀ x ∈ l, x.f1.size ≤ 1000000
theorem tk1_l (L : List (List TI)) (m : Int) (a : List TI) (ha : a.length ≤ 40) (rn : Bool) (i : Nat) (hn : Ev (fun k => laws_tokens.l0 k L m (wrap64 ((i : Int) + 1))) rn) (d : Nat) : ∀ j : Nat, j + d = a.length → ∃ r, Ev (fun k => laws_tokens.l1 k L m (i : Int) a (a.length : Int) (j : Int)) r ∧ (r = true → rn = true ∧ ∀ x ∈ a.drop j, x.f1.size ≤ 1500) := by
 induction d with
 | zero =>
  intro j h
  refine ⟨rn, Ev.step (fun _ => by rw [laws_tokens.l1]) (ev_neg (by omega) hn), fun hr => ⟨hr, fun x hx => ?_⟩⟩
  rw [List.drop_of_length_le (by omega)] at hx
  simp at hx
 | succ d ih =>
  intro j h
  have hj : j < a.length := by omega
  have e : a.drop j = a[j] :: a.drop (j + 1) := List.drop_eq_getElem_cons hj
  have hw : wrap64 ((j : Int) + 1) = ((j + 1 : Nat) : Int) := wrap_nat (by omega)
  obtain ⟨r, hr, hq⟩ := ih (j + 1) (by omega)
  obtain ⟨b, hb, hbq⟩ := short2 (a[j]).f0 (a[j]).f1
  cases b with
  | false =>
   refine ⟨false, Ev.step (fun _ => by rw [laws_tokens.l1, rdI a j hj]) ?_, fun h => by cases h⟩
   exact ev_pos (by omega) (ev_pos (by omega) (ev_pos (by omega) (Ev.bind hb (ev_f (ev_now rfl)))))
  | true =>
   refine ⟨r, Ev.step (fun _ => by rw [laws_tokens.l1, rdI a j hj, hw]) ?_, fun hh => ⟨(hq hh).1, fun x hx => ?_⟩⟩
   ·exact ev_pos (by omega) (ev_pos (by omega) (ev_pos (by omega) (Ev.bind hb (ev_t hr))))
   ·rw [e] at hx
    rcases List.mem_cons.1 hx with rfl | hx
    ·exact (hbq rfl).2
    ·exact (hq hh).2 x hx
theorem rdL (L : List (List TI)) (i : Nat) (hi : i < L.length) : rd_L3 L (i : Int) = L[i] := by
 unfold rd_L3
 rw [Int.toNat_natCast, List.getD_eq_getElem?_getD, List.getElem?_eq_getElem hi]
 rfl
theorem tok_l (L : List (List TI)) (hL : L.length ≤ 1000) (hs : ∀ a ∈ L, a.length ≤ 2147483647 ∧ ∀ x ∈ a, x.f1.size ≤ 2147483647) (d : Nat) : ∀ i : Nat, i + d = L.length → ∃ r, Ev (fun k => laws_tokens.l0 k L (L.length : Int) (i : Int)) r ∧ (r = true → ∀ a ∈ L.drop i, KL a) := by
 induction d with
 | zero =>
  intro i h
  refine ⟨true, Ev.step (fun _ => by rw [laws_tokens.l0]) (ev_neg (by omega) (ev_now rfl)), fun _ a ha => ?_⟩
  rw [List.drop_of_length_le (by omega)] at ha
  simp at ha
 | succ d ih =>
  intro i h
  have hi : i < L.length := by omega
  have e : L.drop i = L[i] :: L.drop (i + 1) := List.drop_eq_getElem_cons hi
  have hw : wrap64 ((i : Int) + 1) = ((i + 1 : Nat) : Int) := wrap_nat (by omega)
  obtain ⟨rn, hrn, hqn⟩ := ih (i + 1) (by omega)
  obtain ⟨s1, s2⟩ := hs _ (List.getElem_mem hi)
  generalize ha : L[i] = a at s1 s2 e
  have hrd : rd_L3 L (i : Int) = a := by rw [rdL L i hi, ha]
  have j1t : Ev (fun k => laws_tokens.j1 k a L (L.length : Int) (i : Int) true) false := Ev.step (fun _ => by rw [laws_tokens.j1]) (ev_t (ev_now rfl))
  by_cases c40 : (a.length : Int) > 40
  ·refine ⟨false, Ev.step (fun _ => by rw [laws_tokens.l0, hrd]) ?_, fun h => by cases h⟩
   exact ev_pos (by omega) (ev_pos (by omega) (ev_pos (by omega) (ev_pos c40 j1t)))
  ·obtain ⟨b, hb, hbq⟩ := kn_l a s1 s2 a.length 0 (by omega)
   have hb' : Ev (fun k => spec_MavenKnown.f k a) b := hb
   cases b with
   | false =>
    refine ⟨false, Ev.step (fun _ => by rw [laws_tokens.l0, hrd]) ?_, fun h => by cases h⟩
    exact ev_pos (by omega) (ev_pos (by omega) (ev_pos (by omega) (ev_neg c40 (Ev.bind hb' (ev_f j1t)))))
   | true =>
    obtain ⟨hp, hk⟩ := hbq rfl
    obtain ⟨r1, h1, q1⟩ := tk1_l L (L.length : Int) a (by omega) rn i (by rw [hw]; exact hrn) a.length 0 (by omega)
    have h1' : Ev (fun k => laws_tokens.l1 k L (L.length : Int) (i : Int) a (a.length : Int) 0) r1 := h1
    have j1f : Ev (fun k => laws_tokens.j1 k a L (L.length : Int) (i : Int) false) r1 := by
     refine Ev.step (fun _ => by rw [laws_tokens.j1]) ?_
     exact ev_f h1'
    have done : r1 = true → (1 < a.length → ∀ h : a.length - 1 < a.length, (a[a.length - 1]).f1.toList ≠ [48] ∧ (a[a.length - 1]).f1.toList ≠ []) → ∀ y ∈ L.drop i, KL y := by
     intro hr ht y hy
     rw [e] at hy
     obtain ⟨g1, g2⟩ := q1 hr
     have g3 : ∀ x ∈ a, x.f1.size ≤ 1500 := fun x hx => g2 x (by simpa using hx)
     rcases List.mem_cons.1 hy with rfl | hy
     ·refine ⟨⟨by rw [List.length_map]; omega, by rw [List.length_map]; exact hp, fun j hj => ?_, fun j hj => ?_, fun h1 h2 => ?_⟩, fun x hx => by have := g3 x hx; omega⟩
      ·rw [List.length_map] at hj
       obtain ⟨k1, k2, k3, _⟩ := hk j (by omega) hj
       have := g3 _ (List.getElem_mem hj)
       rw [List.getElem_map]
       exact ⟨⟨⟨k2, by show (y[j]).f1.size ≤ 1000000; omega, fun hn => by rw [show (cv y[j]).f2 = false from k1] at hn; cases hn⟩, k3⟩, k1⟩
      ·rw [List.length_map] at hj
       rw [List.getElem_map]
       exact (hk j (by omega) hj).2.2.2
      ·rw [List.length_map] at h1
       have h3 := ht h1 (by omega)
       simp only [List.length_map, List.getElem_map]
       exact h3
     ·exact hqn g1 y hy
    by_cases c1 : (a.length : Int) > 1
    ·have hw2 : wrap64 ((a.length : Int) - 1) = ((a.length - 1 : Nat) : Int) := by
      rw [wrap_in (by omega) (by omega)]
      omega
     have hlt : a.length - 1 < a.length := by omega
     obtain ⟨t, htf, htq⟩ := trim_f (a[a.length - 1]).f1 (a[a.length - 1]).f0 (a[a.length - 1]).f2
     cases t with
     | true =>
      refine ⟨false, Ev.step (fun _ => by rw [laws_tokens.l0, hrd, hw2, rdI a (a.length - 1) hlt, htf]) ?_, fun h => by cases h⟩
      exact ev_pos (by omega) (ev_pos (by omega) (ev_pos (by omega) (ev_neg c40 (Ev.bind hb' (ev_t (ev_pos c1 (ev_pos (by omega) (ev_pos (by omega) (ev_some j1t)))))))))
     | false =>
      refine ⟨r1, Ev.step (fun _ => by rw [laws_tokens.l0, hrd, hw2, rdI a (a.length - 1) hlt, htf]) ?_, fun hr => done hr (fun _ _ => htq rfl)⟩
      exact ev_pos (by omega) (ev_pos (by omega) (ev_pos (by omega) (ev_neg c40 (Ev.bind hb' (ev_t (ev_pos c1 (ev_pos (by omega) (ev_pos (by omega) (ev_some j1f)))))))))
    ·refine ⟨r1, Ev.step (fun _ => by rw [laws_tokens.l0, hrd]) ?_, fun hr => done hr (fun h => by omega)⟩
     exact ev_pos (by omega) (ev_pos (by omega) (ev_pos (by omega) (ev_neg c40 (Ev.bind hb' (ev_t (ev_neg c1 j1f))))))
theorem impl_ev (l r : List TI) (hl : KL l) (hr : KL r) (c : Int) (hc : cmM (l.map cv) (r.map cv) = some c) : Ev (fun k => impl_MavenCompare.f k l r) (c, true) := by
 have n1 := hl.1.n
 have n2 := hr.1.n
 rw [List.length_map] at n1 n2
 have fit : ∀ a : List TI, KL a → fitT (a.map cv) = true := fun a ha => List.all_eq_true.2 fun x hx => by
  obtain ⟨y, hy, rfl⟩ := List.mem_map.1 hx
  exact decide_eq_true (ha.2 y hy)
 unfold impl_MavenCompare.f
 refine Ev.bind (maven_ev l (by omega)) (Ev.bind (maven_ev r (by omega)) (ev_pos ?_ ?_))
 ·rw [fit l hl, fit r hr]
  rfl
 ·rw [hc]
  exact ev_now rfl
theorem FnMaven : laws_FnMaven.Pure := by
 intro l r h0 h1
 refine Ev.rounds ?_
 unfold laws_FnMaven.f
 have skip : Ev (fun k => laws_FnMaven.j0 k l r true) true := Ev.step (fun _ => by rw [laws_FnMaven.j0]) (ev_t (ev_now rfl))
 obtain ⟨r0, e0, q0⟩ := fits10_ev l
 obtain ⟨r1, e1, q1⟩ := fits10_ev r
 refine Ev.bind e0 ?_
 cases r0 with
 | false => exact ev_f skip
 | true =>
  refine ev_t (Ev.bind e1 ?_)
  cases r1 with
  | false => exact skip
  | true =>
   obtain ⟨b, hb, hq⟩ := tok_l [l, r] (by simp) (fun a ha => by
    rcases List.mem_cons.1 ha with rfl | ha
    ·exact q0 rfl
    ·rcases List.mem_cons.1 ha with rfl | ha
     ·exact q1 rfl
     ·cases ha) 2 0 (by simp)
   have hb' : Ev (fun k => laws_tokens.f k [l, r]) b := hb
   refine Ev.step (fun _ => by rw [laws_FnMaven.j0]) ?_
   refine ev_f (Ev.bind hb' ?_)
   cases b with
   | false => exact ev_f (ev_now rfl)
   | true =>
    have kl := hq rfl l (by simp)
    have kr := hq rfl r (by simp)
    obtain ⟨c, m1, m2, m3, m4⟩ := main_c kl.1 kr.1
    obtain ⟨c', n1, _, _, n4⟩ := main_c kr.1 kl.1
    rw [m2] at n1
    obtain rfl := Option.some.inj n1
    have hn := kl.1.n
    have hn2 := kr.1.n
    rw [List.length_map] at hn hn2
    have sp := spec_mv l r (by omega) (by omega) kl.2 kr.2 c (max l.length r.length) 0 (by omega) (by rw [List.length_map, List.length_map] at m1; exact m1)
    have sp' : Ev (fun k => spec_MavenCompare.f k l r) (c, true) := sp
    have i1 := impl_ev l r kl kr c m4
    have i2 := impl_ev r l kr kl (-c) n4
    have ht := turned1 (rfl : -c = -c) m3.1 m3.2
    refine ev_t (Ev.bind sp' (Ev.bind i1 (Ev.bind i2 ?_)))
    refine ev_pos rfl (ev_pos rfl (ev_pos rfl ?_))
    rw [ht]
    exact ev_now rfl
end Go.Proofs.YtondnpfncgcdkaaDoor.Pure

namespace Go.Proofs.YtondnpfncgcdkaaDoor.fnMaven
open Go.ChangeShapes Go.WideShapes Go.ChangeAt Go.RowKit Go.Proofs.YtondnpfncgcdkaaDoor.Op Go.Proofs.YtondnpfncgcdkaaDoor.Z Go.Proofs.YtondnpfncgcdkaaDoorW.PrintWords
open Go.ChangeMaps (open_string shut_string)
set_option linter.unusedVariables false
set_option linter.unusedSimpArgs false
theorem own : ownKnob Tryd.prog.godebug = none := by kernel_rfl
theorem laidOut : laidOutB Tryd.prog = true := by kernel_rfl
set_option maxRecDepth 100000 in
theorem opens_k23 : Opens Tryd.prog 23 k23 := by
 intro H enc w base spare held fuel cs x h
 obtain ⟨hl, n, hf⟩ := trod_fields Tryd.underlying23 h
 have hl' : cs.length = 3 := hl.trans (by kernel_rfl)
 obtain ⟨a0, h0⟩ := open_field hf 0 9 0 1 (by rfl) (by kernel_rfl) (Opens.string Tryd.underlying9)
 obtain ⟨a1, h1⟩ := open_field hf 1 9 1 1 (by rfl) (by kernel_rfl) (Opens.string Tryd.underlying9)
 obtain ⟨a2, h2⟩ := open_field hf 2 4 2 1 (by rfl) (by kernel_rfl) (Opens.bool Tryd.underlying4)
 exact ⟨(⟨a0, a1, a2⟩ : S23), (Exists.intro _ (Exists.intro _ (And.intro (split_at cs 0 1) (And.intro h0 (Exists.intro _ (Exists.intro _ (And.intro (split_at cs 1 1) (And.intro h1 ((last_at cs 2 1 (by omega)) ▸ h2)))))))))⟩
/-- A world for the witness: the listed variables hold what their initialisers lay. -/
noncomputable def laidWorld (os : Os) : World := World.laidAll Tryd.prog os Rows.fnMavenRow.laid
set_option maxRecDepth 100000 in
theorem laid_met (os : Os) : laidMet Tryd.prog Rows.fnMavenRow.laid ((laidWorld os).forCall (fun _ _ => 0) ⟨#[], #[.slice none 0 0, .slice none 0 0], []⟩).memory :=
 laidMet_laidAll _ (by kernel_rfl) (by kernel_rfl)
set_option maxRecDepth 100000 in
theorem reads (os : Os) {H : Type} (enc : TypeId × Value → H) : DataW.whole enc Tryd.prog ((laidWorld os).forCall (fun _ _ => 0) ⟨#[], #[.slice none 0 0, .slice none 0 0], []⟩).memory Tryd.f4.params.toList Rows.fnMavenSpec.vars false #[.slice none 0 0, .slice none 0 0].toList 8 = some ([.nil, .nil], [], []) := by kernel_rfl
set_option maxRecDepth 100000 in
theorem lifted (os : Os) (started : os.Started) (H : Type) (enc : TypeId × Value → H) (F : Stop.Interp) :
  ReturnsInHanded {} Tryd.checked os 4 .any ((OpenSpec.ofChange Rows.fnMavenSpec).preRow enc Tryd.prog Tryd.f4 Rows.fnMavenRow.domain false Rows.fnMavenRow.laid) (((OpenSpec.ofChange Rows.fnMavenSpec).at F).post enc Tryd.prog Tryd.f4 false true false false) := by
 refine returnsInHanded_of_row (C := Tryd.checked) (s := OpenSpec.ofChange Rows.fnMavenSpec) own started (by kernel_rfl) Tryd.func4
  (witness_row_atRef (enc := enc) (C := Tryd.checked) false (laidWorld os) #[.slice none 0 0, .slice none 0 0] (World.laidAll_os _ _ _) (by kernel_rfl) (by kernel_rfl) (by kernel_rfl)
   (OpenSpec.preRow_of_cond 8 (reads os enc) (by kernel_rfl) (fun k hk => by cases hk) (by kernel_rfl) (laid_met os))) ?_
 intro W base args ds gs before hval0 hW hcnd hk0 hsz0 hL hSh hho
 have hsz : (DataW.weightsEach Tryd.prog (Tryd.f4.params.toList ++ Rows.fnMavenSpec.plain.varTypes Tryd.prog) (ds ++ gs)).all (· ≤ reachBytes) = true := hsz0
 have hval : ∀ (j : Nat) t v, Tryd.f4.params[j]? = some t → args[j]? = some v → Value.okWide Tryd.prog W .any base t v := hval0
 have hW' := hW
 obtain ⟨p, q, hA0, hV, rfl, hfz, hnd⟩ := hW
 have hA : DataW.TrodAll enc Tryd.prog W 0 (fun _ => true) true Tryd.f4.params.toList args.toList ds p := hA0
 rw [Tryd.params4] at hA hval hsz
 obtain ⟨v0, vs0, d0, ds0, p0, q0, hargs, rfl, rfl, h0, r0⟩ := trodAll_cons hA
 obtain ⟨v1, vs1, d1, ds1, p1, q1, rfl, rfl, rfl, h1, r1⟩ := trodAll_cons r0
 obtain ⟨rfl, rfl, rfl⟩ := trodAll_nil r1
 obtain rfl : args = #[v0, v1] := by cases args; simp_all
 obtain ⟨rfl, rfl⟩ := trodVars_none hV
 obtain ⟨A0, n0, c0, rfl⟩ := okWide_slice Tryd.underlying29 (hval 0 29 v0 rfl rfl)
 have k0 := h0
 have lt0 : ∀ x ∈ p0, x.block < W.heap.size := by obtain ⟨m, hm⟩ := k0; exact DataW.trod_lt m _ _ _ hm
 obtain ⟨l0, rfl, hc0, hr0, hm0⟩ := open_slice (Opens.slice Tryd.underlying29 (by kernel_rfl) opens_k23) h0
 obtain ⟨A1, n1, c1, rfl⟩ := okWide_slice Tryd.underlying29 (hval 1 29 v1 rfl rfl)
 have k1 := h1
 have lt1 : ∀ x ∈ p1, x.block < W.heap.size := by obtain ⟨m, hm⟩ := k1; exact DataW.trod_lt m _ _ _ hm
 obtain ⟨l1, rfl, hc1, hr1, hm1⟩ := open_slice (Opens.slice Tryd.underlying29 (by kernel_rfl) opens_k23) h1
 clear hA0 hval0 hsz0 hsz
 refine (laws_FnMaven.walk Pure.FnMaven A0 c0 l0 A1 c1 l1 W hm0 hm1 hr0 hc0 hr1 hc1 (Gw.gw_of (l := Rows.fnMavenRow.laid) hL (List.Mem.head _) (List.Mem.tail _ (List.Mem.head _)) (List.Mem.tail _ (List.Mem.tail _ (List.Mem.tail _ (List.Mem.head _)))) (List.Mem.tail _ (List.Mem.tail _ (List.Mem.tail _ (List.Mem.tail _ (List.Mem.head _))))))).mono fun e W' ⟨he, bel⟩ => ?_
 subst he
 exact ⟨_, rfl, _, _, _, [], _, [], hW', trodAll_mk1 (shut_bool Tryd.underlying4 _), (trodAll_cons_mk (Below.trod laidOut (by kernel_rfl) (of_decide_eq_true (by kernel_rfl)) k0 bel lt0) (trodAll_cons_mk (Below.trod laidOut (by kernel_rfl) (of_decide_eq_true (by kernel_rfl)) k1 bel lt1) trodAll_mk0)), rfl, bel.frame _, fun h => by cases h⟩
theorem said : Rows.FnMavenSaid :=
 OpenClaim.holds_of_cond 4 Tryd.f4 rfl rfl rfl rfl rfl rfl rfl ⟨rfl, rfl, rfl, rfl, rfl⟩ rfl rfl rfl rfl rfl (by kernel_rfl) Tryd.func4 (by kernel_rfl)
  (of_decide_eq_true (by kernel_rfl)) (by unfold Func.isWrapper; first | (rw [if_pos (by decide +kernel)]; kernel_rfl) | (rw [if_neg (by decide +kernel)]; exact ⟨rfl, rfl⟩))
  (fun os started H enc _ F => by rw [OpenClaim.pre_eq_preRow]; exact lifted os started H enc F)
theorem plain (f : FuncId) (fn : Func) (hf : Tryd.pinned.checked.prog.funcNamed "pub-seniority/laws.FnMaven" = some f) (hfn : Tryd.pinned.checked.prog.funcs[f]? = some fn) :
  true = Tryd.pinned.checked.prog.looks [] ∧ ∀ (j : Nat) t, fn.params[j]? = some t → Tryd.pinned.checked.prog.wantsStandIn t = false := by
 obtain rfl : f = 4 := Option.some.inj ((show Tryd.prog.funcNamed "pub-seniority/laws.FnMaven" = some 4 by kernel_rfl).symm.trans hf) |>.symm
 obtain rfl : fn = Tryd.f4 := (Option.some.inj (Tryd.func4.symm.trans hfn)).symm
 refine ⟨by kernel_rfl, fun j t ht => ?_⟩
 rw [Tryd.params4] at ht
 have h2 : ([29, 29] : List TypeId).all (fun t => !Tryd.prog.wantsStandIn t) = true := by kernel_rfl
 have h3 := List.all_eq_true.1 h2 t (by have := Array.mem_of_getElem? ht; simpa using this)
 exact (show Tryd.prog.wantsStandIn t = false from by simpa using h3)
theorem proved : Rows.FnMavenCardSaid :=
 Claim7.holds_tied_plain_at .later [] _ _ _ _ said (fun _ h => by cases h) (by kernel_rfl) (fun _ h => by cases h) fnMaven_row_tie rfl ⟨rfl, rfl⟩ (by kernel_rfl) rfl plain (by kernel_rfl)
#print axioms proved
end Go.Proofs.YtondnpfncgcdkaaDoor.fnMaven
namespace Go.Proofs.YtondnpfncgcdkaaDoor
/-- The card, under a short name, for the claim. -/
theorem fnMaven_holds : Rows.FnMavenCardSaid := fnMaven.proved
end Go.Proofs.YtondnpfncgcdkaaDoor
