/- FnTokenLess: which of two Maven tokens is the smaller one. No condition beyond the row's own. -/
import Derived.Test.YtondnpfncgcdkaaDoorZ1
import Derived.Test.YtondnpfncgcdkaaDoorBy
import Derived.Test.YtondnpfncgcdkaaDoorZ5
import Derived.Lib.Bytealg
import Derived.Test.YtondnpfncgcdkaaDoorEv
import Derived.Test.YtondnpfncgcdkaaDoorZ4
import Derived.Test.YtondnpfncgcdkaaDoorZ6
import Derived.Test.YtondnpfncgcdkaaDoorBv
import Derived.Test.YtondnpfncgcdkaaDoorZ7
import Derived.Test.YtondnpfncgcdkaaDoorRows
import Derived.Test.YtondnpfncgcdkaaDoorOp
import Derived.Test.YtondnpfncgcdkaaDoorCards
import Derived.Test.YtondnpfncgcdkaaDoorTie
import Derived.Test.YtondnpfncgcdkaaDoorGn
import Derived.Deep.DeepHandedRow
import Derived.Deep.DeepWitnessRowRef
import Derived.Lay
import Derived.WalkKit
import Derived.ProofKit
import Derived.OpenShut
import Derived.ShutString
import Derived.ChangeOld
import Derived.Below
import Derived.SizedLaws
namespace Go.Proofs.YtondnpfncgcdkaaDoor.Com
open Go.RowKit Go.Proofs.YtondnpfncgcdkaaDoor.Z Go.Proofs.YtondnpfncgcdkaaDoor.Evs Go.Proofs.YtondnpfncgcdkaaDoor.By Go.Proofs.YtondnpfncgcdkaaDoorW.PrintWords Go.Proofs.YtondnpfncgcdkaaDoorW.PrintLast
set_option linter.unusedVariables false
set_option linter.unusedSimpArgs false

theorem isDigit_f (c : UInt8) : spec_isDigit.f (c.toNat : Int) = some (dg c) := by
 unfold spec_isDigit.f dg
 by_cases h : (c.toNat : Int) ≥ 48
 ·rw [if_pos h]
  congr 1
  rw [Bool.eq_iff_iff, decide_eq_true_eq, decide_eq_true_eq]
  omega
 ·rw [if_neg h]
  congr 1
  symm
  rw [decide_eq_false_iff_not]
  omega
/-- Digits alone, one at least. -/
def allD (l : List UInt8) : Bool := l.all dg && decide (0 < l.length)
theorem digits_l (l : List UInt8) (hl : l.length ≤ 140737488351232) (d : Nat) : ∀ i : Nat, i + d = l.length → Ev (fun k => spec_allDigits.l0 k (ofL l) (i : Int)) ((l.drop i).all dg && decide (0 < l.length)) := by
 have hs := ofL_size l
 induction d with
 | zero =>
  intro i h
  refine Ev.step (fun _ => by rw [spec_allDigits.l0]) (ev_neg (by omega) (ev_now ?_))
  rw [List.drop_of_length_le (by omega), hs]
  simp
 | succ d ih =>
  intro i h
  have hc := bt_ofL l i (by omega)
  refine Ev.step (fun _ => by rw [spec_allDigits.l0, hc, isDigit_f, Option.bind_some, wrap_nat (by omega)]) (ev_pos (by omega) (ev_pos (by omega) ?_))
  rw [List.drop_eq_getElem_cons (by omega), List.all_cons]
  cases e : dg (l[i]'(by omega)) with
  | true => exact ev_t (by simpa using ih (i + 1) (by omega))
  | false => exact ev_f (ev_now (by simp))
theorem digits_ev (l : List UInt8) (hl : l.length ≤ 140737488351232) : Ev (fun k => spec_allDigits.f k (ofL l)) (allD l) := digits_l l hl l.length 0 (by omega)
end Go.Proofs.YtondnpfncgcdkaaDoor.Com

namespace Go.Proofs.YtondnpfncgcdkaaDoor.Com
open Go Go.RowKit Go.Proofs.YtondnpfncgcdkaaDoor.Z Go.Proofs.YtondnpfncgcdkaaDoor.Evs Go.Proofs.YtondnpfncgcdkaaDoor.By Go.Proofs.YtondnpfncgcdkaaDoorW.PrintWords Go.Proofs.YtondnpfncgcdkaaDoorW.PrintLast
set_option linter.unusedVariables false
set_option linter.unusedSimpArgs false

def cmpI (a b : Int) : Int := if a < b then -1 else if b < a then 1 else 0
theorem orderI_f (a b : Int) : spec_orderInts.f a b = some (cmpI a b) := by
 unfold spec_orderInts.f cmpI
 split
 ·rfl
 ·split
  ·rfl
  ·rfl
theorem bless : ∀ a b : List UInt8, Op.bytesLess a b = decide (Lib.compareBytes a b = -1)
 | [], [] => rfl
 | [], _ :: _ => rfl
 | _ :: _, [] => rfl
 | x :: a, y :: b => by
  rw [Op.bytesLess, Lib.compareBytes, bless a b]
  by_cases h : x < y
  ·rw [if_pos h]
   simp [h]
  ·rw [if_neg h]
   by_cases h2 : y < x
   ·rw [if_pos h2]
    have : ¬ x = y := fun e => by subst e; exact h h2
    simp [h, this]
   ·rw [if_neg h2]
    have : x = y := UInt8.toNat_inj.1 (by have h : ¬ x.toNat < y.toNat := h; have h2 : ¬ y.toNat < x.toNat := h2; omega)
    subst this
    simp [h]
theorem cmpB_range : ∀ a b : List UInt8, Lib.compareBytes a b = -1 ∨ Lib.compareBytes a b = 0 ∨ Lib.compareBytes a b = 1
 | [], [] => .inr (.inl rfl)
 | [], _ :: _ => .inl rfl
 | _ :: _, [] => .inr (.inr rfl)
 | x :: a, y :: b => by
  rw [Lib.compareBytes]
  split
  ·exact .inl rfl
  ·split
   ·exact .inr (.inr rfl)
   ·exact cmpB_range a b
theorem cmpB_anti : ∀ a b : List UInt8, Lib.compareBytes b a = -Lib.compareBytes a b
 | [], [] => rfl
 | [], _ :: _ => rfl
 | _ :: _, [] => rfl
 | x :: a, y :: b => by
  rw [Lib.compareBytes, Lib.compareBytes, cmpB_anti a b]
  by_cases h : x < y
  ·have h2 : ¬ y < x := fun h2 => by have h : x.toNat < y.toNat := h; have h2 : y.toNat < x.toNat := h2; omega
   rw [if_pos h, if_neg h2, if_pos h]; rfl
  ·by_cases h2 : y < x
   ·rw [if_pos h2, if_neg h, if_pos h2]
   ·rw [if_neg h2, if_neg h, if_neg h, if_neg h2]
theorem order_f (a b : List UInt8) : spec_order.f (ofL a) (ofL b) = some (Lib.compareBytes a b) := by
 unfold spec_order.f
 rw [toList_ofL, toList_ofL, bless, bless, cmpB_anti a b]
 rcases cmpB_range a b with h | h | h <;> rw [h] <;> rfl
/-- Digits without the zeros ahead. -/
def stripZ (l : List UInt8) : List UInt8 := l.dropWhile (· == 48)
def cmpD (a b : List UInt8) : Int := if (stripZ a).length = (stripZ b).length then Lib.compareBytes (stripZ a) (stripZ b) else cmpI ((stripZ a).length : Int) ((stripZ b).length : Int)
theorem strip_not (c : UInt8) (l : List UInt8) (e : ¬ c = 48) : stripZ (c :: l) = c :: l := by
 rw [stripZ, List.dropWhile_cons, if_neg (by simpa using e)]
theorem ext1 (c : UInt8) (r : List UInt8) : (ofL (c :: r)).extract 1 (ofL (c :: r)).size = ofL r := by
 rw [ofL_size, ofL_extract, List.take_length]
 rfl
theorem onum3 (a b : List UInt8) : Ev (fun k => spec_orderNumbers.j3 k (ofL a) (ofL b)) (if a.length = b.length then Lib.compareBytes a b else cmpI (a.length : Int) (b.length : Int)) := by
 refine Ev.step (fun _ => by rw [spec_orderNumbers.j3, ofL_size, ofL_size, order_f, orderI_f]) ?_
 by_cases h : a.length = b.length
 ·rw [if_pos h]
  exact ev_pos (by omega) (ev_now rfl)
 ·rw [if_neg h]
  exact ev_neg (by omega) (ev_now rfl)
theorem onum1 (a : List UInt8) : ∀ (b : List UInt8), b.length ≤ 140737488351232 → Ev (fun k => spec_orderNumbers.l1 k (ofL a) (ofL b)) (if a.length = (stripZ b).length then Lib.compareBytes a (stripZ b) else cmpI (a.length : Int) ((stripZ b).length : Int))
 | [], _ => Ev.step (fun _ => by rw [spec_orderNumbers.l1]) (ev_neg (by rw [ofL_size]; simp) (onum3 a []))
 | c :: b, h => by
  have hb : bt (ofL (c :: b)) 0 = (c.toNat : Int) := bt_ofL (c :: b) 0 (by simp)
  have hs := ofL_size (c :: b)
  have hl : (c :: b).length = b.length + 1 := rfl
  refine Ev.step (fun _ => by rw [spec_orderNumbers.l1, hb, ext1]) (ev_pos (by omega) (ev_pos (by omega) ?_))
  by_cases e : c = 48
  ·subst e
   refine ev_pos rfl (ev_pos (by omega) ?_)
   have := onum1 a b (by omega)
   rw [show stripZ (48 :: b) = stripZ b from rfl]
   exact this
  ·refine ev_neg (fun h => e (UInt8.toNat_inj.1 (by have : (48 : UInt8).toNat = 48 := rfl; omega))) ?_
   rw [strip_not c b e]
   exact onum3 a (c :: b)
theorem onum0 (b : List UInt8) (hb0 : b.length ≤ 140737488351232) : ∀ (a : List UInt8), a.length ≤ 140737488351232 → Ev (fun k => spec_orderNumbers.l0 k (ofL a) (ofL b)) (cmpD a b)
 | [], _ => Ev.step (fun _ => by rw [spec_orderNumbers.l0]) (ev_neg (by rw [ofL_size]; simp) (Ev.step (fun _ => by rw [spec_orderNumbers.j1]) (onum1 [] b hb0)))
 | c :: a, h => by
  have hb : bt (ofL (c :: a)) 0 = (c.toNat : Int) := bt_ofL (c :: a) 0 (by simp)
  have hs := ofL_size (c :: a)
  have hl : (c :: a).length = a.length + 1 := rfl
  refine Ev.step (fun _ => by rw [spec_orderNumbers.l0, hb, ext1]) (ev_pos (by omega) (ev_pos (by omega) ?_))
  by_cases e : c = 48
  ·subst e
   refine ev_pos rfl (ev_pos (by omega) ?_)
   have := onum0 b hb0 a (by omega)
   rw [cmpD, show stripZ (48 :: a) = stripZ a from rfl]
   exact this
  ·refine ev_neg (fun h => e (UInt8.toNat_inj.1 (by have : (48 : UInt8).toNat = 48 := rfl; omega))) ?_
   rw [cmpD, strip_not c a e]
   exact Ev.step (fun _ => by rw [spec_orderNumbers.j1]) (onum1 (c :: a) b hb0)
theorem orderNumbers_ev (a b : List UInt8) (ha : a.length ≤ 140737488351232) (hb : b.length ≤ 140737488351232) : Ev (fun k => spec_orderNumbers.f k (ofL a) (ofL b)) (cmpD a b) := onum0 b hb a ha
end Go.Proofs.YtondnpfncgcdkaaDoor.Com

namespace Go.Proofs.YtondnpfncgcdkaaDoor.Com
open Go.RowKit Go.Proofs.YtondnpfncgcdkaaDoor.Z Go.Proofs.YtondnpfncgcdkaaDoor.Evs Go.Proofs.YtondnpfncgcdkaaDoorW.PrintWords Go.Proofs.YtondnpfncgcdkaaDoorW.PrintLast
set_option linter.unusedVariables false
set_option linter.unusedSimpArgs false

/-- Ascii: an answer; where it is true every byte is below 128. -/
theorem ascii_l (s : ByteArray) (hs : s.size ≤ 140737488351232) (d : Nat) : ∀ i : Nat, i + d = s.size → ∃ r, Ev (fun k => spec_Ascii.l0 k s (i : Int)) r ∧ (r = true → ∀ j : Nat, i ≤ j → (h : j < s.size) → (s[j]'h).toNat < 128) := by
 induction d with
 | zero => intro i h; exact ⟨true, Ev.step (fun _ => by rw [spec_Ascii.l0]) (ev_neg (by omega) (Ev.now _)), fun _ j h1 h2 => by omega⟩
 | succ d ih =>
  intro i h
  obtain ⟨r, hr, hq⟩ := ih (i + 1) (by omega)
  have hb := bt_nat s i (by omega)
  by_cases c : bt s (i : Int) > 127
  ·exact ⟨false, Ev.step (fun _ => by rw [spec_Ascii.l0]) (ev_pos (by omega) (ev_pos (by omega) (ev_pos c (Ev.now _)))), fun h => by cases h⟩
  ·refine ⟨r, Ev.step (fun _ => by rw [spec_Ascii.l0, wrap_nat (by omega)]) (ev_pos (by omega) (ev_pos (by omega) (ev_neg c hr))), fun h j h1 h2 => ?_⟩
   by_cases e : j = i
   ·subst e; omega
   ·exact hq h j (by omega) h2
theorem ascii_ev (s : ByteArray) (hs : s.size ≤ 140737488351232) : ∃ r, Ev (fun k => spec_Ascii.f k s) r ∧ (r = true → ∀ j : Nat, (h : j < s.size) → (s[j]'h).toNat < 128) := by
 obtain ⟨r, hr, hq⟩ := ascii_l s hs s.size 0 (by omega)
 exact ⟨r, hr, fun h j hj => hq h j (by omega) hj⟩
end Go.Proofs.YtondnpfncgcdkaaDoor.Com

namespace Go.Proofs.YtondnpfncgcdkaaDoor.Cm
open Go Go.RowKit Go.Proofs.YtondnpfncgcdkaaDoor.Z Go.Proofs.YtondnpfncgcdkaaDoor.Gw Go.Proofs.YtondnpfncgcdkaaDoor.Evs Go.Proofs.YtondnpfncgcdkaaDoor.By Go.Proofs.YtondnpfncgcdkaaDoor.Ss Go.Proofs.YtondnpfncgcdkaaDoor.Com Go.Proofs.YtondnpfncgcdkaaDoorW.PrintWords Go.Proofs.YtondnpfncgcdkaaDoorW.PrintLast
set_option linter.unusedVariables false
set_option linter.unusedSimpArgs false
/-- A value that something is said of: digits, or nothing, or a small letter first. -/
def low1 (c : UInt8) : Prop := 97 ≤ c.toNat ∧ c.toNat ≤ 122
def TV (l : List UInt8) : Prop := allD l = true ∨ l = [] ∨ ∃ c r, l = c :: r ∧ low1 c
theorem allD_cons {c : UInt8} {r : List UInt8} (h : allD (c :: r) = true) : dg c = true := by
 unfold allD at h
 rw [Bool.and_eq_true] at h
 exact List.all_eq_true.1 h.1 c (by simp)
theorem sg_of {l : List UInt8} (h : TV l) : sgN (ofL l) = 0 ∧ sgB (ofL l) = false := by
 cases l with
 | nil =>
  unfold sgN sgB
  rw [dif_neg (by decide), dif_neg (by decide)]
  exact ⟨rfl, rfl⟩
 | cons c r =>
  have h0 : 0 < (ofL (c :: r)).size := by rw [ofL_size]; simp
  have hg : (ofL (c :: r))[0]'h0 = c := rfl
  have hc : ¬ c = 45 ∧ ¬ c = 43 := by
   rcases h with h | h | ⟨d, s, e, hd⟩
   ·have hd := allD_cons h
    exact ⟨fun e => by subst e; revert hd; decide, fun e => by subst e; revert hd; decide⟩
   ·cases h
   ·cases e
    unfold low1 at hd
    exact ⟨fun e => by subst e; revert hd; decide, fun e => by subst e; revert hd; decide⟩
  unfold sgN sgB
  rw [dif_pos h0, dif_pos h0, hg, if_neg (by simp [hc.1, hc.2])]
  exact ⟨rfl, beq_eq_false_iff_ne.2 hc.1⟩
theorem cvtK {l : List UInt8} (h : TV l) : cvt (ofL l) = if allD l = true then some (Bv.decV l) else none := by
 obtain ⟨h1, h2⟩ := sg_of h
 unfold cvt
 rw [h1, h2, bl_ofL, List.drop_zero]
 unfold allD
 by_cases hd : l = []
 ·subst hd
  rfl
 ·by_cases ha : l.all dg = true
  ·rw [if_pos ⟨hd, ha⟩, ha, decide_eq_true (List.length_pos_iff.2 hd)]
   rfl
  ·rw [if_neg (fun hh => ha hh.2), if_neg (fun hh => ha (Bool.and_eq_true _ _ ▸ hh).1)]
/-! words -/
theorem kw_l (s : ByteArray) (d : Nat) : ∀ i : Nat, i + d = 7 → Ev (fun k => spec_Keyword.l0 k s kws (i : Int)) (kwFrom s (kws.drop i) i) := by
 have hl : (kws.length : Int) = 7 := rfl
 induction d with
 | zero =>
  intro i h
  obtain rfl : i = 7 := by omega
  have he : kwFrom s (kws.drop 7) 7 = 7 := rfl
  rw [he]
  exact Ev.step (fun _ => by rw [spec_Keyword.l0, hl]) (ev_neg (by omega) (Ev.now _))
 | succ d ih =>
  intro i h
  rw [kw_drop s i (by omega)]
  have hr : rdOf ByteArray.empty kws (i : Int) = kwAt i := by rw [rdOf_nat]; rfl
  by_cases c : (kwAt i).toList = s.toList
  ·rw [if_pos (by simpa using c)]
   exact Ev.step (fun _ => by rw [spec_Keyword.l0, hl, hr]) (ev_pos (by omega) (ev_pos (by omega) (ev_pos c (Ev.now _))))
  ·rw [if_neg (by simpa using c)]
   exact Ev.step (fun _ => by rw [spec_Keyword.l0, hl, hr, wrap_nat (by omega)]) (ev_pos (by omega) (ev_pos (by omega) (ev_neg c (ih (i + 1) (by omega)))))
theorem kw_ev (s : ByteArray) : Ev (fun k => spec_Keyword.f k s) (kwI s) := kw_l s 7 0 (by omega)
theorem kw_range (s : ByteArray) : ∀ (l : List ByteArray) (i : Nat), (i : Int) ≤ kwFrom s l i ∧ kwFrom s l i ≤ (i : Int) + l.length
 | [], i => by unfold kwFrom; simp
 | x :: l, i => by
  have h := kw_range s l (i + 1)
  unfold kwFrom
  rw [List.length_cons]
  split <;> omega
theorem kw_at (s : ByteArray) : ∀ (l : List ByteArray) (i n : Nat), kwFrom s l i = ((i + n : Nat) : Int) → n < l.length → (l.getD n ByteArray.empty).toList = s.toList
 | [], i, n, _, hn => by simp at hn
 | x :: l, i, n, h, hn => by
  unfold kwFrom at h
  by_cases e : (x.toList == s.toList) = true
  ·rw [if_pos e] at h
   obtain rfl : n = 0 := by omega
   simpa using e
  ·rw [if_neg e] at h
   have hr := kw_range s l (i + 1)
   cases n with
   | zero => omega
   | succ n =>
    have := kw_at s l (i + 1) n (by rw [h]; omega) (by simpa using hn)
    simpa using this
theorem kwI_range (s : ByteArray) : 0 ≤ kwI s ∧ kwI s ≤ 7 := by
 have h := kw_range s kws 0
 have hl : (kws.length : Int) = 7 := rfl
 unfold kwI
 omega
theorem kwI_same {s t : ByteArray} (h : kwI s = kwI t) (h7 : ¬ kwI s = 7) : s.toList = t.toList := by
 obtain ⟨h1, h2⟩ := kwI_range s
 obtain ⟨n, hn⟩ := Int.eq_ofNat_of_zero_le h1
 have a := kw_at s kws 0 n (by rw [Nat.zero_add]; exact hn) (by show n < 7; omega)
 have b := kw_at t kws 0 n (by rw [Nat.zero_add]; exact h.symm.trans hn) (by show n < 7; omega)
 rw [← a, ← b]
theorem kw_zero : kwI (ofL [48]) = 7 := by decide +kernel
theorem kw_nil : kwI (ofL []) = 5 := by decide +kernel
theorem kw_sp : kwI (⟨#[115, 112]⟩ : ByteArray) = 6 := by decide +kernel
/-! two tokens -/
def toT (p v : ByteArray) : Int × Bool := if p.toList = [45] then (if allD (bl v) = true then 2 else 1, true) else if p.toList = [46] then (if allD (bl v) = true then 3 else 0, true) else (0, false)
def qC (v u : ByteArray) : Int := if kwI v = kwI u then Lib.compareBytes (bl v) (bl u) else cmpI (kwI v) (kwI u)
def mo (p v : ByteArray) (n : Bool) (q u : ByteArray) (m : Bool) : Int × Bool :=
 if p.toList = q.toList then
  (if allD (bl v) = true then (if allD (bl u) = true then cmpD (bl v) (bl u) else if n = true ∧ kwI u > 6 then -1 else 1)
   else if allD (bl u) = true then (if m = true ∧ kwI v > 6 then 1 else -1) else qC v u, true)
 else (cmpI (toT p v).1 (toT q u).1, (toT p v).2 && (toT q u).2)
theorem dig_ev (v : ByteArray) (hv : v.size ≤ 1000000) : Ev (fun k => spec_allDigits.f k v) (allD (bl v)) := by
 have := digits_ev (bl v) (by rw [bl_length]; omega)
 rwa [ofL_bl] at this
theorem ord2 (p v : ByteArray) (n b : Bool) : Ev (fun k => spec_TokenOrder.j2 k b p v n) (if b = true then (2, true) else if p.toList = [45] then (1, true) else (0, false)) := by
 refine Ev.step (fun _ => by rw [spec_TokenOrder.j2]) ?_
 cases b with
 | true => exact ev_t (ev_now rfl)
 | false =>
  refine ev_f ?_
  rw [if_neg Bool.false_ne_true]
  by_cases e : p.toList = [45]
  ·exact ev_pos e (ev_now (if_pos e).symm)
  ·exact ev_neg e (ev_now (if_neg e).symm)
theorem ord1 (p v : ByteArray) (n x b : Bool) : Ev (fun k => spec_TokenOrder.j1 k x b p v n) (if b = true then (0, true) else if p.toList = [45] then (if x = true then 2 else 1, true) else (0, false)) := by
 refine Ev.step (fun _ => by rw [spec_TokenOrder.j1]) ?_
 cases b with
 | true => exact ev_t (ev_now rfl)
 | false =>
  refine ev_f ?_
  rw [if_neg Bool.false_ne_true]
  by_cases e : p.toList = [45]
  ·refine ev_pos e (ev_eq (ord2 p v n x) ?_)
   rw [if_pos e, if_pos e]
   cases x <;> rfl
  ·refine ev_neg e (ev_eq (ord2 p v n false) ?_)
   rw [if_neg e, if_neg e]
   rfl
theorem ord0 (p v : ByteArray) (n x b : Bool) : Ev (fun k => spec_TokenOrder.j0 k x b p v n) (if b = true then (3, true) else if p.toList = [46] then (if x = false then (0, true) else if p.toList = [45] then (2, true) else (0, false)) else if p.toList = [45] then (if x = true then 2 else 1, true) else (0, false)) := by
 refine Ev.step (fun _ => by rw [spec_TokenOrder.j0]) ?_
 cases b with
 | true => exact ev_t (ev_now rfl)
 | false =>
  refine ev_f ?_
  rw [if_neg Bool.false_ne_true]
  by_cases e : p.toList = [46]
  ·refine ev_pos e (ev_eq (ord1 p v n x (!x)) ?_)
   rw [if_pos e]
   cases x <;> rfl
  ·refine ev_neg e (ev_eq (ord1 p v n x false) ?_)
   rw [if_neg e]
   rfl
theorem order_ev (p v : ByteArray) (n : Bool) (hv : v.size ≤ 1000000) : Ev (fun k => spec_TokenOrder.f k p v n) (toT p v) := by
 have hd := dig_ev v hv
 unfold spec_TokenOrder.f
 refine Ev.bind hd ?_
 unfold toT
 by_cases e1 : p.toList = [46]
 ·have n46 : ¬ p.toList = [45] := fun h => by rw [e1] at h; revert h; decide
  refine ev_pos e1 (ev_eq (ord0 p v n _ _) ?_)
  rw [if_pos e1, if_neg n46, if_neg n46, if_pos e1]
  cases allD (bl v) <;> rfl
 ·refine ev_neg e1 (ev_eq (ord0 p v n _ _) ?_)
  rw [if_neg Bool.false_ne_true, if_neg e1, if_neg e1]
theorem qual_ev (v u : ByteArray) : Ev (fun k => spec_mavenQualifiers.f k v u) (qC v u) := by
 have ho : spec_order.f v u = some (Lib.compareBytes (bl v) (bl u)) := order_f (bl v) (bl u)
 unfold spec_mavenQualifiers.f qC
 refine Ev.bind (kw_ev v) (Ev.bind (kw_ev u) ?_)
 by_cases e : kwI v = kwI u
 ·rw [ho]
  exact ev_pos e (ev_now (if_pos e).symm)
 ·rw [orderI_f]
  exact ev_neg e (ev_now (if_neg e).symm)
theorem one_ev (p v : ByteArray) (n : Bool) (q u : ByteArray) (m : Bool) (hv : v.size ≤ 1000000) (hu : u.size ≤ 1000000) : Ev (fun k => spec_mavenOne.f k p v n q u m) (mo p v n q u m) := by
 have hd := dig_ev v hv
 have hd2 := dig_ev u hu
 have ho : Ev (fun k => spec_orderNumbers.f k v u) (cmpD (bl v) (bl u)) := by
  have := orderNumbers_ev (bl v) (bl u) (by rw [bl_length]; omega) (by rw [bl_length]; omega)
  rwa [ofL_bl, ofL_bl] at this
 have hs : Ev (fun k => spec_Keyword.f k (⟨#[115, 112]⟩ : ByteArray)) 6 := ev_eq (kw_ev _) kw_sp
 unfold spec_mavenOne.f mo
 refine Ev.bind hd (Ev.bind hd2 ?_)
 by_cases e : p.toList = q.toList
 ·rw [if_pos e]
  refine ev_pos e ?_
  cases hx : allD (bl v) with
  | true =>
   cases hy : allD (bl u) with
   | true =>
    rw [if_pos rfl, if_pos rfl]
    exact ev_t (Ev.step (fun _ => by rw [spec_mavenOne.j0]) (ev_t (Ev.bind ho (ev_now rfl))))
   | false =>
    rw [if_pos rfl, if_neg (by decide)]
    refine ev_t (Ev.step (fun _ => by rw [spec_mavenOne.j0]) (ev_f (ev_t (Ev.step (fun _ => by rw [spec_mavenOne.j1]) (ev_f (ev_t ?_))))))
    have rest : Ev (fun k => spec_mavenOne.j2 k true false false p v n q u m) (1, true) := by
     refine Ev.step (fun _ => by rw [spec_mavenOne.j2]) (ev_f (ev_f ?_))
     exact Ev.step (fun _ => by rw [spec_mavenOne.j3]) (ev_f (ev_t (ev_now rfl)))
    cases n with
    | false =>
     rw [if_neg (fun h => by cases h.1)]
     exact ev_f rest
    | true =>
     refine ev_t (Ev.bind (kw_ev u) (Ev.bind hs ?_))
     by_cases hk : kwI u > 6
     ·rw [if_pos ⟨rfl, hk⟩, decide_eq_true hk]
      exact Ev.step (fun _ => by rw [spec_mavenOne.j2]) (ev_t (ev_now rfl))
     ·rw [if_neg (fun h => hk h.2), decide_eq_false hk]
      exact rest
  | false =>
   rw [if_neg (by decide)]
   cases hy : allD (bl u) with
   | true =>
    rw [if_pos rfl]
    refine ev_f (Ev.step (fun _ => by rw [spec_mavenOne.j0]) ?_)
    refine ev_f (ev_f ?_)
    show Ev (fun k => spec_mavenOne.j1 k false true false p v n q u m) _
    refine Ev.step (fun _ => by rw [spec_mavenOne.j1]) ?_
    refine ev_f (ev_f ?_)
    refine Ev.step (fun _ => by rw [spec_mavenOne.j2]) ?_
    refine ev_f (ev_t ?_)
    have rest : Ev (fun k => spec_mavenOne.j3 k false false) (-1, true) := Ev.step (fun _ => by rw [spec_mavenOne.j3]) (ev_f (ev_f (ev_now rfl)))
    cases m with
    | false =>
     rw [if_neg (fun h => by cases h.1)]
     exact ev_f rest
    | true =>
     refine ev_t (Ev.bind (kw_ev v) (Ev.bind hs ?_))
     by_cases hk : kwI v > 6
     ·rw [if_pos ⟨rfl, hk⟩, decide_eq_true hk]
      exact Ev.step (fun _ => by rw [spec_mavenOne.j3]) (ev_t (ev_now rfl))
     ·rw [if_neg (fun h => hk h.2), decide_eq_false hk]
      exact rest
   | false =>
    rw [if_neg (by decide)]
    refine ev_f (Ev.step (fun _ => by rw [spec_mavenOne.j0]) ?_)
    refine ev_f (ev_f ?_)
    show Ev (fun k => spec_mavenOne.j1 k false false true p v n q u m) _
    refine Ev.step (fun _ => by rw [spec_mavenOne.j1]) ?_
    exact ev_t (Ev.bind (qual_ev v u) (ev_now rfl))
 ·rw [if_neg e]
  have h1 := order_ev p v n hv
  have h2 := order_ev q u m hu
  refine ev_neg e (Ev.bind h1 (Ev.bind h2 ?_))
  rw [orderI_f]
  cases hb : (toT p v).2 with
  | true => exact ev_some (ev_t (ev_now rfl))
  | false => exact ev_some (ev_f (ev_now rfl))
theorem cmpD_zero {a b : List UInt8} (ha : allD a = true) (hb : allD b = true) : cmpD a b = Bn.cmpZ (Bv.decV a) (Bv.decV b) := by
 unfold allD at ha hb
 rw [Bool.and_eq_true] at ha hb
 exact Bv.dec_cmp a b ha.1 hb.1
theorem cmpZ_rng (a b : Int) : Bn.cmpZ a b = -1 ∨ Bn.cmpZ a b = 0 ∨ Bn.cmpZ a b = 1 := by
 unfold Bn.cmpZ
 split
 ·simp
 ·split <;> simp
theorem cmpZ_neg (a b : Int) : Bn.cmpZ b a = -Bn.cmpZ a b := by
 unfold Bn.cmpZ
 rcases Int.lt_trichotomy a b with h | h | h
 ·rw [if_neg (by omega), if_pos h, if_pos h]
  rfl
 ·rw [if_neg (by omega), if_neg (by omega), if_neg (by omega), if_neg (by omega)]
  rfl
 ·rw [if_pos h, if_neg (by omega), if_pos h]
theorem cmpI_neg (a b : Int) : cmpI b a = -cmpI a b := cmpZ_neg a b
theorem cmpI_lt (a b : Int) : decide (cmpI a b < 0) = decide (a < b) := by
 unfold cmpI
 split
 ·rename_i h
  rw [decide_eq_true h]
  rfl
 ·rename_i h
  rw [decide_eq_false h]
  split <;> rfl
theorem qC_neg (v u : ByteArray) : qC u v = -qC v u := by
 unfold qC
 by_cases e : kwI v = kwI u
 ·rw [if_pos e.symm, if_pos e]
  exact cmpB_anti _ _
 ·rw [if_neg (fun h => e h.symm), if_neg e]
  exact cmpI_neg _ _
theorem mo_neg (p v : ByteArray) (n : Bool) (q u : ByteArray) (m : Bool) : (mo q u m p v n).1 = -(mo p v n q u m).1 ∧ (mo q u m p v n).2 = (mo p v n q u m).2 := by
 unfold mo
 by_cases e : p.toList = q.toList
 ·rw [if_pos e, if_pos e.symm]
  refine ⟨?_, rfl⟩
  cases hx : allD (bl v) <;> cases hy : allD (bl u)
  ·exact qC_neg v u
  ·by_cases c : m = true ∧ kwI v > 6
   ·simp [c]
   ·simp [c]
  ·by_cases c : n = true ∧ kwI u > 6
   ·simp [c]
   ·simp [c]
  ·rw [if_pos rfl, if_pos rfl, if_pos rfl, if_pos rfl, cmpD_zero hx hy, cmpD_zero hy hx]
   exact cmpZ_neg _ _
 ·rw [if_neg e, if_neg (fun h => e h.symm)]
  exact ⟨cmpI_neg _ _, Bool.and_comm _ _⟩
/-- A token's value, and what a filled one has. -/
structure TkK (v : ByteArray) (n : Bool) : Prop where
 tv : TV (bl v)
 sz : v.size ≤ 1000000
 nl : n = true → bl v = [48] ∨ bl v = []
theorem letter_gt {v : ByteArray} (h : TV (bl v)) (hd : allD (bl v) = false) (hk : kwI v = 7) : Lib.compareBytes [48] (bl v) = -1 := by
 rcases h with h | h | ⟨c, r, e, hc⟩
 ·rw [hd] at h
  cases h
 ·exfalso
  have : v = ofL [] := by rw [← ofL_bl v, h]
  rw [this, kw_nil] at hk
  cases hk
 ·rw [e, Lib.compareBytes]
  unfold low1 at hc
  have : (48 : UInt8) < c := by
   show (48 : UInt8).toNat < c.toNat
   have : (48 : UInt8).toNat = 48 := rfl
   omega
  rw [if_pos this]
theorem zero_of {v : ByteArray} {n : Bool} (h : TkK v n) (hn : n = true) (hd : allD (bl v) = true) : v = ofL [48] := by
 rcases h.nl hn with e | e
 ·rw [← ofL_bl v, e]
 ·rw [e] at hd
  cases hd
theorem bl_lt (v u : ByteArray) : Op.bytesLess v.toList u.toList = decide (Lib.compareBytes (bl v) (bl u) < 0) := by
 rw [toList_bl, toList_bl, bless]
 rcases cmpB_range (bl v) (bl u) with h | h | h <;> rw [h] <;> rfl
theorem kwL_qC {v u : ByteArray} : kwL v u = decide (qC v u < 0) := by
 have r1 := kwI_range v
 have r2 := kwI_range u
 unfold kwL qC
 by_cases e : kwI v = kwI u
 ·rw [if_pos e]
  by_cases h7 : kwI v = 7
  ·rw [if_pos ⟨h7, by omega⟩]
   exact bl_lt v u
  ·have hs := kwI_same e h7
   rw [toList_bl, toList_bl] at hs
   have h0 : Lib.compareBytes (bl u) (bl u) = 0 := by have := cmpB_anti (bl u) (bl u); omega
   rw [if_neg (fun h => h7 h.1), hs, h0, e]
   simp
 ·rw [if_neg e, if_neg (fun h => e (h.1.trans h.2.symm)), cmpI_lt]
theorem qoT_toT {p v : ByteArray} {n : Bool} (h : TkK v n) : qoT p v = if (toT p v).2 = true then some (toT p v).1 else none := by
 have hc := cvtK h.tv
 rw [ofL_bl] at hc
 unfold qoT toT
 rw [hc]
 by_cases e1 : p.toList = [45]
 ·rw [if_pos e1, if_pos e1]
  cases allD (bl v) <;> rfl
 ·rw [if_neg e1, if_neg e1]
  by_cases e2 : p.toList = [46]
  ·rw [if_pos e2, if_pos e2]
   cases allD (bl v) <;> rfl
  ·rw [if_neg e2, if_neg e2]
   rfl
theorem less_mo {p v : ByteArray} {n : Bool} {q u : ByteArray} {m : Bool} (hv : TkK v n) (hu : TkK u m) : tkLess p v n q u m = if (mo p v n q u m).2 = true then some (decide ((mo p v n q u m).1 < 0)) else none := by
 have c1 := cvtK hv.tv
 have c2 := cvtK hu.tv
 rw [ofL_bl] at c1 c2
 unfold tkLess mo
 by_cases e : p.toList = q.toList
 ·rw [if_pos e, if_pos e, if_pos rfl, c1, c2]
  cases hx : allD (bl v) <;> cases hy : allD (bl u)
  ·simp only [Bool.false_eq_true, if_false]
   rw [kwL_qC]
  ·simp only [Bool.false_eq_true, if_false, if_true]
   cases hm : m with
   | false => simp
   | true =>
    have hz := zero_of hu hm hy
    have hz7 : kwI u = 7 := by rw [hz]; exact kw_zero
    have r1 := kwI_range v
    simp only [if_true, true_and]
    by_cases h7 : kwI v = 7
    ·have hb := letter_gt hv.tv hx h7
     have hl : kwL v u = false := by
      unfold kwL
      rw [if_pos ⟨h7, hz7⟩, bl_lt, cmpB_anti, hz, bl_ofL, hb]
      rfl
     rw [hl, if_pos (by omega)]
     rfl
    ·have hl : kwL v u = true := by
      unfold kwL
      rw [if_neg (fun h => h7 h.1)]
      exact decide_eq_true (by omega)
     rw [hl, if_neg (by omega)]
     rfl
  ·simp only [Bool.false_eq_true, if_false, if_true]
   cases hn : n with
   | false => simp
   | true =>
    have hz := zero_of hv hn hx
    have hz7 : kwI v = 7 := by rw [hz]; exact kw_zero
    have r1 := kwI_range u
    simp only [if_true, true_and]
    by_cases h7 : kwI u = 7
    ·have hb := letter_gt hu.tv hy h7
     have hl : kwL v u = true := by
      unfold kwL
      rw [if_pos ⟨hz7, h7⟩, bl_lt, hz, bl_ofL, hb]
      rfl
     rw [hl, if_pos (by omega)]
     rfl
    ·have hl : kwL v u = false := by
      unfold kwL
      rw [if_neg (fun h => h7 h.2)]
      exact decide_eq_false (by omega)
     rw [hl, if_neg (by omega)]
     rfl
  ·simp only [if_true]
   rw [cmpD_zero hx hy]
   rcases cmpZ_rng (Bv.decV (bl v)) (Bv.decV (bl u)) with h | h | h <;> rw [h] <;> rfl
 ·rw [if_neg e, if_neg e]
  unfold ltQ
  rw [qoT_toT hv, qoT_toT hu]
  obtain ⟨a, b⟩ := toT p v
  obtain ⟨c, d⟩ := toT q u
  cases b with
  | false => rfl
  | true =>
   cases d with
   | false => rfl
   | true =>
    show some (decide (a < c)) = some (decide (cmpI a c < 0))
    rw [cmpI_lt]
/-- A token that something is said of. -/
theorem known_ev (p v : ByteArray) (n : Bool) (hv : v.size ≤ 1000000) : ∃ r, Ev (fun k => spec_TokenKnown.f k p v n) r ∧ (r = true → n = false ∧ TkK v false ∧ (p.toList = [] ∨ p.toList = [46] ∨ p.toList = [45]) ∧ (allD (bl v) = true → (bl v).length = 1 ∨ (bl v).head? ≠ some 48)) := by
 have hd := dig_ev v hv
 obtain ⟨b, hb, hq⟩ := ascii_ev v (by omega)
 have tru : Ev (fun k => spec_TokenKnown.j0 k true p v n) false := Ev.step (fun _ => by rw [spec_TokenKnown.j0]) (ev_t (ev_now rfl))
 have hz : (bl v).length = v.size := bl_length v
 have fal : ∃ r, Ev (fun k => spec_TokenKnown.j0 k false p v n) r ∧ (r = true → TkK v false ∧ (allD (bl v) = true → (bl v).length = 1 ∨ (bl v).head? ≠ some 48)) := by
  cases hx : allD (bl v) with
  | true =>
   rw [hx] at hd
   have hk : TkK v false := ⟨.inl hx, hv, fun h => by cases h⟩
   have hp : 0 < (bl v).length := by
    unfold allD at hx
    rw [Bool.and_eq_true] at hx
    exact of_decide_eq_true hx.2
   by_cases h1 : (v.size : Int) = 1
   ·exact ⟨true, Ev.step (fun _ => by rw [spec_TokenKnown.j0]) (ev_f (Ev.bind hd (ev_t (ev_pos h1 (ev_now rfl))))), fun _ => ⟨hk, fun _ => .inl (by omega)⟩⟩
   ·have hw : Ev (fun k => spec_TokenKnown.j0 k false p v n) (bt v 0 != 48) := by
     refine Ev.step (fun _ => by rw [spec_TokenKnown.j0]) ?_
     exact ev_f (Ev.bind hd (ev_t (ev_neg h1 (ev_pos (by omega) (ev_now rfl)))))
    refine ⟨_, hw, fun hr => ⟨hk, fun _ => .inr fun e => ?_⟩⟩
    have hne : ¬ bt v 0 = 48 := by simpa using hr
    apply hne
    have h0 : bt v 0 = ((bl v)[0].toNat : Int) := by
     have := bt_ofL (bl v) 0 hp
     rw [ofL_bl] at this
     exact this
    rw [h0]
    rw [List.head?_eq_getElem?, List.getElem?_eq_getElem hp] at e
    rw [Option.some.inj e]
    rfl
  | false =>
   rw [hx] at hd
   by_cases e : v.toList = []
   ·have hk : TkK v false := ⟨.inr (.inl (by rw [← toList_bl]; exact e)), hv, fun h => by cases h⟩
    refine ⟨true, Ev.step (fun _ => by rw [spec_TokenKnown.j0]) (ev_f (Ev.bind hd (ev_f ?_))), fun _ => ⟨hk, fun h => by cases h⟩⟩
    unfold spec_mavenLetters.f
    rw [if_pos e]
    exact ev_now rfl
   ·have hne : ¬ bl v = [] := fun h => e (by rw [toList_bl]; exact h)
    obtain ⟨c, r, hcr⟩ := List.exists_cons_of_ne_nil hne
    have hp : (0 : Int) < (v.size : Int) := by rw [← hz, hcr, List.length_cons]; omega
    have h0 : bt v 0 = (c.toNat : Int) := by
     have := bt_ofL (bl v) 0 (by rw [hcr]; simp)
     rw [ofL_bl] at this
     have h2 : bt v 0 = ((bl v)[0]'(by rw [hcr]; simp)).toNat := this
     rw [h2]
     simp [hcr]
    by_cases g : (c.toNat : Int) ≥ 97
    ·refine ⟨decide ((c.toNat : Int) ≤ 122), Ev.step (fun _ => by rw [spec_TokenKnown.j0]) (ev_f (Ev.bind hd (ev_f ?_))), fun hr => ⟨⟨.inr (.inr ⟨c, r, hcr, ?_⟩), hv, fun h => by cases h⟩, fun h => by cases h⟩⟩
     ·unfold spec_mavenLetters.f
      rw [if_neg e, if_pos hp, h0, if_pos g]
      exact ev_now rfl
     ·have := of_decide_eq_true hr
      unfold low1
      omega
    ·refine ⟨false, Ev.step (fun _ => by rw [spec_TokenKnown.j0]) (ev_f (Ev.bind hd (ev_f ?_))), fun hr => by cases hr⟩
     unfold spec_mavenLetters.f
     rw [if_neg e, if_pos hp, h0, if_neg g]
     exact ev_now rfl
 obtain ⟨r, hr, hrq⟩ := fal
 unfold spec_TokenKnown.f
 cases n with
 | true => exact ⟨false, ev_t tru, fun h => by cases h⟩
 | false =>
  have arm : ∀ (P : Prop), P → ∃ r, Ev (fun k => (spec_Ascii.f k v).bind fun t => spec_TokenKnown.j0 k (!t) p v false) r ∧ (r = true → (false = false ∧ TkK v false ∧ P ∧ (allD (bl v) = true → (bl v).length = 1 ∨ (bl v).head? ≠ some 48))) := by
   intro P hP
   cases b with
   | false => exact ⟨false, Ev.bind hb tru, fun h => by cases h⟩
   | true => exact ⟨r, Ev.bind hb hr, fun h => ⟨rfl, (hrq h).1, hP, (hrq h).2⟩⟩
  by_cases e0 : p.toList = []
  ·obtain ⟨r, h1, h2⟩ := arm (p.toList = [] ∨ p.toList = [46] ∨ p.toList = [45]) (.inl e0)
   exact ⟨r, ev_f (ev_pos e0 h1), h2⟩
  ·by_cases e1 : p.toList = [46]
   ·obtain ⟨r, h1, h2⟩ := arm (p.toList = [] ∨ p.toList = [46] ∨ p.toList = [45]) (.inr (.inl e1))
    exact ⟨r, ev_f (ev_neg e0 (ev_pos e1 h1)), h2⟩
   ·by_cases e2 : p.toList = [45]
    ·obtain ⟨r, h1, h2⟩ := arm (p.toList = [] ∨ p.toList = [46] ∨ p.toList = [45]) (.inr (.inr e2))
     exact ⟨r, ev_f (ev_neg e0 (ev_neg e1 (ev_pos e2 h1))), h2⟩
    ·exact ⟨false, ev_f (ev_neg e0 (ev_neg e1 (ev_neg e2 tru))), fun h => by cases h⟩
end Go.Proofs.YtondnpfncgcdkaaDoor.Cm

namespace Go.Proofs.YtondnpfncgcdkaaDoor.Com
open Go.RowKit Go.Proofs.YtondnpfncgcdkaaDoor.Z Go.Proofs.YtondnpfncgcdkaaDoor.Evs Go.Proofs.YtondnpfncgcdkaaDoorW.PrintWords Go.Proofs.YtondnpfncgcdkaaDoorW.PrintLast
set_option linter.unusedVariables false
set_option linter.unusedSimpArgs false

/-- short: an answer; where it is true the list is short and its texts are. -/
theorem short_l (l : List ByteArray) (hl : (l.length : Int) < 9223372036854775807) (d : Nat) : ∀ i : Nat, i + d = l.length →
  ∃ b, Ev (fun k => laws_short.l0 k l l (l.length : Int) (i : Int)) b ∧ (b = true → l.length ≤ 150 ∧ ∀ j, i ≤ j → j < l.length → (l.getD j ByteArray.empty).size ≤ 1500) := by
 induction d with
 | zero =>
  intro i h
  exact ⟨_, Ev.step (fun _ => by rw [laws_short.l0]) (ev_neg (by omega) (Ev.now _)), fun hb => ⟨by simp at hb; omega, fun j h1 h2 => by omega⟩⟩
 | succ d ih =>
  intro i h
  obtain ⟨b, hb, hq⟩ := ih (i + 1) (by omega)
  by_cases c : ((rdOf ByteArray.empty l (i : Int)).size : Int) > 1500
  ·exact ⟨false, Ev.step (fun _ => by rw [laws_short.l0]) (ev_pos (by omega) (ev_pos (by omega) (ev_pos (by omega) (ev_pos c (Ev.now _))))), fun h => by cases h⟩
  ·refine ⟨b, Ev.step (fun _ => by rw [laws_short.l0, wrap_nat (by omega)]) (ev_pos (by omega) (ev_pos (by omega) (ev_pos (by omega) (ev_neg c hb)))), fun h => ⟨(hq h).1, fun j h1 h2 => ?_⟩⟩
   by_cases e : j = i
   ·subst e; rw [rdOf_nat] at c; omega
   ·exact (hq h).2 j (by omega) h2
theorem short_ev (l : List ByteArray) (hl : (l.length : Int) < 9223372036854775807) : ∃ b, Ev (fun k => laws_short.f k l) b ∧ (b = true → l.length ≤ 150 ∧ ∀ j, j < l.length → (l.getD j ByteArray.empty).size ≤ 1500) := by
 obtain ⟨b, hb, hq⟩ := short_l l hl l.length 0 (by omega)
 exact ⟨b, hb, fun h => ⟨(hq h).1, fun j hj => (hq h).2 j (by omega) hj⟩⟩

theorem short4 (a b c d : ByteArray) : ∃ r, Ev (fun k => laws_short.f k [a, b, c, d]) r ∧ (r = true → a.size ≤ 1500 ∧ b.size ≤ 1500 ∧ c.size ≤ 1500 ∧ d.size ≤ 1500) := by
 obtain ⟨r, hr, hq⟩ := short_ev [a, b, c, d] (by simp)
 exact ⟨r, hr, fun h => ⟨(hq h).2 0 (by simp), (hq h).2 1 (by simp), (hq h).2 2 (by simp), (hq h).2 3 (by simp)⟩⟩
end Go.Proofs.YtondnpfncgcdkaaDoor.Com

namespace Go.Proofs.YtondnpfncgcdkaaDoor.Pure
open Go.RowKit Go.Proofs.YtondnpfncgcdkaaDoor.Z Go.Proofs.YtondnpfncgcdkaaDoor.Evs Go.Proofs.YtondnpfncgcdkaaDoor.By Go.Proofs.YtondnpfncgcdkaaDoor.Com Go.Proofs.YtondnpfncgcdkaaDoor.Cm Go.Proofs.YtondnpfncgcdkaaDoorW.PrintWords Go.Proofs.YtondnpfncgcdkaaDoorW.PrintLast
set_option linter.unusedVariables false
set_option linter.unusedSimpArgs false
theorem fits11_f (p v : ByteArray) (n : Bool) : ∃ r, laws_zzFits11.f p v n = some r := by
 unfold laws_zzFits11.f
 by_cases h1 : (p.size : Int) > 2147483647
 ·exact ⟨_, if_pos h1⟩
 ·by_cases h2 : (v.size : Int) > 2147483647
  ·exact ⟨false, by rw [if_neg h1, if_pos h2]⟩
  ·exact ⟨true, by rw [if_neg h1, if_neg h2]⟩
theorem implLess_f (p v : ByteArray) (n : Bool) (q u : ByteArray) (m : Bool) (hv : TkK v n) (hu : TkK u m) : impl_TokenLess.f p v n q u m = some (if (mo p v n q u m).2 = true then (decide ((mo p v n q u m).1 < 0), true) else (false, false)) := by
 unfold impl_TokenLess.f
 rw [if_pos ⟨hv.sz, hu.sz⟩, less_mo hv hu]
 cases (mo p v n q u m).2 <;> rfl
theorem specLess_ev (p v : ByteArray) (n : Bool) (q u : ByteArray) (m : Bool) (hv : v.size ≤ 1000000) (hu : u.size ≤ 1000000) : Ev (fun k => spec_TokenLess.f k p v n q u m) (if (mo p v n q u m).2 = true then (decide ((mo p v n q u m).1 < 0), true) else (false, false)) := by
 unfold spec_TokenLess.f
 refine Ev.bind (one_ev p v n q u m hv hu) ?_
 cases h : (mo p v n q u m).2 with
 | true => exact ev_t (ev_now rfl)
 | false => exact ev_f (ev_now rfl)
theorem FnTokenLess : laws_FnTokenLess.Pure := by
 intro p v n q u m
 refine Ev.rounds ?_
 unfold laws_FnTokenLess.f
 have skip : Ev (fun k => laws_FnTokenLess.j0 k true p v n q u m) true := Ev.step (fun _ => by rw [laws_FnTokenLess.j0]) (ev_t (ev_now rfl))
 have skip1 : Ev (fun k => laws_FnTokenLess.j1 k true p v n q u m) true := Ev.step (fun _ => by rw [laws_FnTokenLess.j1]) (ev_t (ev_now rfl))
 obtain ⟨r0, e0⟩ := fits11_f p v n
 obtain ⟨r1, e1⟩ := fits11_f q u m
 rw [e0, e1]
 refine ev_some ?_
 cases r0 with
 | false => exact ev_f skip
 | true =>
  refine ev_t (ev_some ?_)
  cases r1 with
  | false => exact skip
  | true =>
   obtain ⟨r, hr, hq⟩ := short4 p v q u
   refine Ev.step (fun _ => by rw [laws_FnTokenLess.j0]) ?_
   refine ev_f (Ev.bind hr ?_)
   cases r with
   | false => exact ev_f skip1
   | true =>
    obtain ⟨s1, s2, s3, s4⟩ := hq rfl
    obtain ⟨ra, ha, qa⟩ := known_ev p v n (by omega)
    obtain ⟨rb, hb, qb⟩ := known_ev q u m (by omega)
    refine ev_t (Ev.bind ha ?_)
    cases ra with
    | false => exact ev_f skip1
    | true =>
     refine ev_t (Ev.bind hb ?_)
     cases rb with
     | false => exact skip1
     | true =>
      obtain ⟨hn, kv, _, _⟩ := qa rfl
      obtain ⟨hm, ku, _, _⟩ := qb rfl
      subst hn
      subst hm
      refine Ev.step (fun _ => by rw [laws_FnTokenLess.j1]) ?_
      have i1 := implLess_f p v false q u false kv ku
      have i2 := implLess_f q u false p v false ku kv
      have sp := specLess_ev p v false q u false kv.sz ku.sz
      obtain ⟨a1, a2⟩ := mo_neg p v false q u false
      rw [a2] at i2
      rw [i1, i2]
      clear i1 i2 a2
      generalize mo p v false q u false = o at a1 sp
      obtain ⟨c, d⟩ := o
      refine ev_f (ev_some (Ev.bind sp (ev_some ?_)))
      cases d with
      | false => exact ev_pos rfl (ev_pos rfl (ev_pos rfl (ev_f (ev_now rfl))))
      | true =>
       refine ev_pos (by simp) (ev_pos rfl (ev_pos rfl ?_))
       by_cases hc : c < 0
       ·refine ev_pos (decide_eq_true hc) (ev_now ?_)
        show (!decide ((mo q u false p v false).1 < 0)) = true
        rw [a1]
        have : ¬ -c < 0 := by omega
        show (!decide (-c < 0)) = true
        rw [decide_eq_false this]
        rfl
       ·exact ev_neg (by simp [hc]) (ev_now rfl)
end Go.Proofs.YtondnpfncgcdkaaDoor.Pure

namespace Go.Proofs.YtondnpfncgcdkaaDoor.fnTokenLess
open Go.ChangeShapes Go.WideShapes Go.ChangeAt Go.RowKit Go.Proofs.YtondnpfncgcdkaaDoor.Op Go.Proofs.YtondnpfncgcdkaaDoor.Z Go.Proofs.YtondnpfncgcdkaaDoorW.PrintWords
open Go.ChangeMaps (open_string shut_string)
set_option linter.unusedVariables false
set_option linter.unusedSimpArgs false
theorem own : ownKnob Tryd.prog.godebug = none := by kernel_rfl
theorem laidOut : laidOutB Tryd.prog = true := by kernel_rfl
set_option maxRecDepth 100000 in
theorem opens_k23 : Opens Tryd.prog 23 k23 := by
 intro H enc w base spare held fuel cs x h
 obtain ⟨hl, n, hf⟩ := trod_fields Tryd.underlying23 h
 have hl' : cs.length = 3 := hl.trans (by kernel_rfl)
 obtain ⟨a0, h0⟩ := open_field hf 0 9 0 1 (by rfl) (by kernel_rfl) (Opens.string Tryd.underlying9)
 obtain ⟨a1, h1⟩ := open_field hf 1 9 1 1 (by rfl) (by kernel_rfl) (Opens.string Tryd.underlying9)
 obtain ⟨a2, h2⟩ := open_field hf 2 4 2 1 (by rfl) (by kernel_rfl) (Opens.bool Tryd.underlying4)
 exact ⟨(⟨a0, a1, a2⟩ : S23), (Exists.intro _ (Exists.intro _ (And.intro (split_at cs 0 1) (And.intro h0 (Exists.intro _ (Exists.intro _ (And.intro (split_at cs 1 1) (And.intro h1 ((last_at cs 2 1 (by omega)) ▸ h2)))))))))⟩
/-- A world for the witness: the listed variables hold what their initialisers lay. -/
noncomputable def laidWorld (os : Os) : World := World.laidAll Tryd.prog os Rows.fnTokenLessRow.laid
set_option maxRecDepth 100000 in
theorem laid_met (os : Os) : laidMet Tryd.prog Rows.fnTokenLessRow.laid ((laidWorld os).forCall (fun _ _ => 0) ⟨#[], #[.agg #[.string ByteArray.empty, .string ByteArray.empty, .bool false], .agg #[.string ByteArray.empty, .string ByteArray.empty, .bool false]], []⟩).memory :=
 laidMet_laidAll _ (by kernel_rfl) (by kernel_rfl)
set_option maxRecDepth 100000 in
theorem reads (os : Os) {H : Type} (enc : TypeId × Value → H) : DataW.whole enc Tryd.prog ((laidWorld os).forCall (fun _ _ => 0) ⟨#[], #[.agg #[.string ByteArray.empty, .string ByteArray.empty, .bool false], .agg #[.string ByteArray.empty, .string ByteArray.empty, .bool false]], []⟩).memory Tryd.f3.params.toList Rows.fnTokenLessSpec.vars false #[.agg #[.string ByteArray.empty, .string ByteArray.empty, .bool false], .agg #[.string ByteArray.empty, .string ByteArray.empty, .bool false]].toList 8 = some ([.agg [.lit (.string []), .lit (.string []), .lit (.bool false)], .agg [.lit (.string []), .lit (.string []), .lit (.bool false)]], [], []) := by kernel_rfl
set_option maxRecDepth 100000 in
theorem lifted (os : Os) (started : os.Started) (H : Type) (enc : TypeId × Value → H) (F : Stop.Interp) :
  ReturnsInHanded {} Tryd.checked os 3 .any ((OpenSpec.ofChange Rows.fnTokenLessSpec).preRow enc Tryd.prog Tryd.f3 Rows.fnTokenLessRow.domain false Rows.fnTokenLessRow.laid) (((OpenSpec.ofChange Rows.fnTokenLessSpec).at F).post enc Tryd.prog Tryd.f3 false true false false) := by
 refine returnsInHanded_of_row (C := Tryd.checked) (s := OpenSpec.ofChange Rows.fnTokenLessSpec) own started (by kernel_rfl) Tryd.func3
  (witness_row_atRef (enc := enc) (C := Tryd.checked) false (laidWorld os) #[.agg #[.string ByteArray.empty, .string ByteArray.empty, .bool false], .agg #[.string ByteArray.empty, .string ByteArray.empty, .bool false]] (World.laidAll_os _ _ _) (by kernel_rfl) (by kernel_rfl) (by kernel_rfl)
   (OpenSpec.preRow_of_cond 8 (reads os enc) (by kernel_rfl) (fun k hk => by cases hk) (by kernel_rfl) (laid_met os))) ?_
 intro W base args ds gs before hval0 hW hcnd hk0 hsz0 hL hSh hho
 have hsz : (DataW.weightsEach Tryd.prog (Tryd.f3.params.toList ++ Rows.fnTokenLessSpec.plain.varTypes Tryd.prog) (ds ++ gs)).all (· ≤ reachBytes) = true := hsz0
 have hval : ∀ (j : Nat) t v, Tryd.f3.params[j]? = some t → args[j]? = some v → Value.okWide Tryd.prog W .any base t v := hval0
 have hW' := hW
 obtain ⟨p, q, hA0, hV, rfl, hfz, hnd⟩ := hW
 have hA : DataW.TrodAll enc Tryd.prog W 0 (fun _ => true) true Tryd.f3.params.toList args.toList ds p := hA0
 rw [Tryd.params3] at hA hval hsz
 obtain ⟨v0, vs0, d0, ds0, p0, q0, hargs, rfl, rfl, h0, r0⟩ := trodAll_cons hA
 obtain ⟨v1, vs1, d1, ds1, p1, q1, rfl, rfl, rfl, h1, r1⟩ := trodAll_cons r0
 obtain ⟨rfl, rfl, rfl⟩ := trodAll_nil r1
 obtain rfl : args = #[v0, v1] := by cases args; simp_all
 obtain ⟨rfl, rfl⟩ := trodVars_none hV
 have k0 := h0
 have lt0 : ∀ x ∈ p0, x.block < W.heap.size := by obtain ⟨m, hm⟩ := k0; exact DataW.trod_lt m _ _ _ hm
 obtain ⟨x0, cs0, rfl, hx0⟩ := open_agg Tryd.underlying23 (hval 0 23 v0 rfl rfl) opens_k23 h0
 have e0 := k23_open hx0
 obtain rfl : cs0 = #[.string x0.f0, .string x0.f1, .bool x0.f2] := by apply Array.ext'; simpa using e0
 have k1 := h1
 have lt1 : ∀ x ∈ p1, x.block < W.heap.size := by obtain ⟨m, hm⟩ := k1; exact DataW.trod_lt m _ _ _ hm
 obtain ⟨x1, cs1, rfl, hx1⟩ := open_agg Tryd.underlying23 (hval 1 23 v1 rfl rfl) opens_k23 h1
 have e1 := k23_open hx1
 obtain rfl : cs1 = #[.string x1.f0, .string x1.f1, .bool x1.f2] := by apply Array.ext'; simpa using e1
 clear hA0 hval0 hsz0 hsz
 refine (laws_FnTokenLess.walk Pure.FnTokenLess x0.f0 x0.f1 x0.f2 x1.f0 x1.f1 x1.f2 W   (Gw.gw_of (l := Rows.fnTokenLessRow.laid) hL (List.Mem.head _) (List.Mem.tail _ (List.Mem.head _)) (List.Mem.tail _ (List.Mem.tail _ (List.Mem.tail _ (List.Mem.head _)))) (List.Mem.tail _ (List.Mem.tail _ (List.Mem.tail _ (List.Mem.tail _ (List.Mem.head _))))))).mono fun e W' ⟨he, bel⟩ => ?_
 subst he
 exact ⟨_, rfl, _, _, _, [], _, [], hW', trodAll_mk1 (shut_bool Tryd.underlying4 _), (trodAll_cons_mk (Below.trod laidOut (by kernel_rfl) (of_decide_eq_true (by kernel_rfl)) k0 bel lt0) (trodAll_cons_mk (Below.trod laidOut (by kernel_rfl) (of_decide_eq_true (by kernel_rfl)) k1 bel lt1) trodAll_mk0)), rfl, bel.frame _, fun h => by cases h⟩
theorem said : Rows.FnTokenLessSaid :=
 OpenClaim.holds_of_cond 3 Tryd.f3 rfl rfl rfl rfl rfl rfl rfl ⟨rfl, rfl, rfl, rfl, rfl⟩ rfl rfl rfl rfl rfl (by kernel_rfl) Tryd.func3 (by kernel_rfl)
  (of_decide_eq_true (by kernel_rfl)) (by unfold Func.isWrapper; first | (rw [if_pos (by decide +kernel)]; kernel_rfl) | (rw [if_neg (by decide +kernel)]; exact ⟨rfl, rfl⟩))
  (fun os started H enc _ F => by rw [OpenClaim.pre_eq_preRow]; exact lifted os started H enc F)
theorem plain (f : FuncId) (fn : Func) (hf : Tryd.pinned.checked.prog.funcNamed "pub-seniority/laws.FnTokenLess" = some f) (hfn : Tryd.pinned.checked.prog.funcs[f]? = some fn) :
  true = Tryd.pinned.checked.prog.looks [] ∧ ∀ (j : Nat) t, fn.params[j]? = some t → Tryd.pinned.checked.prog.wantsStandIn t = false := by
 obtain rfl : f = 3 := Option.some.inj ((show Tryd.prog.funcNamed "pub-seniority/laws.FnTokenLess" = some 3 by kernel_rfl).symm.trans hf) |>.symm
 obtain rfl : fn = Tryd.f3 := (Option.some.inj (Tryd.func3.symm.trans hfn)).symm
 refine ⟨by kernel_rfl, fun j t ht => ?_⟩
 rw [Tryd.params3] at ht
 have h2 : ([23, 23] : List TypeId).all (fun t => !Tryd.prog.wantsStandIn t) = true := by kernel_rfl
 have h3 := List.all_eq_true.1 h2 t (by have := Array.mem_of_getElem? ht; simpa using this)
 exact (show Tryd.prog.wantsStandIn t = false from by simpa using h3)
theorem proved : Rows.FnTokenLessCardSaid :=
 Claim7.holds_tied_plain_at .later [] _ _ _ _ said (fun _ h => by cases h) (by kernel_rfl) (fun _ h => by cases h) fnTokenLess_row_tie rfl ⟨rfl, rfl⟩ (by kernel_rfl) rfl plain (by kernel_rfl)
#print axioms proved
end Go.Proofs.YtondnpfncgcdkaaDoor.fnTokenLess
namespace Go.Proofs.YtondnpfncgcdkaaDoor
/-- The card, under a short name, for the claim. -/
theorem fnTokenLess_holds : Rows.FnTokenLessCardSaid := fnTokenLess.proved
end Go.Proofs.YtondnpfncgcdkaaDoor
