/- FnPackagist: how two Packagist versions compare, given by their components. No condition beyond the row's own. -/
import Derived.Test.YtifneobfjadnkaaDoorZ1
import Derived.Test.YtifneobfjadnkaaDoorEv
import Derived.Test.YtifneobfjadnkaaDoorBy
import Derived.Test.YtifneobfjadnkaaDoorZ5
import Derived.Lib.Bytealg
import Derived.Test.YtifneobfjadnkaaDoorZ6
import Derived.Test.YtifneobfjadnkaaDoorBv
import Derived.Test.YtifneobfjadnkaaDoorRows
import Derived.Test.YtifneobfjadnkaaDoorOp
import Derived.Test.YtifneobfjadnkaaDoorCards
import Derived.Test.YtifneobfjadnkaaDoorTie
import Derived.Test.YtifneobfjadnkaaDoorGq
import Derived.Deep.DeepHandedRow
import Derived.Deep.DeepWitnessRowRef
import Derived.Lay
import Derived.WalkKit
import Derived.ProofKit
import Derived.OpenShut
import Derived.ShutString
import Derived.ChangeOld
import Derived.Below
import Derived.SizedLaws
namespace Go.Proofs.YtifneobfjadnkaaDoor.Com
open Go.RowKit Go.Proofs.YtifneobfjadnkaaDoor.Z Go.Proofs.YtifneobfjadnkaaDoor.Evs Go.Proofs.YtifneobfjadnkaaDoorW.PrintWords Go.Proofs.YtifneobfjadnkaaDoorW.PrintLast
set_option linter.unusedVariables false
set_option linter.unusedSimpArgs false

/-- short: an answer; where it is true the list is short and its texts are. -/
theorem short_l (l : List ByteArray) (hl : (l.length : Int) < 9223372036854775807) (d : Nat) : ∀ i : Nat, i + d = l.length →
  ∃ b, Ev (fun k => laws_short.l0 k l l (l.length : Int) (i : Int)) b ∧ (b = true → l.length ≤ 150 ∧ ∀ j, i ≤ j → j < l.length → (l.getD j ByteArray.empty).size ≤ 1500) := by
 induction d with
 | zero =>
  intro i h
  exact ⟨_, Ev.step (fun _ => by rw [laws_short.l0]) (ev_neg (by omega) (Ev.now _)), fun hb => ⟨by simp at hb; omega, fun j h1 h2 => by omega⟩⟩
 | succ d ih =>
  intro i h
  obtain ⟨b, hb, hq⟩ := ih (i + 1) (by omega)
  by_cases c : ((rdOf ByteArray.empty l (i : Int)).size : Int) > 1500
  ·exact ⟨false, Ev.step (fun _ => by rw [laws_short.l0]) (ev_pos (by omega) (ev_pos (by omega) (ev_pos (by omega) (ev_pos c (Ev.now _))))), fun h => by cases h⟩
  ·refine ⟨b, Ev.step (fun _ => by rw [laws_short.l0, wrap_nat (by omega)]) (ev_pos (by omega) (ev_pos (by omega) (ev_pos (by omega) (ev_neg c hb)))), fun h => ⟨(hq h).1, fun j h1 h2 => ?_⟩⟩
   by_cases e : j = i
   ·subst e; rw [rdOf_nat] at c; omega
   ·exact (hq h).2 j (by omega) h2
theorem short_ev (l : List ByteArray) (hl : (l.length : Int) < 9223372036854775807) : ∃ b, Ev (fun k => laws_short.f k l) b ∧ (b = true → l.length ≤ 150 ∧ ∀ j, j < l.length → (l.getD j ByteArray.empty).size ≤ 1500) := by
 obtain ⟨b, hb, hq⟩ := short_l l hl l.length 0 (by omega)
 exact ⟨b, hb, fun h => ⟨(hq h).1, fun j hj => (hq h).2 j (by omega) hj⟩⟩

end Go.Proofs.YtifneobfjadnkaaDoor.Com

namespace Go.Proofs.YtifneobfjadnkaaDoor.Com
open Go.RowKit Go.Proofs.YtifneobfjadnkaaDoor.Z Go.Proofs.YtifneobfjadnkaaDoor.Evs Go.Proofs.YtifneobfjadnkaaDoor.By Go.Proofs.YtifneobfjadnkaaDoorW.PrintWords Go.Proofs.YtifneobfjadnkaaDoorW.PrintLast
set_option linter.unusedVariables false
set_option linter.unusedSimpArgs false

theorem isDigit_f (c : UInt8) : spec_isDigit.f (c.toNat : Int) = some (dg c) := by
 unfold spec_isDigit.f dg
 by_cases h : (c.toNat : Int) ≥ 48
 ·rw [if_pos h]
  congr 1
  rw [Bool.eq_iff_iff, decide_eq_true_eq, decide_eq_true_eq]
  omega
 ·rw [if_neg h]
  congr 1
  symm
  rw [decide_eq_false_iff_not]
  omega
/-- Digits alone, one at least. -/
def allD (l : List UInt8) : Bool := l.all dg && decide (0 < l.length)
theorem digits_l (l : List UInt8) (hl : l.length ≤ 140737488351232) (d : Nat) : ∀ i : Nat, i + d = l.length → Ev (fun k => spec_allDigits.l0 k (ofL l) (i : Int)) ((l.drop i).all dg && decide (0 < l.length)) := by
 have hs := ofL_size l
 induction d with
 | zero =>
  intro i h
  refine Ev.step (fun _ => by rw [spec_allDigits.l0]) (ev_neg (by omega) (ev_now ?_))
  rw [List.drop_of_length_le (by omega), hs]
  simp
 | succ d ih =>
  intro i h
  have hc := bt_ofL l i (by omega)
  refine Ev.step (fun _ => by rw [spec_allDigits.l0, hc, isDigit_f, Option.bind_some, wrap_nat (by omega)]) (ev_pos (by omega) (ev_pos (by omega) ?_))
  rw [List.drop_eq_getElem_cons (by omega), List.all_cons]
  cases e : dg (l[i]'(by omega)) with
  | true => exact ev_t (by simpa using ih (i + 1) (by omega))
  | false => exact ev_f (ev_now (by simp))
theorem digits_ev (l : List UInt8) (hl : l.length ≤ 140737488351232) : Ev (fun k => spec_allDigits.f k (ofL l)) (allD l) := digits_l l hl l.length 0 (by omega)
end Go.Proofs.YtifneobfjadnkaaDoor.Com

namespace Go.Proofs.YtifneobfjadnkaaDoor.Com
open Go.RowKit Go.Proofs.YtifneobfjadnkaaDoor.Z Go.Proofs.YtifneobfjadnkaaDoor.Evs Go.Proofs.YtifneobfjadnkaaDoorW.PrintWords Go.Proofs.YtifneobfjadnkaaDoorW.PrintLast
set_option linter.unusedVariables false
set_option linter.unusedSimpArgs false

theorem fits_l (l : List ByteArray) (hl : (l.length : Int) < 9223372036854775807) (d : Nat) : ∀ i : Nat, i + d = l.length → ∃ b, Ev (fun k => laws_zzFits1.l0 k l (l.length : Int) (i : Int)) b := by
 induction d with
 | zero =>
  intro i h
  refine ⟨true, Ev.step (fun _ => by rw [laws_zzFits1.l0]) (ev_neg (by omega) (Ev.now _))⟩
 | succ d ih =>
  intro i h
  obtain ⟨b, hb⟩ := ih (i + 1) (by omega)
  by_cases c : ((rdOf ByteArray.empty l (i : Int)).size : Int) > 2147483647
  ·exact ⟨false, Ev.step (fun _ => by rw [laws_zzFits1.l0]) (ev_pos (by omega) (ev_pos (by omega) (ev_pos (by omega) (ev_pos c (Ev.now _)))))⟩
  ·exact ⟨b, Ev.step (fun _ => by rw [laws_zzFits1.l0, wrap_nat (by omega)]) (ev_pos (by omega) (ev_pos (by omega) (ev_pos (by omega) (ev_neg c hb))))⟩
theorem fits_ev (l : List ByteArray) (hl : l.length ≤ 9223372036854775807) : ∃ b, Ev (fun k => laws_zzFits1.f k l) b := by
 unfold laws_zzFits1.f
 by_cases c : (l.length : Int) > 2147483647
 ·exact ⟨_, ev_pos c (Ev.now _)⟩
 ·obtain ⟨b, hb⟩ := fits_l l (by omega) l.length 0 (by omega)
  exact ⟨b, ev_neg c hb⟩
end Go.Proofs.YtifneobfjadnkaaDoor.Com

namespace Go.Proofs.YtifneobfjadnkaaDoor.Com
open Go Go.RowKit Go.Proofs.YtifneobfjadnkaaDoor.Z Go.Proofs.YtifneobfjadnkaaDoor.Evs Go.Proofs.YtifneobfjadnkaaDoor.By Go.Proofs.YtifneobfjadnkaaDoorW.PrintWords Go.Proofs.YtifneobfjadnkaaDoorW.PrintLast
set_option linter.unusedVariables false
set_option linter.unusedSimpArgs false

def cmpI (a b : Int) : Int := if a < b then -1 else if b < a then 1 else 0
theorem orderI_f (a b : Int) : spec_orderInts.f a b = some (cmpI a b) := by
 unfold spec_orderInts.f cmpI
 split
 ·rfl
 ·split
  ·rfl
  ·rfl
theorem bless : ∀ a b : List UInt8, Op.bytesLess a b = decide (Lib.compareBytes a b = -1)
 | [], [] => rfl
 | [], _ :: _ => rfl
 | _ :: _, [] => rfl
 | x :: a, y :: b => by
  rw [Op.bytesLess, Lib.compareBytes, bless a b]
  by_cases h : x < y
  ·rw [if_pos h]
   simp [h]
  ·rw [if_neg h]
   by_cases h2 : y < x
   ·rw [if_pos h2]
    have : ¬ x = y := fun e => by subst e; exact h h2
    simp [h, this]
   ·rw [if_neg h2]
    have : x = y := UInt8.toNat_inj.1 (by have h : ¬ x.toNat < y.toNat := h; have h2 : ¬ y.toNat < x.toNat := h2; omega)
    subst this
    simp [h]
theorem cmpB_range : ∀ a b : List UInt8, Lib.compareBytes a b = -1 ∨ Lib.compareBytes a b = 0 ∨ Lib.compareBytes a b = 1
 | [], [] => .inr (.inl rfl)
 | [], _ :: _ => .inl rfl
 | _ :: _, [] => .inr (.inr rfl)
 | x :: a, y :: b => by
  rw [Lib.compareBytes]
  split
  ·exact .inl rfl
  ·split
   ·exact .inr (.inr rfl)
   ·exact cmpB_range a b
theorem cmpB_anti : ∀ a b : List UInt8, Lib.compareBytes b a = -Lib.compareBytes a b
 | [], [] => rfl
 | [], _ :: _ => rfl
 | _ :: _, [] => rfl
 | x :: a, y :: b => by
  rw [Lib.compareBytes, Lib.compareBytes, cmpB_anti a b]
  by_cases h : x < y
  ·have h2 : ¬ y < x := fun h2 => by have h : x.toNat < y.toNat := h; have h2 : y.toNat < x.toNat := h2; omega
   rw [if_pos h, if_neg h2, if_pos h]; rfl
  ·by_cases h2 : y < x
   ·rw [if_pos h2, if_neg h, if_pos h2]
   ·rw [if_neg h2, if_neg h, if_neg h, if_neg h2]
theorem order_f (a b : List UInt8) : spec_order.f (ofL a) (ofL b) = some (Lib.compareBytes a b) := by
 unfold spec_order.f
 rw [toList_ofL, toList_ofL, bless, bless, cmpB_anti a b]
 rcases cmpB_range a b with h | h | h <;> rw [h] <;> rfl
/-- Digits without the zeros ahead. -/
def stripZ (l : List UInt8) : List UInt8 := l.dropWhile (· == 48)
def cmpD (a b : List UInt8) : Int := if (stripZ a).length = (stripZ b).length then Lib.compareBytes (stripZ a) (stripZ b) else cmpI ((stripZ a).length : Int) ((stripZ b).length : Int)
theorem strip_not (c : UInt8) (l : List UInt8) (e : ¬ c = 48) : stripZ (c :: l) = c :: l := by
 rw [stripZ, List.dropWhile_cons, if_neg (by simpa using e)]
theorem ext1 (c : UInt8) (r : List UInt8) : (ofL (c :: r)).extract 1 (ofL (c :: r)).size = ofL r := by
 rw [ofL_size, ofL_extract, List.take_length]
 rfl
theorem onum3 (a b : List UInt8) : Ev (fun k => spec_orderNumbers.j3 k (ofL a) (ofL b)) (if a.length = b.length then Lib.compareBytes a b else cmpI (a.length : Int) (b.length : Int)) := by
 refine Ev.step (fun _ => by rw [spec_orderNumbers.j3, ofL_size, ofL_size, order_f, orderI_f]) ?_
 by_cases h : a.length = b.length
 ·rw [if_pos h]
  exact ev_pos (by omega) (ev_now rfl)
 ·rw [if_neg h]
  exact ev_neg (by omega) (ev_now rfl)
theorem onum1 (a : List UInt8) : ∀ (b : List UInt8), b.length ≤ 140737488351232 → Ev (fun k => spec_orderNumbers.l1 k (ofL a) (ofL b)) (if a.length = (stripZ b).length then Lib.compareBytes a (stripZ b) else cmpI (a.length : Int) ((stripZ b).length : Int))
 | [], _ => Ev.step (fun _ => by rw [spec_orderNumbers.l1]) (ev_neg (by rw [ofL_size]; simp) (onum3 a []))
 | c :: b, h => by
  have hb : bt (ofL (c :: b)) 0 = (c.toNat : Int) := bt_ofL (c :: b) 0 (by simp)
  have hs := ofL_size (c :: b)
  have hl : (c :: b).length = b.length + 1 := rfl
  refine Ev.step (fun _ => by rw [spec_orderNumbers.l1, hb, ext1]) (ev_pos (by omega) (ev_pos (by omega) ?_))
  by_cases e : c = 48
  ·subst e
   refine ev_pos rfl (ev_pos (by omega) ?_)
   have := onum1 a b (by omega)
   rw [show stripZ (48 :: b) = stripZ b from rfl]
   exact this
  ·refine ev_neg (fun h => e (UInt8.toNat_inj.1 (by have : (48 : UInt8).toNat = 48 := rfl; omega))) ?_
   rw [strip_not c b e]
   exact onum3 a (c :: b)
theorem onum0 (b : List UInt8) (hb0 : b.length ≤ 140737488351232) : ∀ (a : List UInt8), a.length ≤ 140737488351232 → Ev (fun k => spec_orderNumbers.l0 k (ofL a) (ofL b)) (cmpD a b)
 | [], _ => Ev.step (fun _ => by rw [spec_orderNumbers.l0]) (ev_neg (by rw [ofL_size]; simp) (Ev.step (fun _ => by rw [spec_orderNumbers.j1]) (onum1 [] b hb0)))
 | c :: a, h => by
  have hb : bt (ofL (c :: a)) 0 = (c.toNat : Int) := bt_ofL (c :: a) 0 (by simp)
  have hs := ofL_size (c :: a)
  have hl : (c :: a).length = a.length + 1 := rfl
  refine Ev.step (fun _ => by rw [spec_orderNumbers.l0, hb, ext1]) (ev_pos (by omega) (ev_pos (by omega) ?_))
  by_cases e : c = 48
  ·subst e
   refine ev_pos rfl (ev_pos (by omega) ?_)
   have := onum0 b hb0 a (by omega)
   rw [cmpD, show stripZ (48 :: a) = stripZ a from rfl]
   exact this
  ·refine ev_neg (fun h => e (UInt8.toNat_inj.1 (by have : (48 : UInt8).toNat = 48 := rfl; omega))) ?_
   rw [cmpD, strip_not c a e]
   exact Ev.step (fun _ => by rw [spec_orderNumbers.j1]) (onum1 (c :: a) b hb0)
theorem orderNumbers_ev (a b : List UInt8) (ha : a.length ≤ 140737488351232) (hb : b.length ≤ 140737488351232) : Ev (fun k => spec_orderNumbers.f k (ofL a) (ofL b)) (cmpD a b) := onum0 b hb a ha
end Go.Proofs.YtifneobfjadnkaaDoor.Com

namespace Go.Proofs.YtifneobfjadnkaaDoor.Com
open Go.RowKit Go.Proofs.YtifneobfjadnkaaDoor.Z Go.Proofs.YtifneobfjadnkaaDoor.Evs Go.Proofs.YtifneobfjadnkaaDoorW.PrintWords Go.Proofs.YtifneobfjadnkaaDoorW.PrintLast
set_option linter.unusedVariables false
set_option linter.unusedSimpArgs false
theorem turned1 {r b : Int} (h : b = -r) (h1 : -1 ≤ r) (h2 : r ≤ 1) : laws_turned.f r b = some true := by
 unfold laws_turned.f
 have e : wrap64 (-b) = r := by rw [wrap_in (by omega) (by omega)]; omega
 rw [e, if_pos rfl, if_pos h1, decide_eq_true h2]
end Go.Proofs.YtifneobfjadnkaaDoor.Com

namespace Go.Proofs.YtifneobfjadnkaaDoor.Pure
open Go Go.RowKit Go.Proofs.YtifneobfjadnkaaDoor.Z Go.Proofs.YtifneobfjadnkaaDoor.Evs Go.Proofs.YtifneobfjadnkaaDoor.By Go.Proofs.YtifneobfjadnkaaDoor.Com Go.Proofs.YtifneobfjadnkaaDoorW.PrintWords Go.Proofs.YtifneobfjadnkaaDoorW.PrintLast
set_option linter.unusedVariables false
set_option linter.unusedSimpArgs false
theorem pack_l (k : Nat) (s : ByteArray) (i : Nat) (n : Nat) (xs : List ByteArray) (ys : List Int) (hn : xs.length = n) (hy : ys.length = n) (hb : n < 100) (hi : i < n) :
  spec_packWeight.l0 (k + 1) s xs ys i = if pfx s (xs.getD i ByteArray.empty) then some (ys.getD i 0) else spec_packWeight.l0 k s xs ys ((i + 1 : Nat) : Int) := by
 simp only [spec_packWeight.l0]
 have hx : rdOf ByteArray.empty xs (i : Int) = xs.getD i ByteArray.empty := by simp [rdOf]
 have hr : rd ys (i : Int) = ys.getD i 0 := by simp [rd]
 rw [hx, hr]
 have : wrap64 ((i : Int) + 1) = ((i + 1 : Nat) : Int) := by unfold wrap64; omega
 rw [if_pos (by omega), if_pos (by omega), this]
 unfold pfx
 generalize xs.getD i ByteArray.empty = p at *
 by_cases h : p.size ≤ s.size
 ·rw [if_pos (by omega), if_pos (by omega), if_pos (by omega)]
  by_cases h2 : (s.extract 0 p.size).toList = p.toList
  ·rw [if_pos h2, if_pos (by omega), if_pos (by rw [h2]; simp [h])]
  ·rw [if_neg h2, if_neg (by simp only [beq_iff_eq, Bool.and_eq_true]; exact fun hh => h2 hh.2)]
 ·rw [if_neg (by omega), if_neg (by simp [h])]
theorem pack_f (k : Nat) (s : ByteArray) : spec_packWeight.f (k + 8) s = some (wt s) := by
 unfold spec_packWeight.f wt
 have st := fun k i h => pack_l k s i 7 _ _ (show ([(⟨#[82, 67]⟩ : ByteArray), (⟨#[100, 101, 118]⟩ : ByteArray), (⟨#[97]⟩ : ByteArray), (⟨#[98]⟩ : ByteArray), (⟨#[114, 99]⟩ : ByteArray), (⟨#[35]⟩ : ByteArray), (⟨#[112]⟩ : ByteArray)] : List ByteArray).length = 7 from rfl) (show ([3, 0, 1, 2, 3, 4, 5] : List Int).length = 7 from rfl) (by omega) h
 refine (st (k + 7) 0 (by omega)).trans ?_
 simp only [List.getD_cons_zero, List.getD_cons_succ]
 split; · rfl
 refine (st (k + 6) 1 (by omega)).trans ?_
 simp only [List.getD_cons_zero, List.getD_cons_succ]
 split; · rfl
 refine (st (k + 5) 2 (by omega)).trans ?_
 simp only [List.getD_cons_zero, List.getD_cons_succ]
 split; · rfl
 refine (st (k + 4) 3 (by omega)).trans ?_
 simp only [List.getD_cons_zero, List.getD_cons_succ]
 split; · rfl
 refine (st (k + 3) 4 (by omega)).trans ?_
 simp only [List.getD_cons_zero, List.getD_cons_succ]
 split; · rfl
 refine (st (k + 2) 5 (by omega)).trans ?_
 simp only [List.getD_cons_zero, List.getD_cons_succ]
 split; · rfl
 refine (st (k + 1) 6 (by omega)).trans ?_
 simp only [List.getD_cons_zero, List.getD_cons_succ]
 split; · rfl
 simp only [spec_packWeight.l0]
 rw [if_neg (by simp)]

theorem special_ev (a b : ByteArray) : Ev (fun k => spec_PackagistSpecial.f k a b) (spW a b) := by
 refine ⟨8, fun k hk => ?_⟩
 obtain ⟨m, rfl⟩ : ∃ m, k = m + 8 := ⟨k - 8, by omega⟩
 show spec_PackagistSpecial.f (m + 8) a b = some (spW a b)
 unfold spec_PackagistSpecial.f spec_orderInts.f spW
 rw [pack_f, pack_f]
 simp only [Option.bind_some]
 repeat' split
 all_goals first | rfl | (simp; done) | omega
/-! known components -/
def num (x : ByteArray) : Bool := allD (bl x)
def sgD (x : ByteArray) : Prop := ∃ c r, bl x = c :: r ∧ (c = 43 ∨ c = 45) ∧ allD r = true
def KnC (x : ByteArray) : Prop := x.size ≤ 1500 ∧ (num x = true → x.size ≤ 18) ∧ ¬ sgD x
theorem allD_cons {l : List UInt8} (h : allD l = true) : l.all dg = true ∧ l ≠ [] := by
 unfold allD at h
 rw [Bool.and_eq_true] at h
 exact ⟨h.1, List.length_pos_iff.1 (of_decide_eq_true h.2)⟩
theorem dg_n {c : UInt8} (h : dg c = true) : c ≠ 43 ∧ c ≠ 45 := ⟨fun e => by rw [e] at h; exact absurd h (by decide), fun e => by rw [e] at h; exact absurd h (by decide)⟩
theorem cvt_num {x : ByteArray} (h : num x = true) : Ss.cvt x = some (Bv.decV (bl x)) := by
 obtain ⟨h1, h2⟩ := allD_cons h
 cases hq : bl x with
 | nil => exact absurd hq h2
 | cons c r =>
  have hx : x = ofL (c :: r) := by rw [← hq, ofL_bl]
  subst hx
  rw [bl_ofL] at h1
  have hc : dg c = true := by rw [List.all_cons, Bool.and_eq_true] at h1; exact h1.1
  have h0 : 0 < (ofL (c :: r)).size := by rw [ofL_size]; simp
  have hg : (ofL (c :: r))[0]'h0 = c := rfl
  obtain ⟨n1, n2⟩ := dg_n hc
  have hn : Ss.sgN (ofL (c :: r)) = 0 := by
   unfold Ss.sgN
   rw [dif_pos h0, hg]
   simp [n1, n2]
  have hb : Ss.sgB (ofL (c :: r)) = false := by
   unfold Ss.sgB
   rw [dif_pos h0, hg]
   simp [n1, n2]
  unfold Ss.cvt
  rw [hn, hb, List.drop_zero, bl_ofL, if_pos ⟨by simp, h1⟩]
  rfl
theorem cvt_not {x : ByteArray} (h : num x = false) (hs : ¬ sgD x) : Ss.cvt x = none := by
 have hall : ∀ l : List UInt8, l ≠ [] → l.all dg = true → allD l = true := fun l h1 h2 => by
  unfold allD
  rw [h2, decide_eq_true (List.length_pos_iff.2 h1)]
  rfl
 unfold Ss.cvt
 refine if_neg fun hc => ?_
 cases hq : bl x with
 | nil =>
  rw [hq] at hc
  exact hc.1 (by simp)
 | cons c r =>
  have hx : x = ofL (c :: r) := by rw [← hq, ofL_bl]
  subst hx
  rw [bl_ofL] at hc
  have h0 : 0 < (ofL (c :: r)).size := by rw [ofL_size]; simp
  have hg : (ofL (c :: r))[0]'h0 = c := rfl
  by_cases hcs : c = 43 ∨ c = 45
  ·have hn : Ss.sgN (ofL (c :: r)) = 1 := by
    unfold Ss.sgN
    rw [dif_pos h0, hg]
    rcases hcs with e | e <;> simp [e]
   rw [hn, List.drop_succ_cons, List.drop_zero] at hc
   exact hs ⟨c, r, bl_ofL _, hcs, hall r hc.1 hc.2⟩
  ·have hn : Ss.sgN (ofL (c :: r)) = 0 := by
    unfold Ss.sgN
    rw [dif_pos h0, hg]
    simp only [not_or] at hcs
    simp [hcs.1, hcs.2]
   rw [hn, List.drop_zero] at hc
   have := hall _ hc.1 hc.2
   unfold num at h
   rw [bl_ofL, this] at h
   cases h
theorem pu_dig : ∀ (l : List UInt8) (acc u : Nat), Lib.parseUint10 acc l = .ok u → l.all dg = true
 | [], _, _, _ => rfl
 | c :: r, acc, u, h => by
  rw [Lib.parseUint10] at h
  split at h
  ·rename_i hc
   split at h
   ·cases h
   ·split at h
    ·cases h
    ·rw [List.all_cons, pu_dig r _ u h, Bool.and_true]
     exact decide_eq_true hc
  ·cases h
theorem pu_ok : ∀ (l : List UInt8) (acc j : Nat), l.all dg = true → acc + 1 ≤ 10 ^ j → j + l.length ≤ 18 → ∃ u, Lib.parseUint10 acc l = .ok u ∧ u + 1 ≤ 10 ^ (j + l.length)
 | [], acc, j, _, h, _ => ⟨acc, rfl, h⟩
 | c :: r, acc, j, hd, h, hl => by
  rw [List.all_cons, Bool.and_eq_true] at hd
  have hc : 48 ≤ c.toNat ∧ c.toNat ≤ 57 := of_decide_eq_true hd.1
  have hl2 : r.length + 1 = (c :: r).length := rfl
  have hp : 10 ^ j ≤ 10 ^ 17 := Nat.pow_le_pow_right (by omega) (by omega)
  have e17 : (10 : Nat) ^ 17 = 100000000000000000 := by decide
  have hs : 10 ^ (j + 1) = 10 ^ j * 10 := Nat.pow_succ ..
  obtain ⟨u, hu, hb⟩ := pu_ok r (acc * 10 + (c.toNat - 48)) (j + 1) hd.2 (by omega) (by omega)
  refine ⟨u, ?_, ?_⟩
  ·rw [Lib.parseUint10, if_pos hc, if_neg (by omega), if_neg (by omega)]
   exact hu
  ·have : j + 1 + r.length = j + (c :: r).length := by omega
   rw [this] at hb
   exact hb
theorem aok_num {x : ByteArray} (hk : KnC x) : aok x = num x := by
 unfold aok
 cases hq : bl x with
 | nil =>
  unfold num
  rw [hq]
  rfl
 | cons c r =>
  cases hn : num x with
  | true =>
   have hx := hn
   unfold num at hx
   rw [hq] at hx
   obtain ⟨h1, h2⟩ := allD_cons hx
   have hc : dg c = true := by rw [List.all_cons, Bool.and_eq_true] at h1; exact h1.1
   have hc2 : 48 ≤ c.toNat ∧ c.toNat ≤ 57 := of_decide_eq_true hc
   have hl : (c :: r).length ≤ 18 := by
    have := hk.2.1 hn
    rw [← bl_length, hq] at this
    exact this
   obtain ⟨u, hu, hb⟩ := pu_ok (c :: r) 0 0 h1 (by decide) (by omega)
   have hb2 : 10 ^ (0 + (c :: r).length) ≤ 10 ^ 18 := Nat.pow_le_pow_right (by omega) (by omega)
   have e18 : (10 : Nat) ^ 18 = 1000000000000000000 := by decide
   have hm : Lib.parseMag (c :: r) = .ok u := by
    unfold Lib.parseMag
    rw [if_neg (by simp)]
    exact hu
   have ha : Lib.atoiAll (c :: r) = .ok (u : Int) := by
    unfold Lib.atoiAll
    simp only []
    rw [if_neg (by omega), hm]
    simp only []
    rw [if_neg (by omega), if_neg (by omega), if_neg (by omega)]
   rw [ha]
  | false =>
   have hno : ∀ v, Lib.atoiAll (c :: r) ≠ .ok v := by
    intro v hv
    unfold Lib.atoiAll at hv
    simp only [] at hv
    have key : ∀ (l : List UInt8) u, Lib.parseMag l = .ok u → allD l = true := fun l u hu => by
     unfold Lib.parseMag at hu
     split at hu
     ·cases hu
     ·rename_i hne
      unfold allD
      rw [pu_dig l 0 u hu, decide_eq_true (List.length_pos_iff.2 hne)]
      rfl
    by_cases hs : c.toNat = 43 ∨ c.toNat = 45
    ·rw [if_pos hs] at hv
     cases hm : Lib.parseMag r
     ·rename_i u
      refine hk.2.2 ⟨c, r, hq, ?_, key r u hm⟩
      rcases hs with e | e
      ·exact .inl (UInt8.toNat_inj.1 e)
      ·exact .inr (UInt8.toNat_inj.1 e)
     ·rw [hm] at hv; cases hv
     ·rw [hm] at hv; cases hv
    ·rw [if_neg hs] at hv
     cases hm : Lib.parseMag (c :: r)
     ·rename_i u
      have := key _ u hm
      unfold num at hn
      rw [hq, this] at hn
      cases hn
     ·rw [hm] at hv; cases hv
     ·rw [hm] at hv; cases hv
   cases ha : Lib.atoiAll (c :: r)
   ·rename_i v
    exact absurd ha (hno v)
   ·rfl
   ·rfl
/-- Two components by the reference. -/
theorem cmpD_Z {a b : List UInt8} (ha : a.all dg = true) (hb : b.all dg = true) : cmpD a b = Bn.cmpZ (Bv.decV a) (Bv.decV b) := Bv.dec_cmp a b ha hb
theorem alld_ev (x : ByteArray) (h : x.size ≤ 1500) : Ev (fun k => spec_allDigits.f k x) (num x) := by
 have := digits_ev (bl x) (by rw [bl_length]; omega)
 rw [ofL_bl] at this
 exact this
theorem pair_ev (x y : ByteArray) (hx : KnC x) (hy : KnC y) : Ev (fun k => spec_packPair.f k x y) (pkP x y) := by
 unfold spec_packPair.f
 refine Ev.bind (alld_ev x hx.1) (Ev.bind (alld_ev y hy.1) ?_)
 unfold pkP
 cases hnx : num x with
 | true =>
  rw [cvt_num hnx]
  refine ev_t ?_
  cases hny : num y with
  | true =>
   rw [cvt_num hny]
   refine Ev.step (fun _ => by rw [spec_packPair.j0]) ?_
   have ho := orderNumbers_ev (bl x) (bl y) (by rw [bl_length]; have := hx.1; omega) (by rw [bl_length]; have := hy.1; omega)
   rw [ofL_bl, ofL_bl, cmpD_Z (allD_cons hnx).1 (allD_cons hny).1] at ho
   exact ev_t (Ev.bind ho (ev_now rfl))
  | false =>
   rw [cvt_not hny hy.2.2]
   refine Ev.step (fun _ => by rw [spec_packPair.j0]) ?_
   exact ev_f (ev_t (Ev.bind (special_ev _ _) (ev_now rfl)))
 | false =>
  rw [cvt_not hnx hx.2.2]
  refine ev_f ?_
  cases hny : num y with
  | true =>
   rw [cvt_num hny]
   refine Ev.step (fun _ => by rw [spec_packPair.j0]) ?_
   exact ev_f (ev_f (ev_t (Ev.bind (special_ev _ _) (ev_now rfl))))
  | false =>
   rw [cvt_not hny hy.2.2]
   refine Ev.step (fun _ => by rw [spec_packPair.j0]) ?_
   exact ev_f (ev_f (ev_f (Ev.bind (special_ev _ _) (ev_now rfl))))
/-- What a version that goes on goes on with. -/
def restF : List ByteArray → Int
 | [] => 0
 | x :: r => if num x = true then 1 else if spW x hsh = 0 then restF r else spW x hsh
theorem restF_ran : ∀ l, -1 ≤ restF l ∧ restF l ≤ 1
 | [] => by unfold restF; omega
 | x :: r => by
  rw [restF]
  have h1 := restF_ran r
  have h2 := spW_ran x hsh
  split
  ·omega
  ·split <;> omega
def KnL (l : List ByteArray) : Prop := l.length ≤ 150 ∧ ∀ j : Nat, (h : j < l.length) → KnC (l[j]'h)
theorem rest_l (l : List ByteArray) (hl : l.length ≤ 150) (hk : ∀ x ∈ l, KnC x) (d : Nat) : ∀ i : Nat, i + d = l.length → Ev (fun k => spec_packRest.l0 k l (i : Int)) (restF (l.drop i)) := by
 induction d with
 | zero =>
  intro i h
  refine Ev.step (fun _ => by rw [spec_packRest.l0]) ?_
  refine ev_neg (by omega) (ev_now ?_)
  rw [List.drop_of_length_le (by omega)]
  rfl
 | succ d ih =>
  intro i h
  have hi : i < l.length := by omega
  obtain ⟨x, hx⟩ : ∃ x, x = l[i]'hi := ⟨_, rfl⟩
  have hr : rdOf ByteArray.empty l (i : Int) = x := by rw [rdOf_nat, List.getD_eq_getElem?_getD, List.getElem?_eq_getElem hi, hx]; rfl
  have hkx : KnC x := by rw [hx]; exact hk _ (List.getElem_mem hi)
  have e : l.drop i = x :: l.drop (i + 1) := by rw [hx]; exact List.drop_eq_getElem_cons hi
  rw [e, restF]
  refine Ev.step (fun _ => by rw [spec_packRest.l0, hr, wrap_nat (show (i : Int) < 9223372036854775807 by omega)]) ?_
  refine ev_pos (by omega) (ev_pos (by omega) (Ev.bind (alld_ev x hkx.1) ?_))
  cases hn : num x with
  | true => exact ev_t (ev_now rfl)
  | false =>
   refine ev_f (Ev.bind (special_ev x hsh) ?_)
   by_cases hz : spW x hsh = 0
   ·rw [if_neg (by decide), if_pos hz]
    exact ev_pos hz (ih (i + 1) (by omega))
   ·rw [if_neg (by decide), if_neg hz]
    exact ev_neg hz (ev_now rfl)
theorem rest_ev (l : List ByteArray) (hl : l.length ≤ 150) (hk : ∀ x ∈ l, KnC x) : Ev (fun k => spec_packRest.f k l) (restF l) := rest_l l hl hk l.length 0 (by omega)
def cmpS (a b : List ByteArray) : Int := if pkM a b = 0 then (if b.length < a.length then restF (a.drop b.length) else if a.length < b.length then -restF (b.drop a.length) else 0) else pkM a b
theorem scmp_l (a b : List ByteArray) (ha : KnL a) (hb : KnL b) (d : Nat) : ∀ i : Nat, i + d = min a.length b.length → pkM (a.drop i) (b.drop i) = pkM a b → Ev (fun k => spec_PackagistCompare.l0 k a b (i : Int)) (cmpS a b) := by
 have mem : ∀ {l : List ByteArray}, KnL l → ∀ x ∈ l, KnC x := fun {l} h x hx => by
  obtain ⟨j, hj, rfl⟩ := List.getElem_of_mem hx
  exact h.2 j hj
 have tail : ∀ i : Nat, pkM a b = 0 → Ev (fun k => spec_PackagistCompare.j1 k a b (i : Int) false) (cmpS a b) := by
  intro i hz
  refine Ev.step (fun _ => by rw [spec_PackagistCompare.j1]) ?_
  refine ev_f ?_
  unfold cmpS
  rw [if_pos hz]
  have la := ha.1
  have lb := hb.1
  by_cases h1 : b.length < a.length
  ·rw [if_pos h1]
   refine ev_pos (by omega) (ev_pos (by omega) (ev_pos (by omega) (Ev.bind (rest_ev (a.drop b.length) (by rw [List.length_drop]; omega) (fun x hx => mem ha x (List.mem_of_mem_drop hx))) (ev_now rfl))))
  ·rw [if_neg h1]
   refine ev_neg (by omega) ?_
   by_cases h2 : a.length < b.length
   ·rw [if_pos h2]
    have hr := restF_ran (b.drop a.length)
    have hw : wrap64 (-restF (b.drop a.length)) = -restF (b.drop a.length) := wrap_in (by omega) (by omega)
    refine ev_pos (by omega) (ev_pos (by omega) (ev_pos (by omega) (Ev.bind (rest_ev (b.drop a.length) (by rw [List.length_drop]; omega) (fun x hx => mem hb x (List.mem_of_mem_drop hx))) (ev_now hw))))
   ·rw [if_neg h2]
    exact ev_neg (by omega) (ev_now rfl)
 induction d with
 | zero =>
  intro i h hp
  have la := ha.1
  have hz : pkM a b = 0 := by rw [← hp]; exact pkM_end a b i (by omega)
  refine Ev.step (fun _ => by rw [spec_PackagistCompare.l0]) ?_
  by_cases h1 : i < a.length
  ·rw [show decide ((i : Int) < (b.length : Int)) = false from decide_eq_false (by omega)]
   exact ev_pos (by omega) (tail i hz)
  ·exact ev_neg (by omega) (tail i hz)
 | succ d ih =>
  intro i h hp
  have la := ha.1
  have hi : i < a.length := by omega
  have hj : i < b.length := by omega
  have hst := pkM_step a b i hi hj
  obtain ⟨x, hx⟩ : ∃ x, x = a[i]'hi := ⟨_, rfl⟩
  obtain ⟨y, hy⟩ : ∃ y, y = b[i]'hj := ⟨_, rfl⟩
  have rx : rdOf ByteArray.empty a (i : Int) = x := by rw [rdOf_nat, List.getD_eq_getElem?_getD, List.getElem?_eq_getElem hi, hx]; rfl
  have ry : rdOf ByteArray.empty b (i : Int) = y := by rw [rdOf_nat, List.getD_eq_getElem?_getD, List.getElem?_eq_getElem hj, hy]; rfl
  rw [← hx, ← hy] at hst
  refine Ev.step (fun _ => by rw [spec_PackagistCompare.l0]) ?_
  rw [show decide ((i : Int) < (b.length : Int)) = true from decide_eq_true (by omega)]
  refine ev_pos (by omega) ?_
  refine Ev.step (fun _ => by rw [spec_PackagistCompare.j1, rx, ry, wrap_nat (show (i : Int) < 9223372036854775807 by omega)]) ?_
  refine ev_t (ev_pos (by omega) (ev_pos (by omega) (ev_pos (by omega) (Ev.bind (pair_ev x y (by rw [hx]; exact ha.2 i hi) (by rw [hy]; exact hb.2 i hj)) ?_))))
  by_cases hz : pkP x y = 0
  ·rw [if_pos hz] at hst
   exact ev_pos hz (ih (i + 1) (by omega) (by rw [← hst]; exact hp))
  ·rw [if_neg hz] at hst
   refine ev_neg hz (ev_now ?_)
   rw [hp] at hst
   unfold cmpS
   rw [hst, if_neg hz]
theorem scmp_ev (a b : List ByteArray) (ha : KnL a) (hb : KnL b) : Ev (fun k => spec_PackagistCompare.f k a b) (cmpS a b) := scmp_l a b ha hb (min a.length b.length) 0 (by omega) rfl
/-! the program's answer -/
theorem cvt_hsh : Ss.cvt hsh = none := cvt_not (by decide) (by rintro ⟨c, r, h1, h2, _⟩; have h3 : (35 : UInt8) = c := (List.cons.inj h1).1; rw [← h3] at h2; exact absurd h2 (by decide))
theorem pkP_hsh {x : ByteArray} (h : num x = false) (hk : KnC x) : pkP x hsh = spW x hsh ∧ pkP hsh x = spW hsh x := by
 unfold pkP
 rw [cvt_hsh, cvt_not h hk.2.2]
 exact ⟨rfl, rfl⟩
theorem spW_neg (a b : ByteArray) : spW b a = -spW a b := by
 unfold spW
 split <;> split <;> (try split) <;> (try split) <;> omega
theorem pkP_neg (x y : ByteArray) : pkP y x = -pkP x y := by
 have hz : ∀ a b : Int, Bn.cmpZ b a = -Bn.cmpZ a b := fun a b => by unfold Bn.cmpZ; split <;> (try split) <;> (try split) <;> omega
 unfold pkP
 cases Ss.cvt x <;> cases Ss.cvt y
 ·exact spW_neg _ _
 ·exact spW_neg _ _
 ·exact spW_neg _ _
 ·exact hz _ _
theorem pkM_neg : ∀ a b : List ByteArray, pkM b a = -pkM a b
 | [], [] => rfl
 | [], _ :: _ => rfl
 | _ :: _, [] => rfl
 | x :: l, y :: r => by
  rw [pkM, pkM, pkM_neg l r, pkP_neg x y]
  split <;> split <;> omega
theorem pkM_ran : ∀ a b : List ByteArray, -1 ≤ pkM a b ∧ pkM a b ≤ 1
 | [], [] => by unfold pkM; omega
 | [], _ :: _ => by unfold pkM; omega
 | _ :: _, [] => by unfold pkM; omega
 | x :: l, y :: r => by
  rw [pkM]
  have h1 := pkM_ran l r
  have h2 := pkP_ran x y
  split <;> omega
theorem pk_rl : ∀ (r : List ByteArray) (x : ByteArray), (∀ y ∈ x :: r, KnC y) → num x = false → ∀ k, r.length + 1 ≤ k → pkF k (x :: r) [hsh] = some (restF (x :: r)) ∧ pkF k [hsh] (x :: r) = some (-restF (x :: r))
 | r, x, hk, hn, 0, h => by omega
 | r, x, hk, hn, k + 1, h => by
  obtain ⟨p1, p2⟩ := pkP_hsh hn (hk x (by simp))
  have m1 : pkM (x :: r) [hsh] = spW x hsh := by
   rw [pkM, p1]
   split
   ·rename_i hz
    rw [hz]
    cases r <;> rfl
   ·rfl
  have m2 : pkM [hsh] (x :: r) = -spW x hsh := by rw [pkM_neg, m1]
  have e0 : restF (x :: r) = if spW x hsh = 0 then restF r else spW x hsh := by rw [restF, hn, if_neg (by decide)]
  rw [pkF, pkF, m1, m2, e0]
  by_cases hz : spW x hsh = 0
  ·have hz' : -spW x hsh = 0 := by omega
   simp only [if_pos hz, if_pos hz']
   cases r with
   | nil => exact ⟨rfl, rfl⟩
   | cons y s =>
    have hky := hk y (by simp)
    have l1 : [hsh].length < (x :: y :: s).length := by simp
    have l2 : ¬ (x :: y :: s).length < [hsh].length := by simp
    have g : (x :: y :: s).getD [hsh].length hsh = y := rfl
    have dr : (x :: y :: s).drop [hsh].length = y :: s := rfl
    simp only [if_pos l1, g, dr, if_neg l2, aok_num hky]
    cases hny : num y with
    | true =>
     rw [restF, hny]
     exact ⟨rfl, rfl⟩
    | false =>
     show pkF k (y :: s) [hsh] = _ ∧ pkF k [hsh] (y :: s) = _
     exact pk_rl s y (fun z hz => hk z (by simp at hz ⊢; exact .inr hz)) hny k (by simp at h; omega)
  ·have hz' : ¬ -spW x hsh = 0 := by omega
   simp only [if_neg hz, if_neg hz', and_self]
theorem pkF_cmp (a b : List ByteArray) (ha : KnL a) (hb : KnL b) (k : Nat) (h : a.length + b.length + 1 ≤ k) : pkF (k + 1) a b = some (cmpS a b) := by
 have mem : ∀ {l : List ByteArray}, KnL l → ∀ x ∈ l, KnC x := fun {l} h x hx => by
  obtain ⟨j, hj, rfl⟩ := List.getElem_of_mem hx
  exact h.2 j hj
 have key : ∀ (l : List ByteArray) (n : Nat), KnL l → n < l.length → l.length ≤ k → (if aok (l.getD n hsh) = true then some 1 else pkF k (l.drop n) [hsh]) = some (restF (l.drop n)) ∧ (if aok (l.getD n hsh) = true then some (-1) else pkF k [hsh] (l.drop n)) = some (-restF (l.drop n)) := by
  intro l n hl hn hlk
  have e : l.drop n = l[n]'hn :: l.drop (n + 1) := List.drop_eq_getElem_cons hn
  have g : l.getD n hsh = l[n]'hn := by rw [List.getD_eq_getElem?_getD, List.getElem?_eq_getElem hn]; rfl
  rw [g, aok_num (hl.2 n hn)]
  cases hny : num (l[n]'hn) with
  | true =>
   rw [if_pos rfl, if_pos rfl, e, restF, hny, if_pos rfl]
   exact ⟨rfl, rfl⟩
  | false =>
   rw [if_neg (by decide), if_neg (by decide), e]
   exact pk_rl (l.drop (n + 1)) (l[n]'hn) (fun z hz => mem hl z (by rw [← e] at hz; exact List.mem_of_mem_drop hz)) hny k (by rw [List.length_drop]; omega)
 rw [pkF]
 unfold cmpS
 by_cases hz : pkM a b = 0
 ·rw [if_pos hz, if_pos hz]
  by_cases h1 : b.length < a.length
  ·rw [if_pos h1, if_pos h1]
   exact (key a b.length ha h1 (by omega)).1
  ·rw [if_neg h1, if_neg h1]
   by_cases h2 : a.length < b.length
   ·rw [if_pos h2, if_pos h2]
    exact (key b a.length hb h2 (by omega)).2
   ·rw [if_neg h2, if_neg h2]
 ·rw [if_neg hz, if_neg hz]
theorem fit_kn {l : List ByteArray} (h : KnL l) : fitP l = true := by
 unfold fitP
 rw [List.all_eq_true]
 intro x hx
 obtain ⟨j, hj, rfl⟩ := List.getElem_of_mem hx
 exact decide_eq_true (by have := (h.2 j hj).1; omega)
theorem impl_f {a b : List ByteArray} (ha : KnL a) (hb : KnL b) : impl_PackagistCompare.f a b = some (cmpS a b) := by
 unfold impl_PackagistCompare.f semantic_ZZPackagist.f semantic_comparePackagistComponents.f
 rw [fit_kn ha, fit_kn hb, Bool.and_self, if_pos rfl, pkF_cmp a b ha hb (a.length + b.length + 1) (Nat.le_refl _)]
 rfl
theorem cmpS_neg (a b : List ByteArray) : cmpS b a = -cmpS a b := by
 unfold cmpS
 rw [pkM_neg a b]
 by_cases hz : pkM a b = 0
 ·rw [if_pos (by omega), if_pos hz]
  split <;> split <;> (try split) <;> omega
 ·rw [if_neg (by omega), if_neg hz]
theorem cmpS_ran (a b : List ByteArray) : -1 ≤ cmpS a b ∧ cmpS a b ≤ 1 := by
 have h1 := pkM_ran a b
 have h2 := restF_ran (a.drop b.length)
 have h3 := restF_ran (b.drop a.length)
 unfold cmpS
 split
 ·split
  ·omega
  ·split <;> omega
 ·omega
/-! the guard -/
theorem sign_ev (x : ByteArray) (hx : x.size ≤ 1500) (next : Nat → Option Bool) (b : Bool) (hn : Ev next b) :
  ∃ b', Ev (fun k => if (x.size : Int) > 1 then (if 0 < (x.size : Int) then (if (bt x 0) = 45 then (if 1 ≤ (x.size : Int) then ((spec_allDigits.f k (x.extract 1 x.size)).bind fun t => (if t = true then (some false) else (next k))) else (none)) else (if (bt x 0) = 43 then (if 1 ≤ (x.size : Int) then ((spec_allDigits.f k (x.extract 1 x.size)).bind fun t => (if t = true then (some false) else (next k))) else (none)) else (next k))) else (none)) else (next k)) b' ∧ (b' = true → b = true ∧ ¬ sgD x) := by
 cases hq : bl x with
 | nil =>
  have hs : x.size = 0 := by rw [← bl_length, hq]; rfl
  refine ⟨b, ev_neg (by omega) hn, fun h => ⟨h, ?_⟩⟩
  rintro ⟨c, r, h1, _⟩
  rw [hq] at h1
  cases h1
 | cons c r =>
  have hxe : x = ofL (c :: r) := by rw [← hq, ofL_bl]
  have hs : x.size = r.length + 1 := by rw [← bl_length, hq]; rfl
  have hb : bt x 0 = (c.toNat : Int) := by rw [hxe]; exact bt_ofL (c :: r) 0 (by simp)
  have hext : x.extract 1 x.size = ofL r := by
   rw [hxe, ofL_extract, ofL_size, List.take_of_length_le (Nat.le_refl _)]
   rfl
  have e45 : ((c.toNat : Int) = 45) ↔ c = 45 := ⟨fun h => UInt8.toNat_inj.1 (by have : (45 : UInt8).toNat = 45 := rfl; omega), fun h => by rw [h]; rfl⟩
  have e43 : ((c.toNat : Int) = 43) ↔ c = 43 := ⟨fun h => UInt8.toNat_inj.1 (by have : (43 : UInt8).toNat = 43 := rfl; omega), fun h => by rw [h]; rfl⟩
  have hd := digits_ev r (by omega)
  rw [hb, hext]
  have no : ∀ c' r', bl x = c' :: r' → c' = c ∧ r' = r := fun c' r' h => by
   rw [hq] at h
   exact ⟨(List.cons.inj h).1.symm, (List.cons.inj h).2.symm⟩
  by_cases h1 : (x.size : Int) > 1
  ·have go : ∃ b', Ev (fun k => if 1 ≤ (x.size : Int) then ((spec_allDigits.f k (ofL r)).bind fun t => (if t = true then (some false) else (next k))) else (none)) b' ∧ (b' = true → b = true ∧ allD r = false) := by
    cases ha : allD r with
    | true =>
     rw [ha] at hd
     exact ⟨false, ev_pos (by omega) (Ev.bind hd (ev_t (ev_now rfl))), fun h => by cases h⟩
    | false =>
     rw [ha] at hd
     exact ⟨b, ev_pos (by omega) (Ev.bind hd (ev_f hn)), fun h => ⟨h, rfl⟩⟩
   obtain ⟨b', hb', hq'⟩ := go
   have fin : b' = true → b = true ∧ ¬ sgD x := fun h => by
    obtain ⟨g1, g2⟩ := hq' h
    refine ⟨g1, ?_⟩
    rintro ⟨c', r', k1, _, k3⟩
    obtain ⟨_, rfl⟩ := no c' r' k1
    rw [g2] at k3
    cases k3
   by_cases h45 : c = 45
   ·exact ⟨b', ev_pos h1 (ev_pos (by omega) (ev_pos (e45.2 h45) hb')), fin⟩
   ·by_cases h43 : c = 43
    ·exact ⟨b', ev_pos h1 (ev_pos (by omega) (ev_neg (fun h => h45 (e45.1 h)) (ev_pos (e43.2 h43) hb'))), fin⟩
    ·refine ⟨b, ev_pos h1 (ev_pos (by omega) (ev_neg (fun h => h45 (e45.1 h)) (ev_neg (fun h => h43 (e43.1 h)) hn))), fun h => ⟨h, ?_⟩⟩
     rintro ⟨c', r', k1, k2, _⟩
     obtain ⟨rfl, _⟩ := no c' r' k1
     rcases k2 with k2 | k2
     ·exact h43 k2
     ·exact h45 k2
  ·refine ⟨b, ev_neg h1 hn, fun h => ⟨h, ?_⟩⟩
   rintro ⟨c', r', k1, _, k3⟩
   obtain ⟨_, rfl⟩ := no c' r' k1
   have := List.length_pos_iff.2 (allD_cons k3).2
   omega
theorem known_l (l : List ByteArray) (hl : l.length ≤ 150) (hs : ∀ j : Nat, (h : j < l.length) → (l[j]'h).size ≤ 1500) (d : Nat) : ∀ i : Nat, i + d = l.length → ∃ b, Ev (fun k => spec_PackagistKnown.l0 k l (i : Int)) b ∧ (b = true → ∀ j : Nat, i ≤ j → (h : j < l.length) → KnC (l[j]'h)) := by
 induction d with
 | zero =>
  intro i h
  refine ⟨true, ?_, fun _ j h1 h2 => by omega⟩
  refine Ev.step (fun _ => by rw [spec_PackagistKnown.l0]) ?_
  exact ev_neg (by omega) (ev_now rfl)
 | succ d ih =>
  intro i h
  have hi : i < l.length := by omega
  obtain ⟨b, hb, hq⟩ := ih (i + 1) (by omega)
  obtain ⟨x, hx⟩ : ∃ x, x = l[i]'hi := ⟨_, rfl⟩
  have hr : rdOf ByteArray.empty l (i : Int) = x := by rw [rdOf_nat, List.getD_eq_getElem?_getD, List.getElem?_eq_getElem hi, hx]; rfl
  have hsx : x.size ≤ 1500 := by rw [hx]; exact hs i hi
  obtain ⟨b', hb', hq'⟩ := sign_ev x hsx _ b hb
  have ha := alld_ev x hsx
  have all : (b' = true → (num x = true → x.size ≤ 18)) → b' = true → ∀ j : Nat, i ≤ j → (h : j < l.length) → KnC (l[j]'h) := fun hn hb2 j h1 h2 => by
   by_cases e : j = i
   ·subst e
    rw [← hx]
    exact ⟨hsx, hn hb2, (hq' hb2).2⟩
   ·exact hq (hq' hb2).1 j (by omega) h2
  cases hnx : num x with
  | true =>
   rw [hnx] at ha
   by_cases h18 : (x.size : Int) > 18
   ·refine ⟨false, ?_, fun h => by cases h⟩
    refine Ev.step (fun _ => by rw [spec_PackagistKnown.l0, hr]) ?_
    exact ev_pos (by omega) (ev_pos (by omega) (Ev.bind ha (ev_t (ev_pos h18 (ev_now rfl)))))
   ·refine ⟨b', ?_, all fun _ _ => by omega⟩
    refine Ev.step (fun _ => by rw [spec_PackagistKnown.l0, hr, wrap_nat (show (i : Int) < 9223372036854775807 by omega)]) ?_
    exact ev_pos (by omega) (ev_pos (by omega) (Ev.bind ha (ev_t (ev_neg h18 hb'))))
  | false =>
   rw [hnx] at ha
   refine ⟨b', ?_, all fun _ h => by rw [hnx] at h; cases h⟩
   refine Ev.step (fun _ => by rw [spec_PackagistKnown.l0, hr, wrap_nat (show (i : Int) < 9223372036854775807 by omega)]) ?_
   exact ev_pos (by omega) (ev_pos (by omega) (Ev.bind ha (ev_f hb')))
theorem one_ev (l : List ByteArray) (hl : l.length ≤ 2147483647) : ∃ r, Ev (fun k => laws_short.f k l) r ∧ (r = true → ∃ b, Ev (fun k => spec_PackagistKnown.f k l) b ∧ (b = true → KnL l)) := by
 obtain ⟨r, hr, hq⟩ := short_ev l (by omega)
 refine ⟨r, hr, fun h => ?_⟩
 obtain ⟨h1, h2⟩ := hq h
 obtain ⟨b, hb, hk⟩ := known_l l h1 (fun j hj => by have := h2 j hj; rw [List.getD_eq_getElem?_getD, List.getElem?_eq_getElem hj] at this; exact this) l.length 0 (by omega)
 exact ⟨b, hb, fun hh => ⟨h1, fun j hj => hk hh j (Nat.zero_le _) hj⟩⟩
theorem guard_ev (a b : List ByteArray) (ha : a.length ≤ 2147483647) (hb : b.length ≤ 2147483647) : ∃ r, Ev (fun k => laws_packagist.f k [a, b]) r ∧ (r = true → KnL a ∧ KnL b) := by
 have w0 : wrap64 ((0 : Int) + 1) = 1 := wrap_in (by decide) (by decide)
 have w1 : wrap64 ((1 : Int) + 1) = 2 := wrap_in (by decide) (by decide)
 have r0 : rd_L1 [a, b] 0 = a := rfl
 have r1 : rd_L1 [a, b] 1 = b := rfl
 obtain ⟨s0, e0, q0⟩ := one_ev a ha
 obtain ⟨s1, e1, q1⟩ := one_ev b hb
 unfold laws_packagist.f
 have p0 : (0 : Int) < (([a, b] : List (List ByteArray)).length : Int) := by show (0 : Int) < 2; decide
 have p1 : (1 : Int) < (([a, b] : List (List ByteArray)).length : Int) := by show (1 : Int) < 2; decide
 have p2 : ¬ (2 : Int) < (([a, b] : List (List ByteArray)).length : Int) := by show ¬ (2 : Int) < 2; decide
 have st : ∀ r, (∀ t : Bool, True) → Ev (fun k => (laws_short.f k a).bind fun t111 => (if t111 = true then ((spec_PackagistKnown.f k a).bind fun t112 => (if t112 = true then (laws_packagist.l0 k [a, b] (([a, b] : List (List ByteArray)).length : Int) 1) else (some false))) else (some false))) r → Ev (fun k => laws_packagist.l0 k [a, b] (([a, b] : List (List ByteArray)).length : Int) 0) r := fun r _ h => by
  refine Ev.step (fun _ => by rw [laws_packagist.l0, r0, w0]) ?_
  exact ev_pos p0 (ev_pos (by decide) (ev_pos p0 h))
 have st1 : ∀ r, Ev (fun k => (laws_short.f k b).bind fun t111 => (if t111 = true then ((spec_PackagistKnown.f k b).bind fun t112 => (if t112 = true then (laws_packagist.l0 k [a, b] (([a, b] : List (List ByteArray)).length : Int) 2) else (some false))) else (some false))) r → Ev (fun k => laws_packagist.l0 k [a, b] (([a, b] : List (List ByteArray)).length : Int) 1) r := fun r h => by
  refine Ev.step (fun _ => by rw [laws_packagist.l0, r1, w1]) ?_
  exact ev_pos p1 (ev_pos (by decide) (ev_pos p1 h))
 have st2 : Ev (fun k => laws_packagist.l0 k [a, b] (([a, b] : List (List ByteArray)).length : Int) 2) true := by
  refine Ev.step (fun _ => by rw [laws_packagist.l0]) ?_
  exact ev_neg p2 (ev_now rfl)
 cases s0 with
 | false => exact ⟨false, st _ (fun _ => trivial) (Ev.bind e0 (ev_f (ev_now rfl))), fun h => by cases h⟩
 | true =>
  obtain ⟨b0, f0, k0⟩ := q0 rfl
  cases b0 with
  | false => exact ⟨false, st _ (fun _ => trivial) (Ev.bind e0 (ev_t (Ev.bind f0 (ev_f (ev_now rfl))))), fun h => by cases h⟩
  | true =>
   cases s1 with
   | false => exact ⟨false, st _ (fun _ => trivial) (Ev.bind e0 (ev_t (Ev.bind f0 (ev_t (st1 _ (Ev.bind e1 (ev_f (ev_now rfl)))))))), fun h => by cases h⟩
   | true =>
    obtain ⟨b1, f1, k1⟩ := q1 rfl
    cases b1 with
    | false => exact ⟨false, st _ (fun _ => trivial) (Ev.bind e0 (ev_t (Ev.bind f0 (ev_t (st1 _ (Ev.bind e1 (ev_t (Ev.bind f1 (ev_f (ev_now rfl)))))))))), fun h => by cases h⟩
    | true => exact ⟨true, st _ (fun _ => trivial) (Ev.bind e0 (ev_t (Ev.bind f0 (ev_t (st1 _ (Ev.bind e1 (ev_t (Ev.bind f1 (ev_t st2))))))))), fun _ => ⟨k0 rfl, k1 rfl⟩⟩
theorem FnPackagist : laws_FnPackagist.Pure := by
 intro a b h0 h1
 refine Ev.rounds ?_
 unfold laws_FnPackagist.f
 have skip : Ev (fun k => laws_FnPackagist.j0 k a b true) true := Ev.step (fun _ => by rw [laws_FnPackagist.j0]) (ev_t (ev_now rfl))
 have small : ∀ l : List ByteArray, l.length ≤ 9223372036854775807 → ∃ r, Ev (fun k => laws_zzFits1.f k l) r ∧ (r = true → l.length ≤ 2147483647) := fun l hl => by
  by_cases c : (l.length : Int) > 2147483647
  ·refine ⟨false, ?_, fun h => by cases h⟩
   unfold laws_zzFits1.f
   exact ev_pos c (ev_now rfl)
  ·obtain ⟨r, hr⟩ := fits_ev l hl
   exact ⟨r, hr, fun _ => by omega⟩
 obtain ⟨r0, e0, q0⟩ := small a h0
 obtain ⟨r1, e1, q1⟩ := small b h1
 refine Ev.bind e0 ?_
 cases r0 with
 | false => exact ev_f skip
 | true =>
  refine ev_t (Ev.bind e1 ?_)
  cases r1 with
  | false => exact skip
  | true =>
   obtain ⟨g, eg, qg⟩ := guard_ev a b (q0 rfl) (q1 rfl)
   cases g with
   | false =>
    refine Ev.step (fun _ => by rw [Bool.not_true, laws_FnPackagist.j0]) ?_
    exact ev_f (Ev.bind eg (ev_f (ev_now rfl)))
   | true =>
    obtain ⟨ka, kb⟩ := qg rfl
    have self : cmpS a a = 0 := by have := cmpS_neg a a; omega
    refine Ev.step (fun _ => by rw [Bool.not_true, laws_FnPackagist.j0, impl_f ka kb, impl_f kb ka, impl_f ka ka, self]) ?_
    refine ev_f (Ev.bind eg (ev_t (ev_some (Ev.bind (scmp_ev a b ka kb) (ev_pos rfl (ev_some ?_))))))
    rw [turned1 (cmpS_neg a b) (cmpS_ran a b).1 (cmpS_ran a b).2]
    exact ev_some (ev_t (ev_some (ev_now rfl)))
end Go.Proofs.YtifneobfjadnkaaDoor.Pure

namespace Go.Proofs.YtifneobfjadnkaaDoor.fnPackagist
open Go.ChangeShapes Go.WideShapes Go.ChangeAt Go.RowKit Go.Proofs.YtifneobfjadnkaaDoor.Op Go.Proofs.YtifneobfjadnkaaDoor.Z Go.Proofs.YtifneobfjadnkaaDoorW.PrintWords
open Go.ChangeMaps (open_string shut_string)
set_option linter.unusedVariables false
set_option linter.unusedSimpArgs false
theorem own : ownKnob Tryd.prog.godebug = none := by kernel_rfl
theorem laidOut : laidOutB Tryd.prog = true := by kernel_rfl
/-- A world for the witness: the listed variables hold what their initialisers lay. -/
noncomputable def laidWorld (os : Os) : World := World.laidAll Tryd.prog os Rows.fnPackagistRow.laid
set_option maxRecDepth 100000 in
theorem laid_met (os : Os) : laidMet Tryd.prog Rows.fnPackagistRow.laid ((laidWorld os).forCall (fun _ _ => 0) ⟨#[], #[.slice none 0 0, .slice none 0 0], []⟩).memory :=
 laidMet_laidAll _ (by kernel_rfl) (by kernel_rfl)
set_option maxRecDepth 100000 in
theorem reads (os : Os) {H : Type} (enc : TypeId × Value → H) : DataW.whole enc Tryd.prog ((laidWorld os).forCall (fun _ _ => 0) ⟨#[], #[.slice none 0 0, .slice none 0 0], []⟩).memory Tryd.f3.params.toList Rows.fnPackagistSpec.vars false #[.slice none 0 0, .slice none 0 0].toList 8 = some ([.nil, .nil], [], []) := by kernel_rfl
set_option maxRecDepth 100000 in
theorem lifted (os : Os) (started : os.Started) (H : Type) (enc : TypeId × Value → H) (F : Stop.Interp) :
  ReturnsInHanded {} Tryd.checked os 3 .any ((OpenSpec.ofChange Rows.fnPackagistSpec).preRow enc Tryd.prog Tryd.f3 Rows.fnPackagistRow.domain false Rows.fnPackagistRow.laid) (((OpenSpec.ofChange Rows.fnPackagistSpec).at F).post enc Tryd.prog Tryd.f3 false true false false) := by
 refine returnsInHanded_of_row (C := Tryd.checked) (s := OpenSpec.ofChange Rows.fnPackagistSpec) own started (by kernel_rfl) Tryd.func3
  (witness_row_atRef (enc := enc) (C := Tryd.checked) false (laidWorld os) #[.slice none 0 0, .slice none 0 0] (World.laidAll_os _ _ _) (by kernel_rfl) (by kernel_rfl) (by kernel_rfl)
   (OpenSpec.preRow_of_cond 8 (reads os enc) (by kernel_rfl) (fun k hk => by cases hk) (by kernel_rfl) (laid_met os))) ?_
 intro W base args ds gs before hval0 hW hcnd hk0 hsz0 hL hSh hho
 have hsz : (DataW.weightsEach Tryd.prog (Tryd.f3.params.toList ++ Rows.fnPackagistSpec.plain.varTypes Tryd.prog) (ds ++ gs)).all (· ≤ reachBytes) = true := hsz0
 have hval : ∀ (j : Nat) t v, Tryd.f3.params[j]? = some t → args[j]? = some v → Value.okWide Tryd.prog W .any base t v := hval0
 have hW' := hW
 obtain ⟨p, q, hA0, hV, rfl, hfz, hnd⟩ := hW
 have hA : DataW.TrodAll enc Tryd.prog W 0 (fun _ => true) true Tryd.f3.params.toList args.toList ds p := hA0
 rw [Tryd.params3] at hA hval hsz
 obtain ⟨v0, vs0, d0, ds0, p0, q0, hargs, rfl, rfl, h0, r0⟩ := trodAll_cons hA
 obtain ⟨v1, vs1, d1, ds1, p1, q1, rfl, rfl, rfl, h1, r1⟩ := trodAll_cons r0
 obtain ⟨rfl, rfl, rfl⟩ := trodAll_nil r1
 obtain rfl : args = #[v0, v1] := by cases args; simp_all
 obtain ⟨rfl, rfl⟩ := trodVars_none hV
 obtain ⟨A0, n0, c0, rfl⟩ := okWide_slice Tryd.underlying22 (hval 0 22 v0 rfl rfl)
 have k0 := h0
 have lt0 : ∀ x ∈ p0, x.block < W.heap.size := by obtain ⟨m, hm⟩ := k0; exact DataW.trod_lt m _ _ _ hm
 obtain ⟨l0, rfl, hc0, hr0, hm0⟩ := open_slice (Opens.slice Tryd.underlying22 (by kernel_rfl) (Opens.string Tryd.underlying9)) h0
 obtain ⟨A1, n1, c1, rfl⟩ := okWide_slice Tryd.underlying22 (hval 1 22 v1 rfl rfl)
 have k1 := h1
 have lt1 : ∀ x ∈ p1, x.block < W.heap.size := by obtain ⟨m, hm⟩ := k1; exact DataW.trod_lt m _ _ _ hm
 obtain ⟨l1, rfl, hc1, hr1, hm1⟩ := open_slice (Opens.slice Tryd.underlying22 (by kernel_rfl) (Opens.string Tryd.underlying9)) h1
 clear hA0 hval0 hsz0 hsz
 refine (laws_FnPackagist.walk Pure.FnPackagist A0 c0 l0 A1 c1 l1 W hm0 hm1 hr0 hc0 hr1 hc1 (Gw.gw_of (l := Rows.fnPackagistRow.laid) hL (List.Mem.tail _ (List.Mem.tail _ (List.Mem.tail _ (List.Mem.tail _ (List.Mem.tail _ (List.Mem.head _)))))) (List.Mem.tail _ (List.Mem.tail _ (List.Mem.tail _ (List.Mem.tail _ (List.Mem.tail _ (List.Mem.tail _ (List.Mem.head _))))))) (List.Mem.tail _ (List.Mem.tail _ (List.Mem.tail _ (List.Mem.tail _ (List.Mem.tail _ (List.Mem.tail _ (List.Mem.tail _ (List.Mem.tail _ (List.Mem.head _))))))))) (List.Mem.tail _ (List.Mem.tail _ (List.Mem.tail _ (List.Mem.tail _ (List.Mem.head _))))) (List.Mem.tail _ (List.Mem.tail _ (List.Mem.tail _ (List.Mem.head _)))))).mono fun e W' ⟨he, bel⟩ => ?_
 subst he
 exact ⟨_, rfl, _, _, _, [], _, [], hW', trodAll_mk1 (shut_bool Tryd.underlying4 _), (trodAll_cons_mk (Below.trod laidOut (by kernel_rfl) (of_decide_eq_true (by kernel_rfl)) k0 bel lt0) (trodAll_cons_mk (Below.trod laidOut (by kernel_rfl) (of_decide_eq_true (by kernel_rfl)) k1 bel lt1) trodAll_mk0)), rfl, bel.frame _, fun h => by cases h⟩
theorem said : Rows.FnPackagistSaid :=
 OpenClaim.holds_of_cond 3 Tryd.f3 rfl rfl rfl rfl rfl rfl rfl ⟨rfl, rfl, rfl, rfl, rfl⟩ rfl rfl rfl rfl rfl (by kernel_rfl) Tryd.func3 (by kernel_rfl)
  (of_decide_eq_true (by kernel_rfl)) (by unfold Func.isWrapper; first | (rw [if_pos (by decide +kernel)]; kernel_rfl) | (rw [if_neg (by decide +kernel)]; exact ⟨rfl, rfl⟩))
  (fun os started H enc _ F => by rw [OpenClaim.pre_eq_preRow]; exact lifted os started H enc F)
theorem plain (f : FuncId) (fn : Func) (hf : Tryd.pinned.checked.prog.funcNamed "pub-seniority/laws.FnPackagist" = some f) (hfn : Tryd.pinned.checked.prog.funcs[f]? = some fn) :
  true = Tryd.pinned.checked.prog.looks [] ∧ ∀ (j : Nat) t, fn.params[j]? = some t → Tryd.pinned.checked.prog.wantsStandIn t = false := by
 obtain rfl : f = 3 := Option.some.inj ((show Tryd.prog.funcNamed "pub-seniority/laws.FnPackagist" = some 3 by kernel_rfl).symm.trans hf) |>.symm
 obtain rfl : fn = Tryd.f3 := (Option.some.inj (Tryd.func3.symm.trans hfn)).symm
 refine ⟨by kernel_rfl, fun j t ht => ?_⟩
 rw [Tryd.params3] at ht
 have h2 : ([22, 22] : List TypeId).all (fun t => !Tryd.prog.wantsStandIn t) = true := by kernel_rfl
 have h3 := List.all_eq_true.1 h2 t (by have := Array.mem_of_getElem? ht; simpa using this)
 exact (show Tryd.prog.wantsStandIn t = false from by simpa using h3)
theorem proved : Rows.FnPackagistCardSaid :=
 Claim7.holds_tied_plain_at .later [] _ _ _ _ said (fun _ h => by cases h) (by kernel_rfl) (fun _ h => by cases h) fnPackagist_row_tie rfl ⟨rfl, rfl⟩ (by kernel_rfl) rfl plain (by kernel_rfl)
#print axioms proved
end Go.Proofs.YtifneobfjadnkaaDoor.fnPackagist
namespace Go.Proofs.YtifneobfjadnkaaDoor
/-- The card, under a short name, for the claim. -/
theorem fnPackagist_holds : Rows.FnPackagistCardSaid := fnPackagist.proved
end Go.Proofs.YtifneobfjadnkaaDoor
