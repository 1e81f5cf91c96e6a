/- FnPub: how two versions of Pub compare. No condition beyond the row's own. -/
import Derived.Test.YtajglnedoeboaaaGreatDoorZ2
import Derived.Test.YtajglnedoeboaaaGreatDoorZ3
import Derived.Test.YtajglnedoeboaaaGreatDoorZ6
import Derived.Test.YtajglnedoeboaaaGreatDoorBy
import Derived.Test.YtajglnedoeboaaaGreatDoorBn
import Derived.Test.YtajglnedoeboaaaGreatDoorZ4
import Derived.Test.YtajglnedoeboaaaGreatDoorZ5
import Derived.Test.YtajglnedoeboaaaGreatDoorZ7
import Derived.Test.YtajglnedoeboaaaGreatDoorZ11
import Derived.Test.YtajglnedoeboaaaGreatDoorEv
import Derived.Lib.Bytealg
import Derived.Test.YtajglnedoeboaaaGreatDoorZ15
import Derived.Test.YtajglnedoeboaaaGreatDoorBv
import Derived.Test.YtajglnedoeboaaaGreatDoorZ13
import Derived.Test.YtajglnedoeboaaaGreatDoorZ14
import Derived.Test.YtajglnedoeboaaaGreatDoorZ16
import Derived.Test.YtajglnedoeboaaaGreatDoorZ8
import Derived.Test.YtajglnedoeboaaaGreatDoorZ12
import Derived.Test.YtajglnedoeboaaaGreatDoorZ17
import Derived.Test.YtajglnedoeboaaaGreatDoorZ18
import Derived.Test.YtajglnedoeboaaaGreatDoorZ19
import Derived.Test.YtajglnedoeboaaaGreatDoorRows
import Derived.Test.YtajglnedoeboaaaGreatDoorOp
import Derived.Test.YtajglnedoeboaaaGreatDoorCards
import Derived.Test.YtajglnedoeboaaaGreatDoorTie
import Derived.Test.YtajglnedoeboaaaGreatDoorGl
import Derived.Deep.DeepHandedRow
import Derived.Deep.DeepWitnessRowRef
import Derived.Deep.DeepLaidRun
import Derived.WalkKit
import Derived.ProofKit
import Derived.OpenShut
import Derived.ShutString
import Derived.ChangeOld
import Derived.Below
import Derived.SizedLaws
namespace Go.Proofs.YtajglnedoeboaaaGreatDoor.Com
open Go.RowKit Go.Proofs.YtajglnedoeboaaaGreatDoor.Z Go.Proofs.YtajglnedoeboaaaGreatDoor.Evs Go.Proofs.YtajglnedoeboaaaGreatDoor.By Go.Proofs.YtajglnedoeboaaaGreatDoorW.PrintWords Go.Proofs.YtajglnedoeboaaaGreatDoorW.PrintLast
set_option linter.unusedVariables false
set_option linter.unusedSimpArgs false

/-- The number that bytes are, the highest one first. -/
def beV : List UInt8 → Int
 | [] => 0
 | c :: l => (c.toNat : Int) * 256 ^ l.length + beV l
theorem beV_le (l : List UInt8) : Bn.leV (l.map fun c => (c.toNat : Int)).reverse = beV l := by
 induction l with
 | nil => rfl
 | cons c l ih =>
  rw [List.map_cons, List.reverse_cons, Bn.leV_append, ih, List.length_reverse, List.length_map, beV, Bn.leV, Bn.leV, Int.mul_zero, Int.add_zero, Int.add_comm, Int.mul_comm]
theorem pow256_pos (n : Nat) : (1 : Int) ≤ 256 ^ n := by
 have : 0 < (256 : Nat) ^ n := Nat.pow_pos (by decide)
 have e2 : ((256 ^ n : Nat) : Int) ≥ 1 := by omega
 rwa [Int.natCast_pow] at e2
theorem beV_nonneg (l : List UInt8) : 0 ≤ beV l := by
 induction l with
 | nil => exact Int.le_refl _
 | cons c l ih =>
  unfold beV
  have := Int.mul_nonneg (show (0 : Int) ≤ (c.toNat : Int) by omega) (show (0 : Int) ≤ 256 ^ l.length by have := pow256_pos l.length; omega)
  omega
theorem beV_lt (l : List UInt8) : beV l + 1 ≤ 256 ^ l.length := by
 induction l with
 | nil => rw [beV, List.length_nil, Int.pow_zero]; omega
 | cons c l ih =>
  unfold beV
  have hc := c.toNat_lt
  have h1 : (c.toNat : Int) * 256 ^ l.length ≤ 255 * 256 ^ l.length := Int.mul_le_mul_of_nonneg_right (by omega) (by have := pow256_pos l.length; omega)
  rw [List.length_cons, Int.pow_succ]
  omega
theorem zval_ofL (neg : Bool) (l : List UInt8) : zval neg (ofL l) = if neg then -beV l else beV l := by
 unfold zval bytesOf
 rw [show (ofL l).data.toList = l from rfl, beV_le]
def tidyL (l : List UInt8) : List UInt8 := l.dropWhile (· == 0)
theorem tidy_val (l : List UInt8) : beV (tidyL l) = beV l := by
 induction l with
 | nil => rfl
 | cons c l ih =>
  unfold tidyL
  rw [List.dropWhile_cons]
  split
  ·rename_i h
   have h0 : c = 0 := by simpa using h
   subst h0
   rw [show List.dropWhile (fun x => x == 0) l = tidyL l from rfl, ih, beV]
   have : ((0 : UInt8).toNat : Int) = 0 := rfl
   rw [this, Int.zero_mul, Int.zero_add]
  ·rfl
theorem tidy_head (l : List UInt8) (c : UInt8) (r : List UInt8) (h : tidyL l = c :: r) : 1 ≤ c.toNat := by
 induction l with
 | nil => simp [tidyL] at h
 | cons x l ih =>
  unfold tidyL at h
  rw [List.dropWhile_cons] at h
  split at h
  ·exact ih h
  ·rename_i hx
   obtain ⟨rfl, _⟩ := List.cons.inj h
   rcases Nat.eq_zero_or_pos x.toNat with h0 | h0
   ·exact absurd (by simpa using UInt8.toNat_inj.1 (show x.toNat = (0 : UInt8).toNat from h0)) hx
   ·exact h0
theorem tidy_le (l : List UInt8) : (tidyL l).length ≤ l.length := by
 induction l with
 | nil => simp [tidyL]
 | cons c l ih =>
  unfold tidyL
  rw [List.dropWhile_cons]
  split
  ·have : (tidyL l).length ≤ l.length := ih
   simp only [List.length_cons]
   exact Nat.le_succ_of_le this
  ·simp
theorem isEmpty_ofL (l : List UInt8) : (ofL l).toList.isEmpty = l.isEmpty := by rw [toList_ofL]
theorem tidy_l (neg : Bool) (n : Nat) : ∀ l : List UInt8, l.length = n → n ≤ 140737488351232 → Ev (fun k => spec_numTidy.l0 k neg (ofL l)) (neg && !(tidyL l).isEmpty, ofL (tidyL l)) := by
 induction n with
 | zero =>
  intro l h hl
  have : l = [] := List.length_eq_zero_iff.1 h
  subst this
  refine Ev.step (fun _ => by rw [spec_numTidy.l0]) (ev_neg (by rw [ofL_size]; simp) ?_)
  cases neg with
  | true => exact ev_t (ev_now (by rw [isEmpty_ofL]; rfl))
  | false => exact ev_f (ev_now rfl)
 | succ n ih =>
  intro l h hl
  obtain ⟨c, r, rfl⟩ : ∃ c r, l = c :: r := by
   cases l with
   | nil => simp at h
   | cons c r => exact ⟨c, r, rfl⟩
  have hb : bt (ofL (c :: r)) 0 = (c.toNat : Int) := bt_ofL (c :: r) 0 (by simp)
  have hs := ofL_size (c :: r)
  have hx : (ofL (c :: r)).extract 1 (ofL (c :: r)).size = ofL r := by rw [hs, ofL_extract, List.take_of_length_le (Nat.le_refl _)]; rfl
  refine Ev.step (fun _ => by rw [spec_numTidy.l0, hb, hx]) (ev_pos (by omega) (ev_pos (by omega) ?_))
  by_cases h0 : c = 0
  ·subst h0
   refine ev_pos rfl (ev_pos (by omega) ?_)
   exact ih r (by simpa using h) (by omega)
  ·have hne : ¬ (c.toNat : Int) = 0 := fun hh => h0 (UInt8.toNat_inj.1 (show c.toNat = (0 : UInt8).toNat by have : (0 : UInt8).toNat = 0 := rfl; omega))
   have ht : tidyL (c :: r) = c :: r := by
    unfold tidyL
    rw [List.dropWhile_cons, if_neg (by simpa using h0)]
   rw [ht]
   refine ev_neg hne ?_
   cases neg with
   | true => exact ev_t (ev_now (by rw [isEmpty_ofL]; rfl))
   | false => exact ev_f (ev_now rfl)
theorem tidy_ev (neg : Bool) (l : List UInt8) (hl : l.length ≤ 140737488351232) : Ev (fun k => spec_numTidy.f k neg (ofL l)) (neg && !(tidyL l).isEmpty, ofL (tidyL l)) := tidy_l neg l.length l rfl hl
/-- A number as it must be written. -/
def okN (neg : Bool) (l : List UInt8) : Bool := (neg && !(tidyL l).isEmpty) == neg && tidyL l == l
theorem intOK_ev (neg : Bool) (l : List UInt8) (hl : l.length ≤ 140737488351232) : Ev (fun k => spec_IntOK.f k neg (ofL l)) (okN neg l) := by
 unfold spec_IntOK.f
 refine Ev.bind (tidy_ev neg l hl) (ev_now ?_)
 simp only [toList_ofL]
 rfl
theorem less_val : ∀ a b : List UInt8, a.length = b.length → (Op.bytesLess a b = true ↔ beV a < beV b)
 | [], [], _ => by simp [Op.bytesLess, beV]
 | [], _ :: _, h => by simp at h
 | _ :: _, [], h => by simp at h
 | x :: a, y :: b, h => by
  have hl : a.length = b.length := by simpa using h
  have ih := less_val a b hl
  have ha := beV_lt a
  have hb := beV_lt b
  have na := beV_nonneg a
  have nb := beV_nonneg b
  unfold beV
  rw [hl] at ha ⊢
  simp only [Op.bytesLess, Bool.or_eq_true, Bool.and_eq_true, decide_eq_true_eq, beq_iff_eq, ih]
  have hP := pow256_pos b.length
  rcases Nat.lt_trichotomy x.toNat y.toNat with h1 | h1 | h1
  ·have hlt : x < y := h1
   have := Bn.mul_step hP (show (x.toNat : Int) + 1 ≤ (y.toNat : Int) by omega)
   rw [Int.mul_comm, Int.mul_comm (256 ^ b.length) (y.toNat : Int)] at this
   exact ⟨fun _ => by omega, fun _ => .inl hlt⟩
  ·have e : x = y := UInt8.toNat_inj.1 h1
   subst e
   have hn : ¬ x < x := fun h' => by have h' : x.toNat < x.toNat := h'; omega
   constructor
   ·rintro (h' | ⟨_, h'⟩)
    ·exact absurd h' hn
    ·omega
   ·intro h'
    exact .inr ⟨rfl, by omega⟩
  ·have hn : ¬ x < y := fun h' => by have h' : x.toNat < y.toNat := h'; omega
   have hne : ¬ x = y := fun e => by subst e; omega
   have := Bn.mul_step hP (show (y.toNat : Int) + 1 ≤ (x.toNat : Int) by omega)
   rw [Int.mul_comm, Int.mul_comm (256 ^ b.length) (x.toNat : Int)] at this
   constructor
   ·rintro (h' | ⟨h', _⟩)
    ·exact absurd h' hn
    ·exact absurd h' hne
   ·intro h'
    omega
theorem order_val (a b : List UInt8) (h : a.length = b.length) : spec_order.f (ofL a) (ofL b) = some (Bn.cmpZ (beV a) (beV b)) := by
 unfold spec_order.f Bn.cmpZ
 rw [toList_ofL, toList_ofL]
 by_cases h1 : beV a < beV b
 ·rw [if_pos ((less_val a b h).2 h1), if_pos h1]
 ·rw [if_neg (fun h' => h1 ((less_val a b h).1 h')), if_neg h1]
  by_cases h2 : beV b < beV a
  ·rw [if_pos ((less_val b a h.symm).2 h2), if_pos h2]
  ·rw [if_neg (fun h' => h2 ((less_val b a h.symm).1 h')), if_neg h2]
theorem len_val (a b : List UInt8) (h : a.length < b.length) (c : UInt8) (r : List UInt8) (hb : b = c :: r) (hc : 1 ≤ c.toNat) : beV a < beV b := by
 subst hb
 have h1 := beV_lt a
 have h2 := beV_nonneg r
 have h3 : (256 : Int) ^ a.length ≤ 256 ^ r.length := by
  have : (256 : Nat) ^ a.length ≤ 256 ^ r.length := Nat.pow_le_pow_right (by decide) (by simp at h; omega)
  have e2 : ((256 ^ a.length : Nat) : Int) ≤ ((256 ^ r.length : Nat) : Int) := Int.ofNat_le.2 this
  rwa [Int.natCast_pow, Int.natCast_pow] at e2
 have h4 : 1 * (256 : Int) ^ r.length ≤ (c.toNat : Int) * 256 ^ r.length := Int.mul_le_mul_of_nonneg_right (by omega) (by have := pow256_pos r.length; omega)
 rw [show beV (c :: r) = (c.toNat : Int) * 256 ^ r.length + beV r from rfl]
 omega
theorem orderInts_f (a b : Int) : spec_orderInts.f a b = some (Bn.cmpZ a b) := by
 unfold spec_orderInts.f Bn.cmpZ
 split
 ·rfl
 ·split
  ·rfl
  ·rfl
theorem cmpZ_same {a b c d : Int} (h1 : a < b ↔ c < d) (h2 : b < a ↔ d < c) : Bn.cmpZ a b = Bn.cmpZ c d := by
 unfold Bn.cmpZ
 by_cases x : a < b
 ·rw [if_pos x, if_pos (h1.1 x)]
 ·rw [if_neg x, if_neg (fun h => x (h1.2 h))]
  by_cases y : b < a
  ·rw [if_pos y, if_pos (h2.1 y)]
  ·rw [if_neg y, if_neg (fun h => y (h2.2 h))]
theorem j2_ev (n0 n1 : Bool) (a b : List UInt8) : Ev (fun k => spec_intOrder.j2 k n0 (ofL (tidyL a)) n1 (ofL (tidyL b))) (Bn.cmpZ (beV a) (beV b)) := by
 have va := tidy_val a
 have vb := tidy_val b
 refine Ev.step (fun _ => by rw [spec_intOrder.j2, ofL_size, ofL_size]) ?_
 by_cases h : (tidyL a).length = (tidyL b).length
 ·refine ev_pos (by omega) ?_
  rw [order_val _ _ h, va, vb]
  exact ev_now rfl
 ·refine ev_neg (by omega) ?_
  rw [orderInts_f]
  refine ev_now ?_
  by_cases h1 : (tidyL a).length < (tidyL b).length
  ·obtain ⟨c, r, hb⟩ : ∃ c r, tidyL b = c :: r := by
    cases hx : tidyL b with
    | nil => rw [hx] at h1; simp at h1
    | cons c r => exact ⟨c, r, rfl⟩
   have := len_val _ _ h1 c r hb (tidy_head b c r hb)
   exact cmpZ_same (by omega) (by omega)
  ·obtain ⟨c, r, ha⟩ : ∃ c r, tidyL a = c :: r := by
    cases hx : tidyL a with
    | nil => rw [hx, List.length_nil] at h h1; omega
    | cons c r => exact ⟨c, r, rfl⟩
   have := len_val (tidyL b) (tidyL a) (by omega) c r ha (tidy_head a c r ha)
   exact cmpZ_same (by omega) (by omega)
theorem tidy_empty {l : List UInt8} (h : (tidyL l).isEmpty = true) : beV l = 0 := by
 rw [← tidy_val, List.isEmpty_iff.1 h]
 rfl
theorem tidy_full {l : List UInt8} (h : (tidyL l).isEmpty = false) : 1 ≤ beV l := by
 obtain ⟨c, r, hc⟩ : ∃ c r, tidyL l = c :: r := by
  cases hx : tidyL l with
  | nil => rw [hx] at h; simp at h
  | cons c r => exact ⟨c, r, rfl⟩
 have := len_val [] (tidyL l) (by rw [hc]; simp) c r hc (tidy_head l c r hc)
 rw [tidy_val] at this
 have e : beV [] = 0 := rfl
 omega
theorem intOrder_ev (n0 n1 : Bool) (a b : List UInt8) (ha : a.length ≤ 140737488351232) (hb : b.length ≤ 140737488351232) : Ev (fun k => spec_intOrder.f k n0 (ofL a) n1 (ofL b)) (Bn.cmpZ (zval n0 (ofL a)) (zval n1 (ofL b))) := by
 unfold spec_intOrder.f
 refine Ev.bind (tidy_ev n0 a ha) (Ev.bind (tidy_ev n1 b hb) ?_)
 rw [zval_ofL, zval_ofL]
 have na := beV_nonneg a
 have nb := beV_nonneg b
 have step : ∀ x y : Bool, x = true → y = true → x = y := fun x y hx hy => hx.trans hy.symm
 cases h0 : (n0 && !(tidyL a).isEmpty) with
 | true =>
  obtain ⟨rfl, e0⟩ : n0 = true ∧ (tidyL a).isEmpty = false := by simpa using h0
  have pa := tidy_full e0
  refine ev_t ?_
  cases h1 : (n1 && !(tidyL b).isEmpty) with
  | true =>
   obtain ⟨rfl, e1⟩ : n1 = true ∧ (tidyL b).isEmpty = false := by simpa using h1
   refine Ev.step (fun _ => by rw [spec_intOrder.j0]) (ev_neg (by simp) (ev_t ?_))
   refine Ev.step (fun _ => by rw [spec_intOrder.j1]) (ev_f (ev_t ?_))
   refine ev_eq (j2_ev _ _ b a) ?_
   exact cmpZ_same (by first | (simp; done) | (simp; omega)) (by first | (simp; done) | (simp; omega))
  | false =>
   have hb0 : 0 ≤ (if n1 = true then -beV b else beV b) := by
    cases n1 with
    | false => simpa using nb
    | true =>
     have := tidy_empty (show (tidyL b).isEmpty = true by simpa using h1)
     rw [this]
     decide
   refine Ev.step (fun _ => by rw [spec_intOrder.j0]) (ev_pos (by simp) (ev_now ?_))
   unfold Bn.cmpZ
   rw [if_pos (by simp; omega)]
 | false =>
  have ha0 : (if n0 = true then -beV a else beV a) = beV a := by
   cases n0 with
   | false => rfl
   | true =>
    have := tidy_empty (show (tidyL a).isEmpty = true by simpa using h0)
    rw [this]
    rfl
  rw [ha0]
  refine ev_f (Ev.step (fun _ => by rw [spec_intOrder.j0]) (ev_f (ev_f ?_)))
  cases h1 : (n1 && !(tidyL b).isEmpty) with
  | true =>
   obtain ⟨rfl, e1⟩ : n1 = true ∧ (tidyL b).isEmpty = false := by simpa using h1
   have pb := tidy_full e1
   refine Ev.step (fun _ => by rw [spec_intOrder.j1]) (ev_t (ev_now ?_))
   unfold Bn.cmpZ
   rw [if_neg (by simp; omega), if_pos (by simp; omega)]
  | false =>
   have hb0 : (if n1 = true then -beV b else beV b) = beV b := by
    cases n1 with
    | false => rfl
    | true =>
     have := tidy_empty (show (tidyL b).isEmpty = true by simpa using h1)
     rw [this]
     rfl
   rw [hb0]
   exact Ev.step (fun _ => by rw [spec_intOrder.j1]) (ev_f (ev_f (j2_ev _ _ a b)))
end Go.Proofs.YtajglnedoeboaaaGreatDoor.Com

namespace Go.Proofs.YtajglnedoeboaaaGreatDoor.Cm
open Go.RowKit Go.Proofs.YtajglnedoeboaaaGreatDoor.Z Go.Proofs.YtajglnedoeboaaaGreatDoor.Com Go.Proofs.YtajglnedoeboaaaGreatDoor.Evs Go.Proofs.YtajglnedoeboaaaGreatDoor.By Go.Proofs.YtajglnedoeboaaaGreatDoorW.PrintWords Go.Proofs.YtajglnedoeboaaaGreatDoorW.PrintLast
set_option linter.unusedVariables false
set_option linter.unusedSimpArgs false
abbrev LI : Type := S66
abbrev LZ : Type := S85
def lv (x : LI) : Int := zval x.f0 x.f1
def ltoZ (x : LI) : LZ := ⟨x.f0, x.f1⟩

theorem rd_at (l : List LI) (i : Nat) (hi : i < l.length) : rd_T66 l (i : Int) = l[i] := by
 unfold rd_T66
 rw [Int.toNat_natCast, List.getD_eq_getElem?_getD, List.getElem?_eq_getElem hi]
 rfl
theorem intOK_ev' (x : LI) (hx : x.f1.size ≤ 140737488351232) : Ev (fun k => spec_IntOK.f k x.f0 x.f1) (okN x.f0 (bl x.f1)) := by
 have := intOK_ev x.f0 (bl x.f1) (by rw [bl_length]; exact hx)
 rwa [ofL_bl] at this
theorem intOrder_ev' (x y : LI) (hx : x.f1.size ≤ 140737488351232) (hy : y.f1.size ≤ 140737488351232) : Ev (fun k => spec_intOrder.f k x.f0 x.f1 y.f0 y.f1) (Bn.cmpZ (lv x) (lv y)) := by
 have := intOrder_ev x.f0 y.f0 (bl x.f1) (bl y.f1) (by rw [bl_length]; exact hx) (by rw [bl_length]; exact hy)
 rwa [ofL_bl, ofL_bl] at this
/-- Whatever zzFits2 says of a list, it says it; if yes, no text is too long. -/
theorem fits2_l (l : List LI) (hl : (l.length : Int) ≤ 2147483647) (d : Nat) : ∀ i : Nat, i + d = l.length → ∃ b, Ev (fun k => laws_zzFits2.l0 k l (l.length : Int) (i : Int)) b ∧ (b = true → ∀ x ∈ l.drop i, (x.f1.size : Int) ≤ 2147483647) := by
 induction d with
 | zero =>
  intro i h
  refine ⟨true, Ev.step (fun _ => by rw [laws_zzFits2.l0]) (ev_neg (by omega) (Ev.now _)), fun _ x hx => ?_⟩
  rw [List.drop_of_length_le (by omega)] at hx
  simp at hx
 | succ d ih =>
  intro i h
  have hi : i < l.length := by omega
  have e : l.drop i = l[i] :: l.drop (i + 1) := List.drop_eq_getElem_cons hi
  have hw : wrap64 ((i : Int) + 1) = ((i + 1 : Nat) : Int) := wrap_nat (by omega)
  obtain ⟨b, hb, hs⟩ := ih (i + 1) (by omega)
  by_cases c : ((l[i]).f1.size : Int) > 2147483647
  ·have hf : laws_zzFits3.f (l[i]).f0 (l[i]).f1 = some false := by unfold laws_zzFits3.f; rw [if_pos c]
   exact ⟨false, Ev.step (fun _ => by rw [laws_zzFits2.l0, rd_at l i hi, hf, Option.bind_some]) (ev_pos (by omega) (ev_pos (by omega) (ev_pos (by omega) (ev_f (Ev.now _))))), by simp⟩
  ·have hf : laws_zzFits3.f (l[i]).f0 (l[i]).f1 = some true := by unfold laws_zzFits3.f; rw [if_neg c]
   refine ⟨b, Ev.step (fun _ => by rw [laws_zzFits2.l0, rd_at l i hi, hf, Option.bind_some, hw]) (ev_pos (by omega) (ev_pos (by omega) (ev_pos (by omega) (ev_t hb)))), fun hb x hx => ?_⟩
   rw [e] at hx
   rcases List.mem_cons.1 hx with rfl | hx
   ·omega
   ·exact hs hb x hx
theorem fits2_ev (l : List LI) : ∃ b, Ev (fun k => laws_zzFits2.f k l) b ∧ (b = true → l.length ≤ 2147483647 ∧ ∀ x ∈ l, x.f1.size ≤ 2147483647) := by
 unfold laws_zzFits2.f
 by_cases c : (l.length : Int) > 2147483647
 ·exact ⟨false, ev_pos c (Ev.now _), by simp⟩
 ·obtain ⟨b, hb, hs⟩ := fits2_l l (by omega) l.length 0 (by omega)
  refine ⟨b, ev_neg c hb, fun h => ⟨by omega, fun x hx => ?_⟩⟩
  have := hs h x (by simpa using hx)
  omega
theorem numbers_l (l : List LI) (hl : l.length ≤ 2147483647) (hs : ∀ x ∈ l, x.f1.size ≤ 2147483647) (d : Nat) : ∀ i : Nat, i + d = l.length → ∃ b, Ev (fun k => laws_numbers.l0 k l l (l.length : Int) (i : Int)) b ∧ (b = true → l.length ≤ 150 ∧ ∀ x ∈ l.drop i, x.f1.size ≤ 1500 ∧ okN x.f0 (bl x.f1) = true) := by
 induction d with
 | zero =>
  intro i h
  refine ⟨_, Ev.step (fun _ => by rw [laws_numbers.l0]) (ev_neg (by omega) (Ev.now _)), fun hb => ⟨by have := of_decide_eq_true hb; omega, fun x hx => ?_⟩⟩
  rw [List.drop_of_length_le (by omega)] at hx
  simp at hx
 | succ d ih =>
  intro i h
  have hi : i < l.length := by omega
  have e : l.drop i = l[i] :: l.drop (i + 1) := List.drop_eq_getElem_cons hi
  have hw : wrap64 ((i : Int) + 1) = ((i + 1 : Nat) : Int) := wrap_nat (by omega)
  have hsz := hs _ (List.getElem_mem hi)
  have hok := intOK_ev' l[i] (by omega)
  obtain ⟨b, hb, hq⟩ := ih (i + 1) (by omega)
  cases ho : okN (l[i]).f0 (bl (l[i]).f1) with
  | false =>
   rw [ho] at hok
   refine ⟨false, ?_, by simp⟩
   refine Ev.step (fun _ => by rw [laws_numbers.l0, rd_at l i hi]) ?_
   exact ev_pos (by omega) (ev_pos (by omega) (ev_pos (by omega) (Ev.bind hok (ev_f (Ev.now _)))))
  | true =>
   rw [ho] at hok
   by_cases c : ((l[i]).f1.size : Int) > 1500
   ·refine ⟨false, ?_, by simp⟩
    refine Ev.step (fun _ => by rw [laws_numbers.l0, rd_at l i hi]) ?_
    exact ev_pos (by omega) (ev_pos (by omega) (ev_pos (by omega) (Ev.bind hok (ev_t (ev_pos c (Ev.now _))))))
   ·have hev : Ev (fun k => laws_numbers.l0 k l l (l.length : Int) (i : Int)) b := by
     refine Ev.step (fun _ => by rw [laws_numbers.l0, rd_at l i hi, hw]) ?_
     exact ev_pos (by omega) (ev_pos (by omega) (ev_pos (by omega) (Ev.bind hok (ev_t (ev_neg c hb)))))
    refine ⟨b, hev, fun h => ⟨(hq h).1, fun x hx => ?_⟩⟩
    rw [e] at hx
    rcases List.mem_cons.1 hx with rfl | hx
    ·exact ⟨by omega, ho⟩
    ·exact (hq h).2 x hx
theorem numbers_ev (l : List LI) (hl : l.length ≤ 2147483647) (hs : ∀ x ∈ l, x.f1.size ≤ 2147483647) : ∃ b, Ev (fun k => laws_numbers.f k l) b ∧ (b = true → l.length ≤ 150 ∧ ∀ x ∈ l, x.f1.size ≤ 1500 ∧ okN x.f0 (bl x.f1) = true) := by
 obtain ⟨b, hb, h⟩ := numbers_l l hl hs l.length 0 (by omega)
 exact ⟨b, hb, fun hh => ⟨(h hh).1, fun x hx => (h hh).2 x (by simpa using hx)⟩⟩
/-- A list whose numbers are written as they must be, none long. -/
def GoodL (l : List LI) : Prop := l.length ≤ 1000 ∧ ∀ x ∈ l, x.f1.size ≤ 1500
theorem nth_at (l : List LI) (i : Nat) (h : i < l.length) : nth (l.map lv) i = lv l[i] := by
 rw [nth, List.getD_eq_getElem?_getD, List.getElem?_map, List.getElem?_eq_getElem h]
 rfl
theorem nth_out (l : List Int) (i : Nat) (h : l.length ≤ i) : nth l i = 0 := by
 rw [nth, List.getD_eq_getElem?_getD, List.getElem?_eq_none h]
 rfl
def lz0 : LI := ⟨false, ⟨#[]⟩⟩
theorem zvI_zero : lv lz0 = 0 := rfl
theorem cmp_l (a b : List LI) (ha : GoodL a) (hb : GoodL b) (d : Nat) : ∀ i : Nat, i + d = max a.length b.length → Ev (fun k => spec_CompareNumbers.l0 k a b (i : Int)) (cmpFrom (a.map lv) (b.map lv) d i) := by
 induction d with
 | zero =>
  intro i h
  have h1 : a.length ≤ i := by have := Nat.le_max_left a.length b.length; omega
  have h2 : b.length ≤ i := by have := Nat.le_max_right a.length b.length; omega
  refine Ev.step (fun _ => by rw [spec_CompareNumbers.l0]) (ev_neg (by omega) ?_)
  rw [decide_eq_false (by omega)]
  refine Ev.step (fun _ => by rw [spec_CompareNumbers.j1]) ?_
  exact ev_f (ev_now rfl)
 | succ d ih =>
  intro i h
  have hw : wrap64 ((i : Int) + 1) = ((i + 1 : Nat) : Int) := wrap_nat (by have := ha.1; have := hb.1; omega)
  have next := ih (i + 1) (by omega)
  have key : ∀ x y : LI, x.f1.size ≤ 1500 → y.f1.size ≤ 1500 → nth (a.map lv) i = lv x → nth (b.map lv) i = lv y →
    Ev (fun k => (spec_intOrder.f k x.f0 x.f1 y.f0 y.f1).bind fun t => if t = 0 then spec_CompareNumbers.l0 k a b (wrap64 ((i : Int) + 1)) else some t) (cmpFrom (a.map lv) (b.map lv) (d + 1) i) := by
   intro x y hx hy e1 e2
   refine Ev.bind (intOrder_ev' x y (by omega) (by omega)) ?_
   rw [cmpFrom, e1, e2, hw]
   by_cases hz : Bn.cmpZ (lv x) (lv y) = 0
   ·rw [if_pos hz]
    exact ev_pos hz next
   ·rw [if_neg hz]
    exact ev_neg hz (ev_now rfl)
  have j2 : ∀ x : LI, x.f1.size ≤ 1500 → nth (a.map lv) i = lv x → Ev (fun k => spec_CompareNumbers.j2 k a b (i : Int) x.f0 x.f1 false ⟨#[]⟩) (cmpFrom (a.map lv) (b.map lv) (d + 1) i) := by
   intro x hx e1
   refine Ev.step (fun _ => by rw [spec_CompareNumbers.j2]) ?_
   by_cases h2 : i < b.length
   ·refine ev_pos (by omega) (ev_pos (by omega) ?_)
    rw [rd_at b i h2]
    exact key x b[i] hx (hb.2 _ (List.getElem_mem h2)) e1 (nth_at b i h2)
   ·refine ev_neg (by omega) ?_
    exact key x lz0 hx (by decide) e1 (by rw [nth_out _ _ (by simp; omega)]; rfl)
  have j1 : Ev (fun k => spec_CompareNumbers.j1 k a b (i : Int) true) (cmpFrom (a.map lv) (b.map lv) (d + 1) i) := by
   refine Ev.step (fun _ => by rw [spec_CompareNumbers.j1]) (ev_t ?_)
   by_cases h1 : i < a.length
   ·refine ev_pos (by omega) (ev_pos (by omega) ?_)
    rw [rd_at a i h1]
    exact j2 a[i] (ha.2 _ (List.getElem_mem h1)) (nth_at a i h1)
   ·refine ev_neg (by omega) ?_
    exact j2 lz0 (by decide) (by rw [nth_out _ _ (by simp; omega)]; rfl)
  refine Ev.step (fun _ => by rw [spec_CompareNumbers.l0]) ?_
  by_cases h1 : i < a.length
  ·exact ev_pos (by omega) j1
  ·refine ev_neg (by omega) ?_
   have h2 : i < b.length := by omega
   rw [decide_eq_true (by omega)]
   exact j1
theorem cmp_ev (a b : List LI) (ha : GoodL a) (hb : GoodL b) : Ev (fun k => spec_CompareNumbers.f k a b) (cmpLists (a.map lv) (b.map lv)) := by
 have := cmp_l a b ha hb (max a.length b.length) 0 (by omega)
 rw [cmpLists, List.length_map, List.length_map]
 exact this
theorem cZ_turn (x y : Int) : Bn.cmpZ y x = -Bn.cmpZ x y := by
 unfold Bn.cmpZ
 repeat' split
 all_goals omega
theorem cZ_range (x y : Int) : -1 ≤ Bn.cmpZ x y ∧ Bn.cmpZ x y ≤ 1 := by
 unfold Bn.cmpZ
 repeat' split
 all_goals omega
theorem cmpFrom_turn (a b : List Int) : ∀ d i, cmpFrom b a d i = -cmpFrom a b d i
 | 0, _ => rfl
 | d + 1, i => by
  rw [cmpFrom, cmpFrom, cZ_turn (nth a i) (nth b i)]
  by_cases h : Bn.cmpZ (nth a i) (nth b i) = 0
  ·rw [if_pos h, if_pos (by omega), cmpFrom_turn a b d (i + 1)]
  ·rw [if_neg h, if_neg (by omega)]
theorem cmpLists_turn (a b : List Int) : cmpLists b a = -cmpLists a b := by
 rw [cmpLists, cmpLists, Nat.max_comm, cmpFrom_turn]
theorem cmpFrom_range (a b : List Int) : ∀ d i, -1 ≤ cmpFrom a b d i ∧ cmpFrom a b d i ≤ 1
 | 0, _ => by rw [cmpFrom]; omega
 | d + 1, i => by
  rw [cmpFrom]
  split
  ·exact cmpFrom_range a b d (i + 1)
  ·exact cZ_range _ _
theorem cmpLists_range (a b : List Int) : -1 ≤ cmpLists a b ∧ cmpLists a b ≤ 1 := cmpFrom_range _ _ _ _
/-- How far the comparison looks behind both lists' ends changes nothing. -/
theorem cmpFrom_zeros (a b : List Int) : ∀ d i, (∀ j, i ≤ j → nth a j = nth b j) → cmpFrom a b d i = 0
 | 0, _, _ => rfl
 | d + 1, i, h => by
  have e := h i (Nat.le_refl i)
  rw [cmpFrom, e]
  have hz : Bn.cmpZ (nth b i) (nth b i) = 0 := by unfold Bn.cmpZ; rw [if_neg (by omega), if_neg (by omega)]
  rw [if_pos hz]
  exact cmpFrom_zeros a b d (i + 1) (fun j hj => h j (by omega))
theorem cmpFrom_more (a b : List Int) (e : Nat) : ∀ d i, (∀ j, i + d ≤ j → nth a j = nth b j) → cmpFrom a b (d + e) i = cmpFrom a b d i
 | 0, i, h => by
  rw [Nat.zero_add, cmpFrom_zeros a b e i (fun j hj => h j (by omega))]
  rfl
 | d + 1, i, h => by
  rw [show d + 1 + e = (d + e) + 1 by omega, cmpFrom, cmpFrom, cmpFrom_more a b e d (i + 1) (fun j hj => h j (by omega))]
theorem cmpFrom_same (a b a' b' : List Int) (ha : ∀ j, nth a j = nth a' j) (hb : ∀ j, nth b j = nth b' j) : ∀ d i, cmpFrom a b d i = cmpFrom a' b' d i
 | 0, _ => rfl
 | d + 1, i => by rw [cmpFrom, cmpFrom, ha, hb, cmpFrom_same a b a' b' ha hb d (i + 1)]
theorem cmpLists_more (a b : List Int) (n : Nat) (h : max a.length b.length ≤ n) : cmpFrom a b n 0 = cmpLists a b := by
 have h1 := Nat.le_max_left a.length b.length
 have h2 := Nat.le_max_right a.length b.length
 obtain ⟨e, rfl⟩ : ∃ e, n = max a.length b.length + e := ⟨n - max a.length b.length, by omega⟩
 exact cmpFrom_more a b e _ 0 (fun j hj => by rw [nth_out a j (by omega), nth_out b j (by omega)])
theorem cmpLists_same (a b a' b' : List Int) (ha : ∀ j, nth a j = nth a' j) (hb : ∀ j, nth b j = nth b' j) : cmpLists a b = cmpLists a' b' := by
 rw [← cmpLists_more a b (max a.length b.length + max a'.length b'.length) (by omega), ← cmpLists_more a' b' (max a.length b.length + max a'.length b'.length) (by omega)]
 exact cmpFrom_same a b a' b' ha hb _ _
theorem cmpLists_self (a : List Int) : cmpLists a a = 0 := cmpFrom_zeros a a _ 0 (fun _ _ => rfl)
theorem lk_bigs_l (l : List LI) (hl : l.length ≤ 1000000) (d : Nat) : ∀ (i : Nat) (acc : List LZ), i + d = l.length → acc.length ≤ i → Ev (fun k => impl_bigs.l0 k acc l (l.length : Int) (i : Int)) (acc ++ (l.drop i).map ltoZ) := by
 induction d with
 | zero =>
  intro i acc h ha
  refine Ev.step (fun _ => by rw [impl_bigs.l0]) (ev_neg (by omega) (ev_now ?_))
  rw [List.drop_of_length_le (by omega)]
  simp
 | succ d ih =>
  intro i acc h ha
  have hi : i < l.length := by omega
  have e : l.drop i = l[i] :: l.drop (i + 1) := List.drop_eq_getElem_cons hi
  have hr : rd_T66 l (i : Int) = l[i] := by
   unfold rd_T66
   rw [Int.toNat_natCast, List.getD_eq_getElem?_getD, List.getElem?_eq_getElem hi]
   rfl
  have hw : wrap64 ((i : Int) + 1) = ((i + 1 : Nat) : Int) := wrap_nat (by omega)
  refine Ev.step (fun _ => by rw [impl_bigs.l0, hr, hw]) (ev_pos (by omega) (ev_pos (by omega) (ev_pos (by omega) (ev_pos (by omega) ?_))))
  refine ev_eq (ih (i + 1) (acc ++ [ltoZ l[i]]) (by omega) (by simp; omega)) ?_
  rw [e, List.map_cons, List.append_assoc]
  rfl
theorem lk_bigs_ev (l : List LI) (hl : l.length ≤ 1000000) : Ev (fun k => impl_bigs.f k l) (l.map ltoZ) := by
 have h := lk_bigs_l l hl l.length 0 [] (by omega) (Nat.le_refl _)
 exact h
theorem lk_map (l : List LI) : (l.map ltoZ).map zvS = l.map lv := by rw [List.map_map]; rfl
theorem like_ev (v : Bool) (l : List LI) (hl : l.length ≤ 1000000) (b s : ByteArray) : Ev (fun k => impl_like.f k v l b s) (v, l.map ltoZ, b, s) := by
 unfold impl_like.f
 exact Ev.bind (lk_bigs_ev l hl) (ev_now rfl)
end Go.Proofs.YtajglnedoeboaaaGreatDoor.Cm

namespace Go.Proofs.YtajglnedoeboaaaGreatDoor.Com
open Go.RowKit Go.Proofs.YtajglnedoeboaaaGreatDoor.Z Go.Proofs.YtajglnedoeboaaaGreatDoor.Evs Go.Proofs.YtajglnedoeboaaaGreatDoor.By Go.Proofs.YtajglnedoeboaaaGreatDoorW.PrintWords Go.Proofs.YtajglnedoeboaaaGreatDoorW.PrintLast
set_option linter.unusedVariables false
set_option linter.unusedSimpArgs false

def ptB (c : UInt8) : Bool := c == 46
theorem isPoint_f (c : UInt8) : spec_isPoint.f (c.toNat : Int) = some (ptB c) := by
 unfold spec_isPoint.f ptB
 congr 1
 rw [Bool.eq_iff_iff, beq_iff_eq, beq_iff_eq]
 constructor
 ·intro h
  exact UInt8.toNat_inj.1 (by have : (46 : UInt8).toNat = 46 := rfl; omega)
 ·rintro rfl; rfl
theorem cut_l (l : List UInt8) (hl : l.length ≤ 100000) (d : Nat) : ∀ (i f : Nat) (acc : List ByteArray), i + d = l.length → f ≤ i → acc.length ≤ i →
  Ev (fun k => spec_cut_isPoint.l0 k (ofL l) acc (f : Int) (i : Int)) (acc ++ (onto ((l.take i).drop f) (cutP ptB (l.drop i))).map ofL) := by
 have hs := ofL_size l
 have hext : ∀ i f : Nat, (ofL l).extract ((f : Int)).toNat ((i : Int)).toNat = ofL ((l.take i).drop f) := fun i f => by rw [Int.toNat_natCast, Int.toNat_natCast, ofL_extract]
 induction d with
 | zero =>
  intro i f acc h hf ha
  have e : l.drop i = [] := List.drop_of_length_le (by omega)
  rw [e]
  refine Ev.step (fun _ => by rw [spec_cut_isPoint.l0, hext, wrap_nat (by omega)]) (ev_pos (by omega) (ev_pos (by omega) (ev_pos (by omega) (ev_pos (by omega) (ev_pos (by omega) ?_)))))
  refine Ev.step (fun _ => by rw [spec_cut_isPoint.l0]) (ev_neg (by omega) (ev_now ?_))
  simp [cutP, onto]
 | succ d ih =>
  intro i f acc h hf ha
  have hc := bt_ofL l i (by omega)
  have e : l.drop i = l[i]'(by omega) :: l.drop (i + 1) := List.drop_eq_getElem_cons (by omega)
  have et : l.take (i + 1) = l.take i ++ [l[i]'(by omega)] := (List.take_append_getElem (by omega)).symm
  refine Ev.step (fun _ => by rw [spec_cut_isPoint.l0, hc, isPoint_f, Option.bind_some, hext, wrap_nat (by omega)]) (ev_pos (by omega) (ev_neg (by omega) (ev_pos (by omega) (ev_pos (by omega) ?_))))
  cases hp : ptB (l[i]'(by omega)) with
  | true =>
   refine ev_t (ev_pos (by omega) (ev_pos (by omega) (ev_pos (by omega) ?_)))
   refine ev_eq (ih (i + 1) (i + 1) (acc ++ [ofL ((l.take i).drop f)]) (by omega) (Nat.le_refl _) (by simp; omega)) ?_
   have e0 : (l.take (i + 1)).drop (i + 1) = [] := List.drop_of_length_le (by rw [List.length_take]; omega)
   rw [e, onto_cut _ _ _ _ hp, e0, onto_nil]
   simp
  | false =>
   refine ev_f ?_
   refine ev_eq (ih (i + 1) f acc (by omega) (by omega) (by omega)) ?_
   rw [e, onto_cons _ _ _ _ hp, et, List.drop_append_of_le_length (by simp; omega)]
theorem cut_ev (l : List UInt8) (hl : l.length ≤ 100000) (n : Nat) : Ev (fun k => spec_cut_isPoint.f k (ofL l) n) ((cutP ptB l).map ofL) := by
 unfold spec_cut_isPoint.f
 have := cut_l l hl l.length 0 0 [] (by omega) (Nat.le_refl _) (by simp)
 simpa [onto_nil] using this
end Go.Proofs.YtajglnedoeboaaaGreatDoor.Com

namespace Go.Proofs.YtajglnedoeboaaaGreatDoor.Com
open Go.RowKit Go.Proofs.YtajglnedoeboaaaGreatDoor.Z Go.Proofs.YtajglnedoeboaaaGreatDoor.Evs Go.Proofs.YtajglnedoeboaaaGreatDoor.By Go.Proofs.YtajglnedoeboaaaGreatDoorW.PrintWords Go.Proofs.YtajglnedoeboaaaGreatDoorW.PrintLast
set_option linter.unusedVariables false
set_option linter.unusedSimpArgs false

/-- The place of the first byte of a sort; -1 without one. -/
def idxI (c : UInt8) (l : List UInt8) : Int := if (l.dropWhile (· != c)) = [] then -1 else ((l.takeWhile (· != c)).length : Int)
theorem byte_eq (a c : UInt8) : ((a.toNat : Int) = (c.toNat : Int)) ↔ a = c := ⟨fun h => UInt8.toNat_inj.1 (by omega), fun h => by rw [h]⟩
theorem idx_split (c : UInt8) (l : List UInt8) : ∀ i : Nat, (∀ x ∈ l.take i, (x != c) = true) → l.takeWhile (· != c) = l.take i ++ (l.drop i).takeWhile (· != c) ∧ l.dropWhile (· != c) = (l.drop i).dropWhile (· != c) := by
 intro i h
 have e := List.take_append_drop i l
 constructor
 ·conv => lhs; rw [← e]
  exact List.takeWhile_append_of_pos h
 ·conv => lhs; rw [← e]
  exact List.dropWhile_append_of_pos h
theorem index_l (c : UInt8) (l : List UInt8) (hl : l.length ≤ 140737488351232) (d : Nat) : ∀ i : Nat, i + d = l.length → (∀ x ∈ l.take i, (x != c) = true) → Ev (fun k => spec_indexOf.l0 k (ofL l) (c.toNat : Int) (i : Int)) (idxI c l) := by
 have hs := ofL_size l
 induction d with
 | zero =>
  intro i h hp
  refine Ev.step (fun _ => by rw [spec_indexOf.l0]) (ev_neg (by omega) (ev_now ?_))
  have := (idx_split c l i hp).2
  rw [List.drop_of_length_le (by omega)] at this
  rw [idxI, if_pos (show List.dropWhile (fun x => x != c) l = [] from this)]
 | succ d ih =>
  intro i h hp
  have hi : i < l.length := by omega
  have hc := bt_ofL l i hi
  refine Ev.step (fun _ => by rw [spec_indexOf.l0, hc, wrap_nat (by omega)]) (ev_pos (by omega) (ev_pos (by omega) ?_))
  by_cases e : l[i]'hi = c
  ·refine ev_pos ((byte_eq _ _).2 e) (ev_now ?_)
   have h1 := idx_split c l i hp
   rw [List.drop_eq_getElem_cons hi, List.dropWhile_cons, List.takeWhile_cons, if_neg (by simp [e]), if_neg (by simp [e])] at h1
   have h2 : ¬ List.dropWhile (fun x => x != c) l = [] := fun hh => by
    have := h1.2.symm.trans hh
    cases this
   rw [idxI, if_neg h2, h1.1, List.append_nil, List.length_take]
   omega
  ·refine ev_neg (fun h => e ((byte_eq _ _).1 h)) (ih (i + 1) (by omega) (fun x hx => ?_))
   rw [List.take_succ_eq_append_getElem hi, List.mem_append] at hx
   rcases hx with hx | hx
   ·exact hp x hx
   ·simp at hx
    subst hx
    simpa using e
theorem index_ev (c : UInt8) (l : List UInt8) (hl : l.length ≤ 140737488351232) : Ev (fun k => spec_indexOf.f k (ofL l) (c.toNat : Int)) (idxI c l) := index_l c l hl l.length 0 (by omega) (by simp)
end Go.Proofs.YtajglnedoeboaaaGreatDoor.Com

namespace Go.Proofs.YtajglnedoeboaaaGreatDoor.Com
open Go.RowKit Go.Proofs.YtajglnedoeboaaaGreatDoor.Z Go.Proofs.YtajglnedoeboaaaGreatDoor.Evs Go.Proofs.YtajglnedoeboaaaGreatDoorW.PrintWords Go.Proofs.YtajglnedoeboaaaGreatDoorW.PrintLast
set_option linter.unusedVariables false
set_option linter.unusedSimpArgs false

/-- Ascii: an answer; where it is true every byte is below 128. -/
theorem ascii_l (s : ByteArray) (hs : s.size ≤ 140737488351232) (d : Nat) : ∀ i : Nat, i + d = s.size → ∃ r, Ev (fun k => spec_Ascii.l0 k s (i : Int)) r ∧ (r = true → ∀ j : Nat, i ≤ j → (h : j < s.size) → (s[j]'h).toNat < 128) := by
 induction d with
 | zero => intro i h; exact ⟨true, Ev.step (fun _ => by rw [spec_Ascii.l0]) (ev_neg (by omega) (Ev.now _)), fun _ j h1 h2 => by omega⟩
 | succ d ih =>
  intro i h
  obtain ⟨r, hr, hq⟩ := ih (i + 1) (by omega)
  have hb := bt_nat s i (by omega)
  by_cases c : bt s (i : Int) > 127
  ·exact ⟨false, Ev.step (fun _ => by rw [spec_Ascii.l0]) (ev_pos (by omega) (ev_pos (by omega) (ev_pos c (Ev.now _)))), fun h => by cases h⟩
  ·refine ⟨r, Ev.step (fun _ => by rw [spec_Ascii.l0, wrap_nat (by omega)]) (ev_pos (by omega) (ev_pos (by omega) (ev_neg c hr))), fun h j h1 h2 => ?_⟩
   by_cases e : j = i
   ·subst e; omega
   ·exact hq h j (by omega) h2
theorem ascii_ev (s : ByteArray) (hs : s.size ≤ 140737488351232) : ∃ r, Ev (fun k => spec_Ascii.f k s) r ∧ (r = true → ∀ j : Nat, (h : j < s.size) → (s[j]'h).toNat < 128) := by
 obtain ⟨r, hr, hq⟩ := ascii_l s hs s.size 0 (by omega)
 exact ⟨r, hr, fun h j hj => hq h j (by omega) hj⟩
end Go.Proofs.YtajglnedoeboaaaGreatDoor.Com

namespace Go.Proofs.YtajglnedoeboaaaGreatDoor.Com
open Go.RowKit Go.Proofs.YtajglnedoeboaaaGreatDoor.Z Go.Proofs.YtajglnedoeboaaaGreatDoor.Evs Go.Proofs.YtajglnedoeboaaaGreatDoor.By Go.Proofs.YtajglnedoeboaaaGreatDoorW.PrintWords Go.Proofs.YtajglnedoeboaaaGreatDoorW.PrintLast
set_option linter.unusedVariables false
set_option linter.unusedSimpArgs false

theorem isDigit_f (c : UInt8) : spec_isDigit.f (c.toNat : Int) = some (dg c) := by
 unfold spec_isDigit.f dg
 by_cases h : (c.toNat : Int) ≥ 48
 ·rw [if_pos h]
  congr 1
  rw [Bool.eq_iff_iff, decide_eq_true_eq, decide_eq_true_eq]
  omega
 ·rw [if_neg h]
  congr 1
  symm
  rw [decide_eq_false_iff_not]
  omega
/-- Digits alone, one at least. -/
def allD (l : List UInt8) : Bool := l.all dg && decide (0 < l.length)
theorem digits_l (l : List UInt8) (hl : l.length ≤ 140737488351232) (d : Nat) : ∀ i : Nat, i + d = l.length → Ev (fun k => spec_allDigits.l0 k (ofL l) (i : Int)) ((l.drop i).all dg && decide (0 < l.length)) := by
 have hs := ofL_size l
 induction d with
 | zero =>
  intro i h
  refine Ev.step (fun _ => by rw [spec_allDigits.l0]) (ev_neg (by omega) (ev_now ?_))
  rw [List.drop_of_length_le (by omega), hs]
  simp
 | succ d ih =>
  intro i h
  have hc := bt_ofL l i (by omega)
  refine Ev.step (fun _ => by rw [spec_allDigits.l0, hc, isDigit_f, Option.bind_some, wrap_nat (by omega)]) (ev_pos (by omega) (ev_pos (by omega) ?_))
  rw [List.drop_eq_getElem_cons (by omega), List.all_cons]
  cases e : dg (l[i]'(by omega)) with
  | true => exact ev_t (by simpa using ih (i + 1) (by omega))
  | false => exact ev_f (ev_now (by simp))
theorem digits_ev (l : List UInt8) (hl : l.length ≤ 140737488351232) : Ev (fun k => spec_allDigits.f k (ofL l)) (allD l) := digits_l l hl l.length 0 (by omega)
end Go.Proofs.YtajglnedoeboaaaGreatDoor.Com

namespace Go.Proofs.YtajglnedoeboaaaGreatDoor.Com
open Go.RowKit Go.Proofs.YtajglnedoeboaaaGreatDoor.Z Go.Proofs.YtajglnedoeboaaaGreatDoor.Evs Go.Proofs.YtajglnedoeboaaaGreatDoor.By Go.Proofs.YtajglnedoeboaaaGreatDoorW.PrintWords Go.Proofs.YtajglnedoeboaaaGreatDoorW.PrintLast
set_option linter.unusedVariables false
set_option linter.unusedSimpArgs false

/-- A sign and digits alone. -/
def signed (l : List UInt8) : Bool := match l with
 | [] => false
 | c :: r => (c == 45 || c == 43) && allD r
theorem signed_short (l : List UInt8) (h : ¬ 1 < l.length) : signed l = false := by
 match l, h with
 | [], _ => rfl
 | [c], _ => simp [signed, allD]
 | _ :: _ :: _, h => simp at h
def idK (l : List (List UInt8)) : Bool := l.all fun x => !signed x
theorem rd_map (l : List (List UInt8)) (i : Nat) (h : i < l.length) : rdOf ByteArray.empty (l.map ofL) (i : Int) = ofL (l[i]'h) := by
 rw [rdOf_nat]
 simp [List.getD_eq_getElem?_getD, h]
theorem ident_l (l : List (List UInt8)) (hl : l.length ≤ 100000) (hz : ∀ x ∈ l, x.length ≤ 140737488351232) (d : Nat) : ∀ i : Nat, i + d = l.length → Ev (fun k => spec_IdentifiersKnown.l0 k (l.map ofL) (i : Int)) (idK (l.drop i)) := by
 induction d with
 | zero =>
  intro i h
  refine Ev.step (fun _ => by rw [spec_IdentifiersKnown.l0, List.length_map]) (ev_neg (by omega) (ev_now ?_))
  rw [List.drop_of_length_le (by omega)]
  rfl
 | succ d ih =>
  intro i h
  have hi : i < l.length := by omega
  have hr := rd_map l i hi
  have hlen := hz _ (List.getElem_mem hi)
  have e : l.drop i = l[i] :: l.drop (i + 1) := List.drop_eq_getElem_cons hi
  have hk : idK (l.drop i) = (!signed l[i] && idK (l.drop (i + 1))) := by rw [e]; rfl
  have next := ih (i + 1) (by omega)
  rw [hk]
  refine Ev.step (fun _ => by rw [spec_IdentifiersKnown.l0, List.length_map, hr, ofL_size, wrap_nat (by omega)]) (ev_pos (by omega) (ev_pos (by omega) ?_))
  by_cases h1 : 1 < l[i].length
  ·refine ev_pos (by omega) (ev_pos (by omega) ?_)
   obtain ⟨c, r, hcr⟩ : ∃ c r, l[i] = c :: r := by
    cases hx : l[i] with
    | nil => rw [hx] at h1; simp at h1
    | cons c r => exact ⟨c, r, rfl⟩
   rw [hcr] at hlen h1 ⊢
   have hb : bt (ofL (c :: r)) 0 = (c.toNat : Int) := bt_ofL (c :: r) 0 (by simp)
   have hx : (ofL (c :: r)).extract 1 (c :: r).length = ofL r := by rw [ofL_extract, List.take_of_length_le (Nat.le_refl _)]; rfl
   have hd := digits_ev r (by simp at hlen; omega)
   have c45 : (c.toNat : Int) = 45 ↔ (c == 45) = true := by
    rw [beq_iff_eq]
    exact ⟨fun h => UInt8.toNat_inj.1 (by have : (45 : UInt8).toNat = 45 := rfl; omega), fun h => by rw [h]; rfl⟩
   have c43 : (c.toNat : Int) = 43 ↔ (c == 43) = true := by
    rw [beq_iff_eq]
    exact ⟨fun h => UInt8.toNat_inj.1 (by have : (43 : UInt8).toNat = 43 := rfl; omega), fun h => by rw [h]; rfl⟩
   simp only [hb, hx]
   by_cases h45 : (c == 45) = true
   ·refine ev_pos (c45.2 h45) (ev_pos (by omega) (Ev.bind hd ?_))
    have hsg : signed (c :: r) = allD r := by simp only [signed, h45, Bool.true_or, Bool.true_and]
    rw [hsg]
    cases allD r with
    | true => exact ev_t (ev_now (by simp))
    | false => exact ev_f (by simpa using next)
   ·refine ev_neg (fun h => h45 (c45.1 h)) ?_
    by_cases h43 : (c == 43) = true
    ·refine ev_pos (c43.2 h43) (ev_pos (by omega) (Ev.bind hd ?_))
     have hsg : signed (c :: r) = allD r := by simp only [signed, h43, Bool.or_true, Bool.true_and]
     rw [hsg]
     cases allD r with
     | true => exact ev_t (ev_now (by simp))
     | false => exact ev_f (by simpa using next)
    ·refine ev_neg (fun h => h43 (c43.1 h)) ?_
     have hsg : signed (c :: r) = false := by
      have a : (c == 45) = false := by simpa using h45
      have b : (c == 43) = false := by simpa using h43
      simp only [signed, a, b, Bool.or_false, Bool.false_and]
     rw [hsg]
     simpa using next
  ·refine ev_neg (by omega) ?_
   rw [signed_short _ h1]
   simpa using next
theorem ident_ev (l : List (List UInt8)) (hl : l.length ≤ 100000) (hz : ∀ x ∈ l, x.length ≤ 140737488351232) : Ev (fun k => spec_IdentifiersKnown.f k (l.map ofL)) (idK l) := by
 have := ident_l l hl hz l.length 0 (by omega)
 exact this
end Go.Proofs.YtajglnedoeboaaaGreatDoor.Com

namespace Go.Proofs.YtajglnedoeboaaaGreatDoor.Com
open Go Go.RowKit Go.Proofs.YtajglnedoeboaaaGreatDoor.Z Go.Proofs.YtajglnedoeboaaaGreatDoor.Evs Go.Proofs.YtajglnedoeboaaaGreatDoor.By Go.Proofs.YtajglnedoeboaaaGreatDoorW.PrintWords Go.Proofs.YtajglnedoeboaaaGreatDoorW.PrintLast
set_option linter.unusedVariables false
set_option linter.unusedSimpArgs false

def cmpI (a b : Int) : Int := if a < b then -1 else if b < a then 1 else 0
theorem orderI_f (a b : Int) : spec_orderInts.f a b = some (cmpI a b) := by
 unfold spec_orderInts.f cmpI
 split
 ·rfl
 ·split
  ·rfl
  ·rfl
theorem bless : ∀ a b : List UInt8, Op.bytesLess a b = decide (Lib.compareBytes a b = -1)
 | [], [] => rfl
 | [], _ :: _ => rfl
 | _ :: _, [] => rfl
 | x :: a, y :: b => by
  rw [Op.bytesLess, Lib.compareBytes, bless a b]
  by_cases h : x < y
  ·rw [if_pos h]
   simp [h]
  ·rw [if_neg h]
   by_cases h2 : y < x
   ·rw [if_pos h2]
    have : ¬ x = y := fun e => by subst e; exact h h2
    simp [h, this]
   ·rw [if_neg h2]
    have : x = y := UInt8.toNat_inj.1 (by have h : ¬ x.toNat < y.toNat := h; have h2 : ¬ y.toNat < x.toNat := h2; omega)
    subst this
    simp [h]
theorem cmpB_range : ∀ a b : List UInt8, Lib.compareBytes a b = -1 ∨ Lib.compareBytes a b = 0 ∨ Lib.compareBytes a b = 1
 | [], [] => .inr (.inl rfl)
 | [], _ :: _ => .inl rfl
 | _ :: _, [] => .inr (.inr rfl)
 | x :: a, y :: b => by
  rw [Lib.compareBytes]
  split
  ·exact .inl rfl
  ·split
   ·exact .inr (.inr rfl)
   ·exact cmpB_range a b
theorem cmpB_anti : ∀ a b : List UInt8, Lib.compareBytes b a = -Lib.compareBytes a b
 | [], [] => rfl
 | [], _ :: _ => rfl
 | _ :: _, [] => rfl
 | x :: a, y :: b => by
  rw [Lib.compareBytes, Lib.compareBytes, cmpB_anti a b]
  by_cases h : x < y
  ·have h2 : ¬ y < x := fun h2 => by have h : x.toNat < y.toNat := h; have h2 : y.toNat < x.toNat := h2; omega
   rw [if_pos h, if_neg h2, if_pos h]; rfl
  ·by_cases h2 : y < x
   ·rw [if_pos h2, if_neg h, if_pos h2]
   ·rw [if_neg h2, if_neg h, if_neg h, if_neg h2]
theorem order_f (a b : List UInt8) : spec_order.f (ofL a) (ofL b) = some (Lib.compareBytes a b) := by
 unfold spec_order.f
 rw [toList_ofL, toList_ofL, bless, bless, cmpB_anti a b]
 rcases cmpB_range a b with h | h | h <;> rw [h] <;> rfl
/-- Digits without the zeros ahead. -/
def stripZ (l : List UInt8) : List UInt8 := l.dropWhile (· == 48)
def cmpD (a b : List UInt8) : Int := if (stripZ a).length = (stripZ b).length then Lib.compareBytes (stripZ a) (stripZ b) else cmpI ((stripZ a).length : Int) ((stripZ b).length : Int)
theorem strip_not (c : UInt8) (l : List UInt8) (e : ¬ c = 48) : stripZ (c :: l) = c :: l := by
 rw [stripZ, List.dropWhile_cons, if_neg (by simpa using e)]
theorem ext1 (c : UInt8) (r : List UInt8) : (ofL (c :: r)).extract 1 (ofL (c :: r)).size = ofL r := by
 rw [ofL_size, ofL_extract, List.take_length]
 rfl
theorem onum3 (a b : List UInt8) : Ev (fun k => spec_orderNumbers.j3 k (ofL a) (ofL b)) (if a.length = b.length then Lib.compareBytes a b else cmpI (a.length : Int) (b.length : Int)) := by
 refine Ev.step (fun _ => by rw [spec_orderNumbers.j3, ofL_size, ofL_size, order_f, orderI_f]) ?_
 by_cases h : a.length = b.length
 ·rw [if_pos h]
  exact ev_pos (by omega) (ev_now rfl)
 ·rw [if_neg h]
  exact ev_neg (by omega) (ev_now rfl)
theorem onum1 (a : List UInt8) : ∀ (b : List UInt8), b.length ≤ 140737488351232 → Ev (fun k => spec_orderNumbers.l1 k (ofL a) (ofL b)) (if a.length = (stripZ b).length then Lib.compareBytes a (stripZ b) else cmpI (a.length : Int) ((stripZ b).length : Int))
 | [], _ => Ev.step (fun _ => by rw [spec_orderNumbers.l1]) (ev_neg (by rw [ofL_size]; simp) (onum3 a []))
 | c :: b, h => by
  have hb : bt (ofL (c :: b)) 0 = (c.toNat : Int) := bt_ofL (c :: b) 0 (by simp)
  have hs := ofL_size (c :: b)
  have hl : (c :: b).length = b.length + 1 := rfl
  refine Ev.step (fun _ => by rw [spec_orderNumbers.l1, hb, ext1]) (ev_pos (by omega) (ev_pos (by omega) ?_))
  by_cases e : c = 48
  ·subst e
   refine ev_pos rfl (ev_pos (by omega) ?_)
   have := onum1 a b (by omega)
   rw [show stripZ (48 :: b) = stripZ b from rfl]
   exact this
  ·refine ev_neg (fun h => e (UInt8.toNat_inj.1 (by have : (48 : UInt8).toNat = 48 := rfl; omega))) ?_
   rw [strip_not c b e]
   exact onum3 a (c :: b)
theorem onum0 (b : List UInt8) (hb0 : b.length ≤ 140737488351232) : ∀ (a : List UInt8), a.length ≤ 140737488351232 → Ev (fun k => spec_orderNumbers.l0 k (ofL a) (ofL b)) (cmpD a b)
 | [], _ => Ev.step (fun _ => by rw [spec_orderNumbers.l0]) (ev_neg (by rw [ofL_size]; simp) (Ev.step (fun _ => by rw [spec_orderNumbers.j1]) (onum1 [] b hb0)))
 | c :: a, h => by
  have hb : bt (ofL (c :: a)) 0 = (c.toNat : Int) := bt_ofL (c :: a) 0 (by simp)
  have hs := ofL_size (c :: a)
  have hl : (c :: a).length = a.length + 1 := rfl
  refine Ev.step (fun _ => by rw [spec_orderNumbers.l0, hb, ext1]) (ev_pos (by omega) (ev_pos (by omega) ?_))
  by_cases e : c = 48
  ·subst e
   refine ev_pos rfl (ev_pos (by omega) ?_)
   have := onum0 b hb0 a (by omega)
   rw [cmpD, show stripZ (48 :: a) = stripZ a from rfl]
   exact this
  ·refine ev_neg (fun h => e (UInt8.toNat_inj.1 (by have : (48 : UInt8).toNat = 48 := rfl; omega))) ?_
   rw [cmpD, strip_not c a e]
   exact Ev.step (fun _ => by rw [spec_orderNumbers.j1]) (onum1 (c :: a) b hb0)
theorem orderNumbers_ev (a b : List UInt8) (ha : a.length ≤ 140737488351232) (hb : b.length ≤ 140737488351232) : Ev (fun k => spec_orderNumbers.f k (ofL a) (ofL b)) (cmpD a b) := onum0 b hb a ha
end Go.Proofs.YtajglnedoeboaaaGreatDoor.Com

namespace Go.Proofs.YtajglnedoeboaaaGreatDoor.Com
open Go Go.RowKit Go.Proofs.YtajglnedoeboaaaGreatDoor.Z Go.Proofs.YtajglnedoeboaaaGreatDoor.Evs Go.Proofs.YtajglnedoeboaaaGreatDoor.By Go.Proofs.YtajglnedoeboaaaGreatDoor.Ss Go.Proofs.YtajglnedoeboaaaGreatDoorW.PrintWords Go.Proofs.YtajglnedoeboaaaGreatDoorW.PrintLast
set_option linter.unusedVariables false
set_option linter.unusedSimpArgs false
theorem dig_sg {l : List UInt8} (h : allD l = true) : sgN (ofL l) = 0 ∧ sgB (ofL l) = false := by
 cases l with
 | nil => cases h
 | cons c r =>
  have h0 : 0 < (ofL (c :: r)).size := by rw [ofL_size]; simp
  have hg : (ofL (c :: r))[0]'h0 = c := rfl
  have hd : dg c = true := by
   unfold allD at h
   rw [Bool.and_eq_true] at h
   exact List.all_eq_true.1 h.1 c (by simp)
  have h1 : ¬ c = 45 := fun e => by subst e; revert hd; decide
  have h2 : ¬ c = 43 := fun e => by subst e; revert hd; decide
  unfold sgN sgB
  rw [dif_pos h0, dif_pos h0, hg, if_neg (by simp [h1, h2])]
  exact ⟨rfl, beq_eq_false_iff_ne.2 h1⟩
theorem cvt_digits {l : List UInt8} (h : allD l = true) : cvt (ofL l) = some (Bv.decV l) := by
 obtain ⟨h1, h2⟩ := dig_sg h
 have hb := h
 unfold allD at hb
 rw [Bool.and_eq_true] at hb
 have hl : 0 < l.length := of_decide_eq_true hb.2
 unfold cvt
 rw [h1, h2, bl_ofL, List.drop_zero, if_pos ⟨fun e => by rw [e] at hl; simp at hl, hb.1⟩]
 rfl
theorem cvt_other {l : List UInt8} (h : allD l = false) (hs : signed l = false) : cvt (ofL l) = none := by
 refine if_neg ?_
 rw [bl_ofL]
 rintro ⟨h1, h2⟩
 cases l with
 | nil => exact h1 (by simp)
 | cons c r =>
  have h0 : 0 < (ofL (c :: r)).size := by rw [ofL_size]; simp
  have hg : (ofL (c :: r))[0]'h0 = c := rfl
  have hn : sgN (ofL (c :: r)) = if c = 45 ∨ c = 43 then 1 else 0 := by
   unfold sgN
   rw [dif_pos h0, hg]
  rw [hn] at h1 h2
  by_cases hc : c = 45 ∨ c = 43
  ·rw [if_pos hc] at h1 h2
   have e : signed (c :: r) = allD r := by
    have : (c == 45 || c == 43) = true := by
     rcases hc with rfl | rfl <;> rfl
    simp only [signed, this, Bool.true_and]
   rw [e] at hs
   unfold allD at hs
   have h3 : r.all dg = true := h2
   have h4 : 0 < r.length := List.length_pos_iff.2 h1
   rw [h3, decide_eq_true h4] at hs
   cases hs
  ·rw [if_neg hc] at h1 h2
   unfold allD at h
   have h3 : (c :: r).all dg = true := h2
   rw [h3, decide_eq_true (by simp)] at h
   cases h
theorem cmpI_Z (a b : Int) : cmpI a b = Bn.cmpZ a b := rfl
theorem cmpD_Z {a b : List UInt8} (ha : allD a = true) (hb : allD b = true) : cmpD a b = Bn.cmpZ (Bv.decV a) (Bv.decV b) := by
 unfold allD at ha hb
 rw [Bool.and_eq_true] at ha hb
 exact Bv.dec_cmp a b ha.1 hb.1
/-- How two identifiers compare, as the page has it. -/
def pg (x y : List UInt8) : Int := if allD x && allD y then cmpD x y else if allD x then -1 else if allD y then 1 else Lib.compareBytes x y
theorem pg_idC {x y : List UInt8} (hx : signed x = false) (hy : signed y = false) : idC (ofL x) (ofL y) = pg x y := by
 unfold idC pg
 cases ha : allD x <;> cases hb : allD y
 ·rw [cvt_other ha hx, cvt_other hb hy]
  rfl
 ·rw [cvt_other ha hx, cvt_digits hb]
  rfl
 ·rw [cvt_digits ha, cvt_other hb hy]
  rfl
 ·rw [cvt_digits ha, cvt_digits hb]
  exact (cmpD_Z ha hb).symm
theorem cmpZ_range (a b : Int) : Bn.cmpZ a b = -1 ∨ Bn.cmpZ a b = 0 ∨ Bn.cmpZ a b = 1 := by
 unfold Bn.cmpZ
 split
 ·simp
 ·split <;> simp
theorem idC_range (x y : ByteArray) : idC x y = -1 ∨ idC x y = 0 ∨ idC x y = 1 := by
 unfold idC
 split
 ·exact cmpZ_range _ _
 ·exact cmpB_range _ _
 ·simp
 ·simp
theorem cmpZ_anti (a b : Int) : Bn.cmpZ b a = -Bn.cmpZ a b := by
 unfold Bn.cmpZ
 rcases Int.lt_trichotomy a b with h | h | h
 ·rw [if_neg (by omega), if_pos h, if_pos h]
  rfl
 ·rw [if_neg (by omega), if_neg (by omega), if_neg (by omega), if_neg (by omega)]
  rfl
 ·rw [if_pos h, if_neg (by omega), if_pos h]
theorem idC_anti (x y : ByteArray) : idC y x = -idC x y := by
 unfold idC
 cases cvt x <;> cases cvt y
 ·exact cmpB_anti _ _
 ·rfl
 ·rfl
 ·exact cmpZ_anti _ _
theorem idsC_range : ∀ l r : List ByteArray, idsC l r = -1 ∨ idsC l r = 0 ∨ idsC l r = 1
 | [], [] => .inr (.inl rfl)
 | _ :: _, [] => .inr (.inr rfl)
 | [], _ :: _ => .inl rfl
 | x :: l, y :: r => by
  rw [idsC]
  split
  ·exact idsC_range l r
  ·split <;> simp
theorem idsC_anti : ∀ l r : List ByteArray, idsC r l = -idsC l r
 | [], [] => rfl
 | _ :: _, [] => rfl
 | [], _ :: _ => rfl
 | x :: l, y :: r => by
  rw [idsC, idsC, idC_anti x y]
  rcases idC_range x y with h | h | h <;> rw [h]
  ·rfl
  ·exact idsC_anti l r
  ·rfl
theorem pageOne_ev (x y : List UInt8) (hx : x.length ≤ 140737488351232) (hy : y.length ≤ 140737488351232) : Ev (fun k => spec_pageOne.f k (ofL x) (ofL y)) (pg x y) := by
 unfold spec_pageOne.f pg
 refine Ev.bind (digits_ev x hx) (Ev.bind (digits_ev y hy) ?_)
 cases ha : allD x <;> cases hb : allD y
 ·refine ev_f (Ev.step (fun _ => by rw [spec_pageOne.j0]) ?_)
  refine ev_f (ev_f (ev_f ?_))
  rw [order_f]
  exact ev_now rfl
 ·refine ev_f (Ev.step (fun _ => by rw [spec_pageOne.j0]) ?_)
  exact ev_f (ev_f (ev_t (ev_now rfl)))
 ·refine ev_t (Ev.step (fun _ => by rw [spec_pageOne.j0]) ?_)
  exact ev_f (ev_t (ev_now rfl))
 ·refine ev_t (Ev.step (fun _ => by rw [spec_pageOne.j0]) ?_)
  exact ev_t (Ev.bind (orderNumbers_ev x y hx hy) (ev_now rfl))
theorem cmpI_lens {α : Type} (l r : List α) (i : Nat) (h : i ≤ l.length) (h' : i ≤ r.length) (hi : i = l.length ∨ i = r.length) (f : Int) (hf : f = if r.length < l.length then 1 else if l.length < r.length then -1 else 0) : cmpI (l.length : Int) (r.length : Int) = f := by
 rw [hf]
 unfold cmpI
 rcases Nat.lt_trichotomy l.length r.length with h1 | h1 | h1
 ·rw [if_pos (by omega), if_neg (by omega), if_pos h1]
 ·rw [if_neg (by omega), if_neg (by omega), if_neg (by omega), if_neg (by omega)]
 ·rw [if_neg (by omega), if_pos (by omega), if_pos h1]
theorem idents_l (l r : List (List UInt8)) (hl : l.length ≤ 100000) (hr : r.length ≤ 100000) (hz : ∀ x ∈ l, x.length ≤ 1000000 ∧ signed x = false) (hz' : ∀ x ∈ r, x.length ≤ 1000000 ∧ signed x = false) (d : Nat) : ∀ i : Nat, i + d = min l.length r.length → Ev (fun k => spec_Identifiers.l0 k (l.map ofL) (r.map ofL) (i : Int)) (idsC ((l.map ofL).drop i) ((r.map ofL).drop i)) := by
 induction d with
 | zero =>
  intro i h
  have he := idsC_end (l.map ofL) (r.map ofL) i (by rw [List.length_map, List.length_map]; omega) (by rw [List.length_map]; omega) (by rw [List.length_map]; omega)
  have hc := cmpI_lens (l.map ofL) (r.map ofL) i (by rw [List.length_map]; omega) (by rw [List.length_map]; omega) (by rw [List.length_map, List.length_map]; omega) _ he
  have fin : Ev (fun k => spec_Identifiers.j1 k (l.map ofL) (r.map ofL) (i : Int) false) (idsC ((l.map ofL).drop i) ((r.map ofL).drop i)) := by
   refine Ev.step (fun _ => by rw [spec_Identifiers.j1, orderI_f, Option.bind_some]) (ev_f (ev_now ?_))
   rw [← hc]
  refine Ev.step (fun _ => by rw [spec_Identifiers.l0]) ?_
  by_cases h1 : i < l.length
  ·refine ev_pos (by rw [List.length_map]; omega) ?_
   have : decide ((i : Int) < ((r.map ofL).length : Int)) = false := decide_eq_false (by rw [List.length_map]; omega)
   rw [this]
   exact fin
  ·exact ev_neg (by rw [List.length_map]; omega) fin
 | succ d ih =>
  intro i h
  have h1 : i < l.length := by omega
  have h2 : i < r.length := by omega
  have e1 := rd_map l i h1
  have e2 := rd_map r i h2
  have g1 : (l.map ofL)[i]'(by rw [List.length_map]; exact h1) = ofL l[i] := List.getElem_map ..
  have g2 : (r.map ofL)[i]'(by rw [List.length_map]; exact h2) = ofL r[i] := List.getElem_map ..
  have hst := idsC_step (l.map ofL) (r.map ofL) i (by rw [List.length_map]; exact h1) (by rw [List.length_map]; exact h2)
  have z1 := hz _ (List.getElem_mem h1)
  have z2 := hz' _ (List.getElem_mem h2)
  have hdt : decide ((i : Int) < ((r.map ofL).length : Int)) = true := decide_eq_true (by rw [List.length_map]; omega)
  rw [g1, g2, pg_idC z1.2 z2.2] at hst
  refine Ev.step (fun _ => by rw [spec_Identifiers.l0]) (ev_pos (by rw [List.length_map]; omega) ?_)
  rw [hdt]
  refine Ev.step (fun _ => by rw [spec_Identifiers.j1, e1, e2]) (ev_t (ev_pos (by omega) (ev_pos (by rw [List.length_map]; omega) (ev_pos (by rw [List.length_map]; omega) (Ev.bind (pageOne_ev _ _ (by omega) (by omega)) ?_)))))
  have hrg := idC_range (ofL l[i]) (ofL r[i])
  rw [pg_idC z1.2 z2.2] at hrg
  by_cases h0 : pg l[i] r[i] = 0
  ·refine ev_pos h0 ?_
   rw [hst, if_pos h0, wrap_nat (by omega)]
   exact ih (i + 1) (by omega)
  ·refine ev_neg h0 (ev_now ?_)
   rw [hst, if_neg h0]
   rcases hrg with h | h | h
   ·rw [h]; rfl
   ·exact absurd h h0
   ·rw [h]; rfl
theorem idents_ev (l r : List (List UInt8)) (hl : l.length ≤ 100000) (hr : r.length ≤ 100000) (hz : ∀ x ∈ l, x.length ≤ 1000000 ∧ signed x = false) (hz' : ∀ x ∈ r, x.length ≤ 1000000 ∧ signed x = false) : Ev (fun k => spec_Identifiers.f k (l.map ofL) (r.map ofL)) (idsC (l.map ofL) (r.map ofL)) := idents_l l r hl hr hz hz' _ 0 (Nat.zero_add _)
end Go.Proofs.YtajglnedoeboaaaGreatDoor.Com

namespace Go.Proofs.YtajglnedoeboaaaGreatDoor.Cm
open Go Go.RowKit Go.Proofs.YtajglnedoeboaaaGreatDoor.Z Go.Proofs.YtajglnedoeboaaaGreatDoor.Evs Go.Proofs.YtajglnedoeboaaaGreatDoor.By Go.Proofs.YtajglnedoeboaaaGreatDoor.Com Go.Proofs.YtajglnedoeboaaaGreatDoorW.PrintWords Go.Proofs.YtajglnedoeboaaaGreatDoorW.PrintLast
set_option linter.unusedVariables false
set_option linter.unusedSimpArgs false
/-- What stands ahead of the first plus sign. -/
def mt (l : List UInt8) : List UInt8 := l.takeWhile (· != 43)
/-- Without one hyphen ahead. -/
def unh : List UInt8 → List UInt8
 | c :: r => if c = 45 then r else c :: r
 | [] => []
theorem unh_cons (c : UInt8) (r : List UInt8) : unh (c :: r) = if c = 45 then r else c :: r := rfl
def bdy (l : List UInt8) : List UInt8 := unh (mt l)
def idsP (l : List UInt8) : List (List UInt8) := cutP ptB (bdy l)
def idsS (l : List UInt8) : List (List UInt8) := if bdy l = [] then [] else idsP l
theorem mt_len (l : List UInt8) : (mt l).length ≤ l.length := (List.takeWhile_sublist _).length_le
theorem unh_len (l : List UInt8) : (unh l).length ≤ l.length := by
 cases l with
 | nil => exact Nat.le_refl _
 | cons c r =>
  rw [unh_cons]
  split
  ·simp
  ·exact Nat.le_refl _
theorem bdy_len (l : List UInt8) : (bdy l).length ≤ l.length := Nat.le_trans (unh_len _) (mt_len _)
theorem cutP_sz (p : UInt8 → Bool) (l : List UInt8) : (cutP p l).length ≤ l.length + 1 ∧ ∀ x ∈ cutP p l, x.length ≤ l.length := by
 induction l with
 | nil => simp [cutP]
 | cons c l ih =>
  unfold cutP
  by_cases hc : p c = true
  ·rw [if_pos hc]
   refine ⟨by simp only [List.length_cons]; omega, fun x hx => ?_⟩
   rcases List.mem_cons.1 hx with rfl | hx
   ·simp
   ·have := ih.2 x hx
    simp only [List.length_cons]
    omega
  ·rw [if_neg hc]
   cases e : cutP p l with
   | nil => exact absurd e (cutP_ne p l)
   | cons y ys =>
    rw [e] at ih
    simp only [List.length_cons] at ih ⊢
    refine ⟨by omega, fun x hx => ?_⟩
    rcases List.mem_cons.1 hx with rfl | hx
    ·have := ih.2 y (by simp)
     simp only [List.length_cons]
     omega
    ·have := ih.2 x (by simp [hx])
     omega
theorem ids_sz (l : List UInt8) : (idsP l).length ≤ l.length + 1 ∧ ∀ x ∈ idsP l, x.length ≤ l.length := by
 have h := cutP_sz ptB (bdy l)
 have hb := bdy_len l
 exact ⟨Nat.le_trans h.1 (by omega), fun x hx => Nat.le_trans (h.2 x hx) hb⟩
theorem idsP_ne (l : List UInt8) : idsP l ≠ [] := cutP_ne _ _
theorem idsS_sub (l : List UInt8) : (idsS l).length ≤ (idsP l).length ∧ ∀ x ∈ idsS l, x ∈ idsP l := by
 unfold idsS
 split
 ·simp
 ·exact ⟨Nat.le_refl _, fun _ h => h⟩
theorem bt0 (c : UInt8) (r : List UInt8) : bt (ofL (c :: r)) 0 = (c.toNat : Int) := bt_ofL (c :: r) 0 (by simp)
theorem size_pos (c : UInt8) (r : List UInt8) : (0 : Int) < ((ofL (c :: r)).size : Int) := by rw [ofL_size]; simp
theorem j1_ev (m : List UInt8) (hm : m.length ≤ 100000) (b : Bool) (hb : b = decide (m.head? = some 45)) : Ev (fun k => spec_likeIdentifiers.j1 k (ofL m) b) ((if unh m = [] then [] else cutP ptB (unh m)).map ofL) := by
 have hs := ofL_size m
 cases b with
 | true =>
  cases m with
  | nil => simp at hb
  | cons c r =>
   have hc : c = 45 := by simpa using hb
   subst hc
   have e : unh (45 :: r) = r := by rw [unh_cons, if_pos rfl]
   have h1 : (1 : Int) ≤ ((ofL (45 :: r)).size : Int) := by rw [hs]; simp; omega
   rw [e]
   refine Ev.step (fun _ => by rw [spec_likeIdentifiers.j1, ext1, toList_ofL]) (ev_t (ev_pos h1 ?_))
   by_cases hr : r = []
   ·rw [if_pos hr]
    exact ev_pos hr (ev_now rfl)
   ·rw [if_neg hr]
    exact ev_neg hr (Ev.bind (cut_ev r (by simp at hm; omega) 63) (ev_now rfl))
 | false =>
  have e : unh m = m := by
   cases m with
   | nil => rfl
   | cons c r =>
    rw [unh_cons, if_neg (fun h => by rw [h] at hb; simp at hb)]
  rw [e]
  refine Ev.step (fun _ => by rw [spec_likeIdentifiers.j1, toList_ofL]) (ev_f ?_)
  by_cases hr : m = []
  ·rw [if_pos hr]
   exact ev_pos hr (ev_now rfl)
  ·rw [if_neg hr]
   exact ev_neg hr (Ev.bind (cut_ev m hm 63) (ev_now rfl))
theorem j0_ev (m : List UInt8) (hm : m.length ≤ 100000) : Ev (fun k => spec_likeIdentifiers.j0 k (ofL m)) ((if unh m = [] then [] else cutP ptB (unh m)).map ofL) := by
 refine Ev.step (fun _ => by rw [spec_likeIdentifiers.j0, toList_ofL]) ?_
 cases m with
 | nil => exact ev_pos rfl (j1_ev [] (by simp) false (by simp))
 | cons c r =>
  refine ev_neg (by simp) (ev_pos (size_pos c r) ?_)
  refine j1_ev (c :: r) hm _ ?_
  rw [bt0]
  by_cases h : c = 45
  ·subst h
   rfl
  ·have h1 : ¬ (c.toNat : Int) = 45 := fun e => h (UInt8.toNat_inj.1 (by have : (c.toNat : Int) = ((45 : UInt8).toNat : Int) := e; omega))
   rw [beq_eq_false_iff_ne.2 h1]
   simp [h]
theorem likeIds_ev (l : List UInt8) (hl : l.length ≤ 100000) : Ev (fun k => spec_likeIdentifiers.f k (ofL l)) ((idsS l).map ofL) := by
 have hi := index_ev 43 l (by omega)
 have hm := mt_len l
 have hj := j0_ev (mt l) (by omega)
 have hs := ofL_size l
 unfold spec_likeIdentifiers.f
 refine Ev.bind hi ?_
 show Ev _ ((if unh (mt l) = [] then [] else cutP ptB (unh (mt l))).map ofL)
 unfold idxI
 by_cases hd : l.dropWhile (· != 43) = []
 ·have e : mt l = l := by
   have := List.takeWhile_append_dropWhile (p := (· != 43)) (l := l)
   rw [hd, List.append_nil] at this
   exact this
  rw [if_pos hd]
  rw [e] at hj ⊢
  exact ev_neg (by omega) hj
 ·rw [if_neg hd]
  have e : (ofL l).extract 0 (((mt l).length : Nat) : Int).toNat = ofL (mt l) := by
   rw [Int.toNat_natCast, ofL_extract, List.drop_zero]
   congr 1
   exact (List.prefix_iff_eq_take.1 (List.takeWhile_prefix _)).symm
  refine ev_pos (by show ((mt l).length : Int) ≥ 0; omega) (ev_pos (by show (0 : Int) ≤ ((mt l).length : Int); omega) (ev_pos (by show ((mt l).length : Int) ≤ _; omega) ?_))
  show Ev (fun k => spec_likeIdentifiers.j0 k ((ofL l).extract 0 (((mt l).length : Nat) : Int).toNat)) _
  rw [e]
  exact hj
/-! the walk's side -/
theorem cut_head (p : UInt8 → Bool) (l : List UInt8) : ∃ t, cutP p l = l.takeWhile (fun c => !p c) :: t := by
 induction l with
 | nil => exact ⟨[], rfl⟩
 | cons c l ih =>
  unfold cutP
  by_cases hc : p c = true
  ·rw [if_pos hc, List.takeWhile_cons, if_neg (by simp [hc])]
   exact ⟨_, rfl⟩
  ·obtain ⟨t, e⟩ := ih
   rw [if_neg hc, e, List.takeWhile_cons, if_pos (by simp [hc])]
   exact ⟨t, rfl⟩
theorem remB_f (l : List UInt8) (hl : l.length ≤ 1000000) : semantic_removeBuildMetadata.f (ofL l) = some (ofL (mt l)) := by
 obtain ⟨t, e⟩ := cut_head (· == 43) l
 have hz : semantic_zzSplit.f (ofL l) (⟨#[43]⟩ : ByteArray) = some ((cutP (· == 43) l).map ofL) := by
  unfold semantic_zzSplit.f
  rw [if_pos ⟨by rw [ofL_size]; exact hl, rfl⟩, bl_ofL]
  rfl
 unfold semantic_removeBuildMetadata.f
 rw [hz, Option.bind_some, e, if_pos (by simp)]
 rfl
theorem trim_f (m : List UInt8) : strings_TrimPrefix.f (ofL m) (⟨#[45]⟩ : ByteArray) = some (ofL (unh m)) := by
 have hs := ofL_size m
 have h1 : (⟨#[45]⟩ : ByteArray).size = 1 := rfl
 have h45 : (⟨#[45]⟩ : ByteArray).toList = [45] := toList_ofL [45]
 unfold strings_TrimPrefix.f stringslite_TrimPrefix.f stringslite_HasPrefix.f
 rw [h1]
 cases m with
 | nil =>
  rw [if_neg (by rw [hs]; simp)]
  rfl
 | cons c r =>
  have h2 : ((1 : Nat) : Int) ≤ ((ofL (c :: r)).size : Int) := by rw [hs]; simp; omega
  have e : (ofL (c :: r)).extract 0 1 = ofL [c] := by
   rw [ofL_extract]
   rfl
  rw [if_pos (by omega), if_pos (by omega), if_pos h2, e, toList_ofL, h45, Option.bind_some]
  by_cases h : c = 45
  ·subst h
   rw [if_pos (by rfl), if_pos (by omega), if_pos h2, ext1, Option.bind_some]
   rw [unh_cons, if_pos rfl]
  ·rw [if_neg (by
    intro hh
    have := eq_of_beq hh
    exact h (by simpa using congrArg (fun x : List UInt8 => x.head?) (show [c] = [45] from this))), Option.bind_some]
   rw [unh_cons, if_neg h]
/-- How what stands behind the numbers compares. -/
def bldC (x y : List UInt8) : Int := if bdy x = [] then (if bdy y = [] then 0 else 1) else if bdy y = [] then -1 else idsC ((idsP x).map ofL) ((idsP y).map ofL)
theorem idsC_self (l : List ByteArray) : idsC l l = 0 := by have := idsC_anti l l; omega
theorem all_fit (l : List UInt8) (hl : l.length ≤ 1000000) : allFit ((idsP l).map ofL) = true := List.all_eq_true.2 fun x hx => by
 obtain ⟨y, hy, rfl⟩ := List.mem_map.1 hx
 have := (ids_sz l).2 y hy
 exact decide_eq_true (by rw [ofL_size]; omega)
theorem split_f (l : List UInt8) (hl : l.length ≤ 1000000) : semantic_zzSplit.f (ofL (bdy l)) (⟨#[46]⟩ : ByteArray) = some ((idsP l).map ofL) := by
 have := bdy_len l
 unfold semantic_zzSplit.f
 rw [if_pos ⟨by rw [ofL_size]; omega, rfl⟩, bl_ofL]
 rfl
theorem compareBuild_ev (x y : List UInt8) (hx : x.length ≤ 1000000) (hy : y.length ≤ 1000000) : Ev (fun k => semantic_compareBuildComponents.f k (ofL x) (ofL y)) (bldC x y) := by
 unfold semantic_compareBuildComponents.f
 rw [remB_f x hx, remB_f y hy]
 refine ev_some (ev_some ?_)
 rw [trim_f, trim_f]
 refine ev_some (ev_some ?_)
 rw [toList_ofL, toList_ofL]
 have last : Ev (fun k => semantic_compareBuildComponents.j1 k (ofL (unh (mt x))) (ofL (unh (mt y))) false) (idsC ((idsP x).map ofL) ((idsP y).map ofL)) := by
  refine Ev.step (fun _ => by rw [semantic_compareBuildComponents.j1, show unh (mt x) = bdy x from rfl, show unh (mt y) = bdy y from rfl, split_f x hx, split_f y hy, Option.bind_some, Option.bind_some]) (ev_f ?_)
  unfold semantic_compareSemverBuildComponents.f
  rw [all_fit x hx, all_fit y hy]
  exact ev_now rfl
 unfold bldC
 by_cases h1 : bdy x = []
 ·rw [if_pos h1]
  refine ev_pos h1 ?_
  by_cases h2 : bdy y = []
  ·rw [if_pos h2]
   have e : (!(unh (mt y)).isEmpty) = false := by rw [show unh (mt y) = [] from h2]; rfl
   rw [e]
   refine Ev.step (fun _ => by rw [semantic_compareBuildComponents.j0, toList_ofL]) (ev_f (ev_pos (show unh (mt x) = [] from h1) ?_))
   refine ev_eq last ?_
   have e2 : idsP x = idsP y := by unfold idsP; rw [h1, h2]
   rw [e2, idsC_self]
  ·rw [if_neg h2]
   have e : (!(unh (mt y)).isEmpty) = true := by
    cases hq : unh (mt y) with
    | nil => exact absurd hq h2
    | cons c r => rfl
   rw [e]
   exact Ev.step (fun _ => by rw [semantic_compareBuildComponents.j0]) (ev_t (ev_now rfl))
 ·rw [if_neg h1]
  refine ev_neg h1 ?_
  refine Ev.step (fun _ => by rw [semantic_compareBuildComponents.j0, toList_ofL, toList_ofL]) (ev_f (ev_neg (show ¬ unh (mt x) = [] from h1) ?_))
  by_cases h2 : bdy y = []
  ·rw [if_pos h2]
   have e : (unh (mt y)).isEmpty = true := by rw [show unh (mt y) = [] from h2]; rfl
   rw [e]
   exact Ev.step (fun _ => by rw [semantic_compareBuildComponents.j1]) (ev_t (ev_now rfl))
  ·rw [if_neg h2]
   have e : (unh (mt y)).isEmpty = false := by
    cases hq : unh (mt y) with
    | nil => exact absurd hq h2
    | cons c r => rfl
   rw [e]
   exact last
/-- A build that is known: bytes below 128, no identifier a sign and digits alone. -/
def bK (l : List UInt8) : Prop := (∀ c ∈ l, c.toNat < 128) ∧ ∀ x ∈ idsS l, signed x = false
theorem buildKnown_ev (l : List UInt8) (hl : l.length ≤ 1500) : ∃ r, Ev (fun k => spec_BuildKnown.f k (ofL l)) r ∧ (r = true → bK l) := by
 obtain ⟨b, hb, hq⟩ := ascii_ev (ofL l) (by rw [ofL_size]; omega)
 unfold spec_BuildKnown.f
 cases b with
 | false => exact ⟨false, Ev.bind hb (ev_f (ev_now rfl)), by simp⟩
 | true =>
  have h1 := idsS_sub l
  have h2 := ids_sz l
  have hi := ident_ev (idsS l) (by omega) (fun x hx => by have := h2.2 x (h1.2 x hx); omega)
  refine ⟨idK (idsS l), Ev.bind hb (ev_t (Ev.bind (likeIds_ev l (by omega)) (Ev.bind hi (ev_now rfl)))), fun hr => ⟨fun c hc => ?_, fun x hx => ?_⟩⟩
  ·obtain ⟨j, hj, rfl⟩ := List.mem_iff_getElem.1 hc
   exact hq rfl j (by rw [ofL_size]; exact hj)
  ·have := List.all_eq_true.1 hr x hx
   simpa using this
theorem specBuilds_ev (x y : List UInt8) (hx : x.length ≤ 10000) (hy : y.length ≤ 10000) (kx : ∀ c ∈ idsS x, signed c = false) (ky : ∀ c ∈ idsS y, signed c = false) : Ev (fun k => spec_Builds.f k (ofL x) (ofL y)) (bldC x y) := by
 have h1 := idsS_sub x
 have h2 := ids_sz x
 have h3 := idsS_sub y
 have h4 := ids_sz y
 have hids := idents_ev (idsS x) (idsS y) (by omega) (by omega) (fun c hc => ⟨by have := h2.2 c (h1.2 c hc); omega, kx c hc⟩) (fun c hc => ⟨by have := h4.2 c (h3.2 c hc); omega, ky c hc⟩)
 unfold spec_Builds.f
 refine Ev.bind (likeIds_ev x (by omega)) (Ev.bind (likeIds_ev y (by omega)) ?_)
 rw [List.length_map, List.length_map]
 have len : ∀ l : List UInt8, (idsS l).length = 0 ↔ bdy l = [] := by
  intro l
  unfold idsS
  split
  ·rename_i h
   simp [h]
  ·rename_i h
   have := idsP_ne l
   constructor
   ·intro e
    exact absurd (List.length_eq_zero_iff.1 e) this
   ·intro e
    exact absurd e h
 have j0t : Ev (fun k => spec_Builds.j0 k ((idsS x).map ofL) ((idsS y).map ofL) true) (if mn ((idsS y).length : Int) 1 < mn ((idsS x).length : Int) 1 then -1 else if mn ((idsS x).length : Int) 1 < mn ((idsS y).length : Int) 1 then 1 else 0) := by
  refine Ev.step (fun _ => by rw [spec_Builds.j0, List.length_map, List.length_map]) (ev_t ?_)
  rw [orderI_f, Option.bind_some]
  exact ev_now rfl
 unfold bldC
 by_cases e1 : bdy x = []
 ·have z1 := (len x).2 e1
  rw [if_pos e1]
  refine ev_pos (by omega) (ev_eq j0t ?_)
  rw [z1]
  by_cases e2 : bdy y = []
  ·rw [if_pos e2, (len y).2 e2]
   rfl
  ·rw [if_neg e2]
   have z2 : ¬ (idsS y).length = 0 := fun h => e2 ((len y).1 h)
   have m1 : mn (((0 : Nat)) : Int) 1 = 0 := rfl
   have m2 : mn ((idsS y).length : Int) 1 = 1 := by unfold mn; split <;> omega
   rw [m1, m2]
   rfl
 ·have z1 : ¬ (idsS x).length = 0 := fun h => e1 ((len x).1 h)
  rw [if_neg e1]
  refine ev_neg (by omega) ?_
  by_cases e2 : bdy y = []
  ·have z2 := (len y).2 e2
   rw [if_pos e2, z2]
   rw [show (((0 : Nat) : Int) == 0) = true from rfl]
   refine ev_eq j0t ?_
   have m1 : mn ((idsS y).length : Int) 1 = 0 := by rw [z2]; rfl
   have m2 : mn ((idsS x).length : Int) 1 = 1 := by unfold mn; split <;> omega
   rw [m1, m2]
   rfl
  ·have z2 : ¬ (idsS y).length = 0 := fun h => e2 ((len y).1 h)
   have e3 : (((idsS y).length : Int) == 0) = false := beq_eq_false_iff_ne.2 (by omega)
   have s1 : idsS x = idsP x := by unfold idsS; rw [if_neg e1]
   have s2 : idsS y = idsP y := by unfold idsS; rw [if_neg e2]
   rw [if_neg e2, e3]
   rw [s1, s2] at hids ⊢
   exact Ev.step (fun _ => by rw [spec_Builds.j0]) (ev_f (Ev.bind hids (ev_now rfl)))
theorem bldC_range (x y : List UInt8) : bldC x y = -1 ∨ bldC x y = 0 ∨ bldC x y = 1 := by
 unfold bldC
 repeat' split
 all_goals first | exact idsC_range _ _ | simp
theorem bldC_anti (x y : List UInt8) : bldC y x = -bldC x y := by
 unfold bldC
 by_cases h1 : bdy x = [] <;> by_cases h2 : bdy y = []
 ·simp [h1, h2]
 ·simp [h1, h2]
 ·simp [h1, h2]
 ·rw [if_neg h2, if_neg h1, if_neg h1, if_neg h2]
  exact idsC_anti _ _
end Go.Proofs.YtajglnedoeboaaaGreatDoor.Cm

namespace Go.Proofs.YtajglnedoeboaaaGreatDoor.Com
open Go.RowKit Go.Proofs.YtajglnedoeboaaaGreatDoor.Z Go.Proofs.YtajglnedoeboaaaGreatDoor.Evs Go.Proofs.YtajglnedoeboaaaGreatDoorW.PrintWords Go.Proofs.YtajglnedoeboaaaGreatDoorW.PrintLast
set_option linter.unusedVariables false
set_option linter.unusedSimpArgs false

/-- short: an answer; where it is true the list is short and its texts are. -/
theorem short_l (l : List ByteArray) (hl : (l.length : Int) < 9223372036854775807) (d : Nat) : ∀ i : Nat, i + d = l.length →
  ∃ b, Ev (fun k => laws_short.l0 k l l (l.length : Int) (i : Int)) b ∧ (b = true → l.length ≤ 150 ∧ ∀ j, i ≤ j → j < l.length → (l.getD j ByteArray.empty).size ≤ 1500) := by
 induction d with
 | zero =>
  intro i h
  exact ⟨_, Ev.step (fun _ => by rw [laws_short.l0]) (ev_neg (by omega) (Ev.now _)), fun hb => ⟨by simp at hb; omega, fun j h1 h2 => by omega⟩⟩
 | succ d ih =>
  intro i h
  obtain ⟨b, hb, hq⟩ := ih (i + 1) (by omega)
  by_cases c : ((rdOf ByteArray.empty l (i : Int)).size : Int) > 1500
  ·exact ⟨false, Ev.step (fun _ => by rw [laws_short.l0]) (ev_pos (by omega) (ev_pos (by omega) (ev_pos (by omega) (ev_pos c (Ev.now _))))), fun h => by cases h⟩
  ·refine ⟨b, Ev.step (fun _ => by rw [laws_short.l0, wrap_nat (by omega)]) (ev_pos (by omega) (ev_pos (by omega) (ev_pos (by omega) (ev_neg c hb)))), fun h => ⟨(hq h).1, fun j h1 h2 => ?_⟩⟩
   by_cases e : j = i
   ·subst e; rw [rdOf_nat] at c; omega
   ·exact (hq h).2 j (by omega) h2
theorem short_ev (l : List ByteArray) (hl : (l.length : Int) < 9223372036854775807) : ∃ b, Ev (fun k => laws_short.f k l) b ∧ (b = true → l.length ≤ 150 ∧ ∀ j, j < l.length → (l.getD j ByteArray.empty).size ≤ 1500) := by
 obtain ⟨b, hb, hq⟩ := short_l l hl l.length 0 (by omega)
 exact ⟨b, hb, fun h => ⟨(hq h).1, fun j hj => (hq h).2 j (by omega) hj⟩⟩

theorem short2 (a b : ByteArray) : ∃ r, Ev (fun k => laws_short.f k [a, b]) r ∧ (r = true → a.size ≤ 1500 ∧ b.size ≤ 1500) := by
 obtain ⟨r, hr, hq⟩ := short_ev [a, b] (by simp)
 exact ⟨r, hr, fun h => ⟨(hq h).2 0 (by simp), (hq h).2 1 (by simp)⟩⟩
theorem short1 (a : ByteArray) : ∃ r, Ev (fun k => laws_short.f k [a]) r ∧ (r = true → a.size ≤ 1500) := by
 obtain ⟨r, hr, hq⟩ := short_ev [a] (by simp)
 exact ⟨r, hr, fun h => (hq h).2 0 (by simp)⟩
theorem short3 (a b c : ByteArray) : ∃ r, Ev (fun k => laws_short.f k [a, b, c]) r ∧ (r = true → a.size ≤ 1500 ∧ b.size ≤ 1500 ∧ c.size ≤ 1500) := by
 obtain ⟨r, hr, hq⟩ := short_ev [a, b, c] (by simp)
 exact ⟨r, hr, fun h => ⟨(hq h).2 0 (by simp), (hq h).2 1 (by simp), (hq h).2 2 (by simp)⟩⟩
theorem short4 (a b c d : ByteArray) : ∃ r, Ev (fun k => laws_short.f k [a, b, c, d]) r ∧ (r = true → a.size ≤ 1500 ∧ b.size ≤ 1500 ∧ c.size ≤ 1500 ∧ d.size ≤ 1500) := by
 obtain ⟨r, hr, hq⟩ := short_ev [a, b, c, d] (by simp)
 exact ⟨r, hr, fun h => ⟨(hq h).2 0 (by simp), (hq h).2 1 (by simp), (hq h).2 2 (by simp), (hq h).2 3 (by simp)⟩⟩
end Go.Proofs.YtajglnedoeboaaaGreatDoor.Com

namespace Go.Proofs.YtajglnedoeboaaaGreatDoor.Cm
open Go Go.RowKit Go.Proofs.YtajglnedoeboaaaGreatDoor.Z Go.Proofs.YtajglnedoeboaaaGreatDoor.Evs Go.Proofs.YtajglnedoeboaaaGreatDoor.By Go.Proofs.YtajglnedoeboaaaGreatDoor.Com Go.Proofs.YtajglnedoeboaaaGreatDoorW.PrintWords Go.Proofs.YtajglnedoeboaaaGreatDoorW.PrintLast
set_option linter.unusedVariables false
set_option linter.unusedSimpArgs false
abbrev LK : Type := S24
structure GoodK (x : LK) : Prop where
 b : x.f2.size ≤ 1500
 n : x.f1.length ≤ 150
 s : ∀ y ∈ x.f1, y.f1.size ≤ 1500 ∧ okN y.f0 (bl y.f1) = true
 p : ∀ y ∈ x.f1, y.f0 = false
 k : bK (bl x.f2)
theorem GoodK.good {x : LK} (h : GoodK x) : GoodL x.f1 := ⟨by have := h.n; omega, fun y hy => (h.s y hy).1⟩
theorem intsOK_l (l : List LI) (hl : l.length ≤ 150) (hs : ∀ x ∈ l, x.f1.size ≤ 1500) (d : Nat) : ∀ i : Nat, i + d = l.length → ∃ r, Ev (fun k => spec_IntsOK.l0 k l (i : Int)) r := by
 induction d with
 | zero =>
  intro i h
  exact ⟨true, Ev.step (fun _ => by rw [spec_IntsOK.l0]) (ev_neg (by omega) (ev_now rfl))⟩
 | succ d ih =>
  intro i h
  have hi : i < l.length := by omega
  obtain ⟨r, hr⟩ := ih (i + 1) (by omega)
  have hw : wrap64 ((i : Int) + 1) = ((i + 1 : Nat) : Int) := wrap_nat (by omega)
  have ho := intOK_ev' l[i] (by have := hs _ (List.getElem_mem hi); omega)
  cases hb : okN (l[i]).f0 (bl (l[i]).f1) with
  | false =>
   rw [hb] at ho
   refine ⟨false, Ev.step (fun _ => by rw [spec_IntsOK.l0, rd_at l i hi]) ?_⟩
   exact ev_pos (by omega) (ev_pos (by omega) (Ev.bind ho (ev_f (ev_now rfl))))
  | true =>
   rw [hb] at ho
   refine ⟨r, Ev.step (fun _ => by rw [spec_IntsOK.l0, rd_at l i hi, hw]) ?_⟩
   exact ev_pos (by omega) (ev_pos (by omega) (Ev.bind ho (ev_t hr)))
theorem intsOK_ev (l : List LI) (hl : l.length ≤ 150) (hs : ∀ x ∈ l, x.f1.size ≤ 1500) : ∃ r, Ev (fun k => spec_IntsOK.f k l) r := intsOK_l l hl hs l.length 0 (by omega)
theorem isDigit_ev (z : Int) : ∃ r, spec_isDigit.f z = some r := by
 unfold spec_isDigit.f
 by_cases h : z ≥ 48
 ·exact ⟨_, if_pos h⟩
 ·exact ⟨_, if_neg h⟩
theorem likeOK_end (v : Bool) (l : List LI) (hl : l.length ≤ 150) (hs : ∀ x ∈ l, x.f1.size ≤ 1500) (b s : ByteArray) (hb : b.size ≤ 1500) : ∃ r, Ev (fun k => spec_LikeOK.l0 k (l.length : Int) v l b s) r ∧ (r = true → bK (bl b)) := by
 obtain ⟨r1, h1⟩ := intsOK_ev l hl hs
 obtain ⟨r2, h2, q2⟩ := buildKnown_ev (bl b) (by rw [bl_length]; exact hb)
 rw [ofL_bl] at h2
 cases r1 with
 | false =>
  refine ⟨false, Ev.step (fun _ => by rw [spec_LikeOK.l0]) ?_, by simp⟩
  exact ev_neg (by omega) (Ev.bind h1 (ev_f (ev_now rfl)))
 | true =>
  cases r2 with
  | false =>
   refine ⟨false, Ev.step (fun _ => by rw [spec_LikeOK.l0]) ?_, by simp⟩
   exact ev_neg (by omega) (Ev.bind h1 (ev_t (Ev.bind h2 (ev_f (ev_now rfl)))))
  | true =>
   by_cases e : b.toList = []
   ·refine ⟨true, Ev.step (fun _ => by rw [spec_LikeOK.l0]) ?_, fun _ => q2 rfl⟩
    exact ev_neg (by omega) (Ev.bind h1 (ev_t (Ev.bind h2 (ev_t (ev_pos e (ev_now rfl))))))
   ·have hp : (0 : Int) < (b.size : Int) := by
     rcases Nat.eq_zero_or_pos b.size with h | h
     ·exfalso
      apply e
      have h3 : bl b = [] := List.eq_nil_of_length_eq_zero (by rw [bl_length]; exact h)
      rw [← ofL_bl b, toList_ofL, h3]
     ·omega
    obtain ⟨r3, h3⟩ := isDigit_ev (bt b 0)
    cases r3 with
    | true =>
     refine ⟨false, Ev.step (fun _ => by rw [spec_LikeOK.l0, h3]) ?_, by simp⟩
     exact ev_neg (by omega) (Ev.bind h1 (ev_t (Ev.bind h2 (ev_t (ev_neg e (ev_pos hp (ev_some (ev_t (ev_now rfl)))))))))
    | false =>
     refine ⟨bt b 0 != 46, Ev.step (fun _ => by rw [spec_LikeOK.l0, h3]) ?_, fun _ => q2 rfl⟩
     exact ev_neg (by omega) (Ev.bind h1 (ev_t (Ev.bind h2 (ev_t (ev_neg e (ev_pos hp (ev_some (ev_f (ev_now rfl)))))))))
theorem likeOK_l (v : Bool) (l : List LI) (hl : l.length ≤ 150) (hs : ∀ x ∈ l, x.f1.size ≤ 1500) (b s : ByteArray) (hb : b.size ≤ 1500) (d : Nat) : ∀ i : Nat, i + d = l.length → ∃ r, Ev (fun k => spec_LikeOK.l0 k (i : Int) v l b s) r ∧ (r = true → (∀ y ∈ l.drop i, y.f0 = false) ∧ bK (bl b)) := by
 induction d with
 | zero =>
  intro i h
  obtain ⟨r, h1, h2⟩ := likeOK_end v l hl hs b s hb
  have e : i = l.length := by omega
  rw [e]
  exact ⟨r, h1, fun hr => ⟨fun y hy => by simp at hy, h2 hr⟩⟩
 | succ d ih =>
  intro i h
  have hi : i < l.length := by omega
  obtain ⟨r, h1, h2⟩ := ih (i + 1) (by omega)
  have hw : wrap64 ((i : Int) + 1) = ((i + 1 : Nat) : Int) := wrap_nat (by omega)
  have e : l.drop i = l[i] :: l.drop (i + 1) := List.drop_eq_getElem_cons hi
  cases hb : (l[i]).f0 with
  | true => exact ⟨false, Ev.step (fun _ => by rw [spec_LikeOK.l0, rd_at l i hi, hb]) (ev_pos (by omega) (ev_pos (by omega) (ev_t (ev_now rfl)))), by simp⟩
  | false =>
   refine ⟨r, Ev.step (fun _ => by rw [spec_LikeOK.l0, rd_at l i hi, hb, hw]) (ev_pos (by omega) (ev_pos (by omega) (ev_f h1))), fun hr => ⟨fun y hy => ?_, (h2 hr).2⟩⟩
   rw [e] at hy
   rcases List.mem_cons.1 hy with rfl | hy
   ·exact hb
   ·exact (h2 hr).1 y hy
theorem likeOK_ev (v : Bool) (l : List LI) (hl : l.length ≤ 150) (hs : ∀ x ∈ l, x.f1.size ≤ 1500) (b s : ByteArray) (hb : b.size ≤ 1500) : ∃ r, Ev (fun k => spec_LikeOK.f k v l b s) r ∧ (r = true → (∀ y ∈ l, y.f0 = false) ∧ bK (bl b)) := likeOK_l v l hl hs b s hb l.length 0 (by omega)
theorem fits4_ev (v : Bool) (l : List LI) (b s : ByteArray) : ∃ r, Ev (fun k => laws_zzFits4.f k v l b s) r ∧ (r = true → l.length ≤ 2147483647 ∧ ∀ x ∈ l, x.f1.size ≤ 2147483647) := by
 obtain ⟨r, h, q⟩ := fits2_ev l
 unfold laws_zzFits4.f
 cases r with
 | false => exact ⟨false, Ev.bind h (ev_f (ev_now rfl)), by simp⟩
 | true =>
  by_cases h1 : (b.size : Int) > 2147483647
  ·exact ⟨false, Ev.bind h (ev_t (ev_pos h1 (ev_now rfl))), by simp⟩
  ·by_cases h2 : (s.size : Int) > 2147483647
   ·exact ⟨false, Ev.bind h (ev_t (ev_neg h1 (ev_pos h2 (ev_now rfl)))), by simp⟩
   ·exact ⟨true, Ev.bind h (ev_t (ev_neg h1 (ev_neg h2 (ev_now rfl)))), fun _ => q rfl⟩
theorem rdK (l : List LK) (i : Nat) (hi : i < l.length) : rd_T24 l (i : Int) = l[i] := by
 unfold rd_T24
 rw [Int.toNat_natCast, List.getD_eq_getElem?_getD, List.getElem?_eq_getElem hi]
 rfl
def FitK (x : LK) : Prop := x.f1.length ≤ 2147483647 ∧ ∀ y ∈ x.f1, y.f1.size ≤ 2147483647
theorem likes_l (l : List LK) (hl : l.length ≤ 100) (hf : ∀ x ∈ l, FitK x) (d : Nat) : ∀ i : Nat, i + d = l.length → ∃ r, Ev (fun k => laws_likes.l0 k l (l.length : Int) (i : Int)) r ∧ (r = true → ∀ x ∈ l.drop i, GoodK x) := by
 induction d with
 | zero =>
  intro i h
  refine ⟨true, Ev.step (fun _ => by rw [laws_likes.l0]) (ev_neg (by omega) (ev_now rfl)), fun _ x hx => ?_⟩
  rw [List.drop_of_length_le (by omega)] at hx
  simp at hx
 | succ d ih =>
  intro i h
  have hi : i < l.length := by omega
  have e : l.drop i = l[i] :: l.drop (i + 1) := List.drop_eq_getElem_cons hi
  have hw : wrap64 ((i : Int) + 1) = ((i + 1 : Nat) : Int) := wrap_nat (by omega)
  have hx := hf _ (List.getElem_mem hi)
  obtain ⟨r, hr, hq⟩ := ih (i + 1) (by omega)
  obtain ⟨r1, h1, q1⟩ := short2 (l[i]).f2 (l[i]).f3
  obtain ⟨r2, h2, q2⟩ := numbers_ev (l[i]).f1 hx.1 hx.2
  cases r1 with
  | false =>
   refine ⟨false, Ev.step (fun _ => by rw [laws_likes.l0, rdK l i hi]) ?_, by simp⟩
   exact ev_pos (by omega) (ev_pos (by omega) (ev_pos (by omega) (Ev.bind h1 (ev_f (ev_now rfl)))))
  | true =>
   cases r2 with
   | false =>
    refine ⟨false, Ev.step (fun _ => by rw [laws_likes.l0, rdK l i hi]) ?_, by simp⟩
    exact ev_pos (by omega) (ev_pos (by omega) (ev_pos (by omega) (Ev.bind h1 (ev_t (Ev.bind h2 (ev_f (ev_now rfl)))))))
   | true =>
    obtain ⟨n1, n2⟩ := q2 rfl
    obtain ⟨s1, s2⟩ := q1 rfl
    obtain ⟨r3, h3, q3⟩ := likeOK_ev (l[i]).f0 (l[i]).f1 n1 (fun y hy => (n2 y hy).1) (l[i]).f2 (l[i]).f3 s1
    cases r3 with
    | false =>
     refine ⟨false, Ev.step (fun _ => by rw [laws_likes.l0, rdK l i hi]) ?_, by simp⟩
     exact ev_pos (by omega) (ev_pos (by omega) (ev_pos (by omega) (Ev.bind h1 (ev_t (Ev.bind h2 (ev_t (Ev.bind h3 (ev_f (ev_now rfl)))))))))
    | true =>
     refine ⟨r, Ev.step (fun _ => by rw [laws_likes.l0, rdK l i hi, hw]) (ev_pos (by omega) (ev_pos (by omega) (ev_pos (by omega) (Ev.bind h1 (ev_t (Ev.bind h2 (ev_t (Ev.bind h3 (ev_t hr))))))))), fun hr x hm => ?_⟩
     rw [e] at hm
     rcases List.mem_cons.1 hm with rfl | hm
     ·exact ⟨s1, n1, n2, (q3 rfl).1, (q3 rfl).2⟩
     ·exact hq hr x hm
theorem likes_ev (l : List LK) (hl : l.length ≤ 100) (hf : ∀ x ∈ l, FitK x) : ∃ r, Ev (fun k => laws_likes.f k l) r ∧ (r = true → ∀ x ∈ l, GoodK x) := by
 obtain ⟨r, h1, h2⟩ := likes_l l hl hf l.length 0 (by omega)
 exact ⟨r, h1, fun hr x hx => h2 hr x (by simpa using hx)⟩
end Go.Proofs.YtajglnedoeboaaaGreatDoor.Cm

namespace Go.Proofs.YtajglnedoeboaaaGreatDoor.Cm
open Go Go.RowKit Go.Proofs.YtajglnedoeboaaaGreatDoor.Z Go.Proofs.YtajglnedoeboaaaGreatDoor.Evs Go.Proofs.YtajglnedoeboaaaGreatDoor.By Go.Proofs.YtajglnedoeboaaaGreatDoor.Com Go.Proofs.YtajglnedoeboaaaGreatDoorW.PrintWords Go.Proofs.YtajglnedoeboaaaGreatDoorW.PrintLast
set_option linter.unusedVariables false
set_option linter.unusedSimpArgs false
def nmC (x y : LK) : Int := cmpLists (x.f1.map lv) (y.f1.map lv)
def likC (x y : LK) : Int := if nmC x y = 0 then bldC (bl x.f2) (bl y.f2) else nmC x y
theorem likeOrder_ev (x y : LK) (hx : GoodK x) (hy : GoodK y) : Ev (fun k => spec_likeOrder.f k x.f0 x.f1 x.f2 x.f3 y.f0 y.f1 y.f2 y.f3) (likC x y) := by
 have h1 := cmp_ev x.f1 y.f1 hx.good hy.good
 have h2 := specBuilds_ev (bl x.f2) (bl y.f2) (by rw [bl_length]; have := hx.b; omega) (by rw [bl_length]; have := hy.b; omega) hx.k.2 hy.k.2
 rw [ofL_bl, ofL_bl] at h2
 unfold spec_likeOrder.f likC nmC
 refine Ev.bind h1 ?_
 by_cases e : cmpLists (x.f1.map lv) (y.f1.map lv) = 0
 ·rw [if_pos e]
  exact ev_pos e (Ev.bind h2 (ev_now rfl))
 ·rw [if_neg e]
  exact ev_neg e (ev_now rfl)
theorem nmC_range (x y : LK) : -1 ≤ nmC x y ∧ nmC x y ≤ 1 := cmpLists_range _ _
theorem nmC_anti (x y : LK) : nmC y x = -nmC x y := cmpLists_turn _ _
theorem likC_range (x y : LK) : -1 ≤ likC x y ∧ likC x y ≤ 1 := by
 have h1 := nmC_range x y
 have h2 := bldC_range (bl x.f2) (bl y.f2)
 unfold likC
 split <;> omega
theorem likC_anti (x y : LK) : likC y x = -likC x y := by
 have h1 := nmC_anti x y
 have h2 := bldC_anti (bl x.f2) (bl y.f2)
 unfold likC
 rw [h1, h2]
 by_cases e : nmC x y = 0
 ·rw [if_pos (by omega), if_pos e]
 ·rw [if_neg (by omega), if_neg e]
theorem fitZ_ok (x : LK) (hx : GoodK x) : fitZ (x.f1.map ltoZ) = true := by
 unfold fitZ
 rw [Bool.and_eq_true, decide_eq_true_eq, List.all_eq_true]
 refine ⟨by rw [List.length_map]; have := hx.n; omega, fun z hz => ?_⟩
 obtain ⟨y, hy, rfl⟩ := List.mem_map.1 hz
 have h : y.f1.size ≤ 1000000 := by have := (hx.s y hy).1; omega
 exact decide_eq_true h
theorem compareBuildK (x y : LK) (hx : GoodK x) (hy : GoodK y) : Ev (fun k => semantic_compareBuildComponents.f k x.f2 y.f2) (bldC (bl x.f2) (bl y.f2)) := by
 have h := compareBuild_ev (bl x.f2) (bl y.f2) (by rw [bl_length]; have := hx.b; omega) (by rw [bl_length]; have := hy.b; omega)
 rwa [ofL_bl, ofL_bl] at h
end Go.Proofs.YtajglnedoeboaaaGreatDoor.Cm

namespace Go.Proofs.YtajglnedoeboaaaGreatDoor.Cm
open Go Go.RowKit Go.Proofs.YtajglnedoeboaaaGreatDoor.Z Go.Proofs.YtajglnedoeboaaaGreatDoor.Evs Go.Proofs.YtajglnedoeboaaaGreatDoor.By Go.Proofs.YtajglnedoeboaaaGreatDoor.Com Go.Proofs.YtajglnedoeboaaaGreatDoorW.PrintWords Go.Proofs.YtajglnedoeboaaaGreatDoorW.PrintLast
set_option linter.unusedVariables false
set_option linter.unusedSimpArgs false
/-- What stands behind the first plus sign. -/
def mdt (l : List UInt8) : List UInt8 := (l.dropWhile (· != 43)).drop 1
theorem mdt_none (l : List UInt8) (h : l.dropWhile (· != 43) = []) : mdt l = [] := by
 unfold mdt
 rw [h]
 rfl
theorem mdt_len (l : List UInt8) (h : ¬ l.dropWhile (· != 43) = []) : (l.takeWhile (· != 43)).length < l.length := by
 have e := List.takeWhile_append_dropWhile (p := (· != 43)) (l := l)
 have : 0 < (l.dropWhile (· != 43)).length := List.length_pos_iff.2 h
 have := congrArg List.length e
 rw [List.length_append] at this
 omega
theorem mdt_drop (l : List UInt8) : mdt l = l.drop ((l.takeWhile (· != 43)).length + 1) := by
 have e := List.takeWhile_append_dropWhile (p := (· != 43)) (l := l)
 have h2 : l.drop (l.takeWhile (· != 43)).length = l.dropWhile (· != 43) := by
  have key : ∀ u v : List UInt8, (u ++ v).drop u.length = v := fun u v => List.drop_left
  have := key (l.takeWhile (· != 43)) (l.dropWhile (· != 43))
  rwa [e] at this
 unfold mdt
 rw [← h2, List.drop_drop]
theorem mdt_ext (l : List UInt8) (h : ¬ l.dropWhile (· != 43) = []) : (ofL l).extract ((l.takeWhile (· != 43)).length + 1) (ofL l).size = ofL (mdt l) := by
 rw [mdt_drop, ofL_size, ofL_extract, List.take_length]
theorem cut_ev43 (l : List UInt8) (hl : l.length ≤ 1000000) : ∃ x b, Ev (fun k => semantic_zzCut.f k (ofL l) (⟨#[43]⟩ : ByteArray)) (x, ofL (mdt l), b) := by
 have h := zs_ev 43 l (by omega)
 have hs := ofL_size l
 have h1 : ((⟨#[43]⟩ : ByteArray).size : Int) = 1 := rfl
 by_cases hd : l.dropWhile (· != 43) = []
 ·have e : zsI 43 l = -1 := by unfold zsI; rw [if_pos hd]
  rw [e] at h
  refine ⟨ofL l, false, ?_⟩
  unfold semantic_zzCut.f
  rw [mdt_none l hd]
  exact Ev.bind h (ev_neg (by omega) (ev_now rfl))
 ·have e : zsI 43 l = ((l.takeWhile (· != 43)).length : Int) := by unfold zsI; rw [if_neg hd]
  have hm := mdt_len l hd
  have hx := mdt_ext l hd
  rw [e] at h
  obtain ⟨n, hn⟩ : ∃ n, n = (l.takeWhile (· != 43)).length := ⟨_, rfl⟩
  rw [← hn] at h hm hx
  have hw : wrap64 ((n : Int) + 1) = ((n + 1 : Nat) : Int) := wrap_nat (by omega)
  refine ⟨(ofL l).extract 0 n, true, ?_⟩
  unfold semantic_zzCut.f
  rw [h1]
  refine Ev.bind h ?_
  rw [hw, Int.toNat_natCast, Int.toNat_natCast, hx]
  exact ev_pos (by omega) (ev_pos (by omega) (ev_pos (by omega) (ev_pos (by omega) (ev_pos (by omega) (ev_now rfl)))))
theorem meta_ev (l : List UInt8) (hl : l.length ≤ 1000000) : Ev (fun k => spec_likeMetadata.f k (ofL l)) (ofL (mdt l)) := by
 have h := index_ev 43 l (by omega)
 have hs := ofL_size l
 unfold spec_likeMetadata.f
 by_cases hd : l.dropWhile (· != 43) = []
 ·have e : idxI 43 l = -1 := by unfold idxI; rw [if_pos hd]
  rw [e] at h
  rw [mdt_none l hd]
  exact Ev.bind h (ev_pos (by omega) (ev_now rfl))
 ·have e : idxI 43 l = ((l.takeWhile (· != 43)).length : Int) := by unfold idxI; rw [if_neg hd]
  have hm := mdt_len l hd
  have hx := mdt_ext l hd
  rw [e] at h
  obtain ⟨n, hn⟩ : ∃ n, n = (l.takeWhile (· != 43)).length := ⟨_, rfl⟩
  rw [← hn] at h hm hx
  have hw : wrap64 ((n : Int) + 1) = ((n + 1 : Nat) : Int) := wrap_nat (by omega)
  refine Ev.bind h ?_
  rw [hw, Int.toNat_natCast, hx]
  exact ev_neg (by omega) (ev_pos (by omega) (ev_pos (by omega) (ev_now rfl)))
def pubC (x y : LK) : Int := if likC x y = 0 then Lib.compareBytes (mdt (bl x.f2)) (mdt (bl y.f2)) else likC x y
theorem pubC_range (x y : LK) : -1 ≤ pubC x y ∧ pubC x y ≤ 1 := by
 have h1 := likC_range x y
 have h2 := cmpB_range (mdt (bl x.f2)) (mdt (bl y.f2))
 unfold pubC
 split <;> omega
theorem pubC_anti (x y : LK) : pubC y x = -pubC x y := by
 have h1 := likC_anti x y
 have h2 := cmpB_anti (mdt (bl x.f2)) (mdt (bl y.f2))
 unfold pubC
 rw [h1, h2]
 by_cases e : likC x y = 0
 ·rw [if_pos (by omega), if_pos e]
 ·rw [if_neg (by omega), if_neg e]
theorem specPub_ev (x y : LK) (hx : GoodK x) (hy : GoodK y) : Ev (fun k => spec_PubCompare.f k x.f0 x.f1 x.f2 x.f3 y.f0 y.f1 y.f2 y.f3) (pubC x y, true) := by
 have h1 := meta_ev (bl x.f2) (by rw [bl_length]; have := hx.b; omega)
 have h2 := meta_ev (bl y.f2) (by rw [bl_length]; have := hy.b; omega)
 rw [ofL_bl] at h1 h2
 unfold spec_PubCompare.f pubC
 refine Ev.bind (likeOrder_ev x y hx hy) ?_
 by_cases e : likC x y = 0
 ·rw [if_pos e]
  refine ev_pos e (Ev.bind h1 (Ev.bind h2 ?_))
  rw [order_f]
  exact ev_now rfl
 ·rw [if_neg e]
  exact ev_neg e (ev_now rfl)
theorem implPub_ev (x y : LK) (hx : GoodK x) (hy : GoodK y) : Ev (fun k => impl_PubCompare.f k x.f0 x.f1 x.f2 x.f3 y.f0 y.f1 y.f2 y.f3) (pubC x y, true) := by
 have h1 := like_ev x.f0 x.f1 (by have := hx.n; omega) x.f2 x.f3
 have h2 := like_ev y.f0 y.f1 (by have := hy.n; omega) y.f2 y.f3
 have h3 := compareBuildK x y hx hy
 obtain ⟨u1, v1, h4⟩ := cut_ev43 (bl x.f2) (by rw [bl_length]; have := hx.b; omega)
 obtain ⟨u2, v2, h5⟩ := cut_ev43 (bl y.f2) (by rw [bl_length]; have := hy.b; omega)
 rw [ofL_bl] at h4 h5
 unfold impl_PubCompare.f
 refine Ev.bind h1 (Ev.bind h2 (ev_pos ?_ ?_))
 ·show (fitZ (x.f1.map ltoZ) && fitZ (y.f1.map ltoZ)) = true
  rw [fitZ_ok x hx, fitZ_ok y hy]
  rfl
 ·have hc : Ev (fun k => PubC k ((x.f1.map ltoZ).map zvS) x.f2 ((y.f1.map ltoZ).map zvS) y.f2) (pubC x y) := by
   rw [lk_map, lk_map]
   unfold PubC PubB pubC likC nmC
   by_cases e : cmpLists (x.f1.map lv) (y.f1.map lv) = 0
   ·rw [if_pos e]
    refine ev_pos e (Ev.bind h3 ?_)
    by_cases e2 : bldC (bl x.f2) (bl y.f2) = 0
    ·rw [if_pos e2]
     exact ev_pos e2 (Ev.bind h4 (Ev.bind h5 (ev_now rfl)))
    ·rw [if_neg e2]
     exact ev_neg e2 (ev_now rfl)
   ·rw [if_neg e, if_neg e]
    exact ev_neg e (ev_now rfl)
  exact Ev.bind hc (ev_now rfl)
end Go.Proofs.YtajglnedoeboaaaGreatDoor.Cm

namespace Go.Proofs.YtajglnedoeboaaaGreatDoor.Com
open Go.RowKit Go.Proofs.YtajglnedoeboaaaGreatDoor.Z Go.Proofs.YtajglnedoeboaaaGreatDoor.Evs Go.Proofs.YtajglnedoeboaaaGreatDoorW.PrintWords Go.Proofs.YtajglnedoeboaaaGreatDoorW.PrintLast
set_option linter.unusedVariables false
set_option linter.unusedSimpArgs false
theorem turned1 {r b : Int} (h : b = -r) (h1 : -1 ≤ r) (h2 : r ≤ 1) : laws_turned.f r b = some true := by
 unfold laws_turned.f
 have e : wrap64 (-b) = r := by rw [wrap_in (by omega) (by omega)]; omega
 rw [e, if_pos rfl, if_pos h1, decide_eq_true h2]
end Go.Proofs.YtajglnedoeboaaaGreatDoor.Com

namespace Go.Proofs.YtajglnedoeboaaaGreatDoor.Pure
open Go.RowKit Go.Proofs.YtajglnedoeboaaaGreatDoor.Z Go.Proofs.YtajglnedoeboaaaGreatDoor.Evs Go.Proofs.YtajglnedoeboaaaGreatDoor.By Go.Proofs.YtajglnedoeboaaaGreatDoor.Com Go.Proofs.YtajglnedoeboaaaGreatDoor.Cm Go.Proofs.YtajglnedoeboaaaGreatDoorW.PrintWords Go.Proofs.YtajglnedoeboaaaGreatDoorW.PrintLast
set_option linter.unusedVariables false
set_option linter.unusedSimpArgs false
theorem FnPub : laws_FnPub.Pure := by
 intro v0 l0 b0 s0 v1 l1 b1 s1 h0 h1
 refine Ev.rounds ?_
 unfold laws_FnPub.f
 have skip : Ev (fun k => laws_FnPub.j0 k true v0 l0 b0 s0 v1 l1 b1 s1) true := Ev.step (fun _ => by rw [laws_FnPub.j0]) (ev_t (ev_now rfl))
 obtain ⟨r0, e0, q0⟩ := fits4_ev v0 l0 b0 s0
 obtain ⟨r1, e1, q1⟩ := fits4_ev v1 l1 b1 s1
 refine Ev.bind e0 ?_
 cases r0 with
 | false => exact ev_f skip
 | true =>
  refine ev_t (Ev.bind e1 ?_)
  cases r1 with
  | false => exact skip
  | true =>
   obtain ⟨r, hr, hq⟩ := likes_ev [⟨v0, l0, b0, s0⟩, ⟨v1, l1, b1, s1⟩] (by simp) (by
    intro x hx
    rcases List.mem_cons.1 hx with rfl | hx
    ·exact q0 rfl
    ·rcases List.mem_cons.1 hx with rfl | hx
     ·exact q1 rfl
     ·cases hx)
   refine Ev.step (fun _ => by rw [laws_FnPub.j0]) ?_
   refine ev_f (Ev.bind hr ?_)
   cases r with
   | false => exact ev_f (ev_now rfl)
   | true =>
    have g0 := hq rfl ⟨v0, l0, b0, s0⟩ (by simp)
    have g1 := hq rfl ⟨v1, l1, b1, s1⟩ (by simp)
    have hs := specPub_ev _ _ g0 g1
    have hi := implPub_ev _ _ g0 g1
    have hb := implPub_ev _ _ g1 g0
    have ht := turned1 (pubC_anti ⟨v0, l0, b0, s0⟩ ⟨v1, l1, b1, s1⟩) (pubC_range _ _).1 (pubC_range _ _).2
    refine ev_t (Ev.bind hs (Ev.bind hi (Ev.bind hb ?_)))
    refine ev_pos rfl (ev_pos rfl (ev_pos rfl ?_))
    rw [ht]
    exact ev_now rfl
end Go.Proofs.YtajglnedoeboaaaGreatDoor.Pure

namespace Go.Proofs.YtajglnedoeboaaaGreatDoor.fnPub
open Go.ChangeShapes Go.WideShapes Go.ChangeAt Go.RowKit Go.Proofs.YtajglnedoeboaaaGreatDoor.Op Go.Proofs.YtajglnedoeboaaaGreatDoor.Z Go.Proofs.YtajglnedoeboaaaGreatDoorW.PrintWords
open Go.ChangeMaps (open_string shut_string)
set_option linter.unusedVariables false
set_option linter.unusedSimpArgs false
theorem own : ownKnob Tryz.prog.godebug = none := by kernel_rfl
theorem laidOut : laidOutB Tryz.prog = true := by kernel_rfl
set_option maxRecDepth 100000 in
theorem opens_k66 : Opens Tryz.prog 66 k66 := by
 intro H enc w base spare held fuel cs x h
 obtain ⟨hl, n, hf⟩ := trod_fields Tryz.underlying66 h
 have hl' : cs.length = 2 := hl.trans (by kernel_rfl)
 obtain ⟨a0, h0⟩ := open_field hf 0 4 0 1 (by rfl) (by kernel_rfl) (Opens.bool Tryz.underlying4)
 obtain ⟨a1, h1⟩ := open_field hf 1 9 1 1 (by rfl) (by kernel_rfl) (Opens.string Tryz.underlying9)
 exact ⟨(⟨a0, a1⟩ : S66), (Exists.intro _ (Exists.intro _ (And.intro (split_at cs 0 1) (And.intro h0 ((last_at cs 1 1 (by omega)) ▸ h1)))))⟩
set_option maxRecDepth 100000 in
theorem opens_k24 : Opens Tryz.prog 24 k24 := by
 intro H enc w base spare held fuel cs x h
 obtain ⟨hl, n, hf⟩ := trod_fields Tryz.underlying24 h
 have hl' : cs.length = 4 := hl.trans (by kernel_rfl)
 obtain ⟨a0, h0⟩ := open_field hf 0 4 0 1 (by rfl) (by kernel_rfl) (Opens.bool Tryz.underlying4)
 obtain ⟨a1, h1⟩ := open_field hf 1 22 1 1 (by rfl) (by kernel_rfl) (Opens.slice Tryz.underlying22 (by kernel_rfl) opens_k66)
 obtain ⟨a2, h2⟩ := open_field hf 2 9 2 1 (by rfl) (by kernel_rfl) (Opens.string Tryz.underlying9)
 obtain ⟨a3, h3⟩ := open_field hf 3 9 3 1 (by rfl) (by kernel_rfl) (Opens.string Tryz.underlying9)
 exact ⟨(⟨a0, a1, a2, a3⟩ : S24), (Exists.intro _ (Exists.intro _ (And.intro (split_at cs 0 1) (And.intro h0 (Exists.intro _ (Exists.intro _ (And.intro (split_at cs 1 1) (And.intro h1 (Exists.intro _ (Exists.intro _ (And.intro (split_at cs 2 1) (And.intro h2 ((last_at cs 3 1 (by omega)) ▸ h3)))))))))))))⟩
noncomputable def low (os : Os) : Nat := (World.settled Tryz.prog os).heap.size
def put (h : Array Obj) (g : Nat) (cs : Array Value) : Array Obj := h.modify g fun
 | .cells _ t frozen => .cells cs t frozen
 | o => o
/-- A world for the witness: the listed variables hold what their initialisers lay. -/
noncomputable def laidWorld (os : Os) : World :=
 let w0 := World.holding Tryz.prog os ⟨#[(.cells #[.string ⟨#[69, 79, 70]⟩] 214), (.cells #[.string ⟨#[110, 117, 109, 98, 101, 114, 32, 104, 97, 115, 32, 110, 111, 32, 100, 105, 103, 105, 116, 115]⟩] 214), (.cells #[.string ⟨#[39, 95, 39, 32, 109, 117, 115, 116, 32, 115, 101, 112, 97, 114, 97, 116, 101, 32, 115, 117, 99, 99, 101, 115, 115, 105, 118, 101, 32, 100, 105, 103, 105, 116, 115]⟩] 214), (.cells #[.string ⟨#[105, 110, 118, 97, 108, 105, 100, 32, 118, 101, 114, 115, 105, 111, 110]⟩] 214), (.cells #[.string ⟨#[118, 101, 114, 115, 105, 111, 110, 32, 105, 115, 32, 110, 111, 116, 32, 111, 102, 32, 116, 104, 101, 32, 115, 97, 109, 101, 32, 101, 99, 111, 115, 121, 115, 116, 101, 109]⟩] 214)], #[], []⟩
 { w0 with heap := put (put (put (put (put (w0.heap) 6 #[.iface 199 (.pointer (some ⟨low os + 0, 0, none⟩))]) 8 #[.iface 199 (.pointer (some ⟨low os + 1, 0, none⟩))]) 7 #[.iface 199 (.pointer (some ⟨low os + 2, 0, none⟩))]) 2 #[.iface 199 (.pointer (some ⟨low os + 3, 0, none⟩))]) 0 #[.iface 199 (.pointer (some ⟨low os + 4, 0, none⟩))] }
set_option maxRecDepth 100000 in
theorem laid_met (os : Os) : laidMet Tryz.prog Rows.fnPubRow.laid ((laidWorld os).forCall (fun _ _ => 0) ⟨#[], #[.agg #[.bool false, .slice none 0 0, .string ByteArray.empty, .string ByteArray.empty], .agg #[.bool false, .slice none 0 0, .string ByteArray.empty, .string ByteArray.empty]], []⟩).memory :=
 laidMet_of_run3 8 (by kernel_rfl) (by kernel_rfl) (by kernel_rfl)
set_option maxRecDepth 100000 in
theorem reads (os : Os) {H : Type} (enc : TypeId × Value → H) : DataW.whole enc Tryz.prog ((laidWorld os).forCall (fun _ _ => 0) ⟨#[], #[.agg #[.bool false, .slice none 0 0, .string ByteArray.empty, .string ByteArray.empty], .agg #[.bool false, .slice none 0 0, .string ByteArray.empty, .string ByteArray.empty]], []⟩).memory Tryz.f3.params.toList Rows.fnPubSpec.vars false #[.agg #[.bool false, .slice none 0 0, .string ByteArray.empty, .string ByteArray.empty], .agg #[.bool false, .slice none 0 0, .string ByteArray.empty, .string ByteArray.empty]].toList 8 = some ([.agg [.lit (.bool false), .nil, .lit (.string []), .lit (.string [])], .agg [.lit (.bool false), .nil, .lit (.string []), .lit (.string [])]], [], []) := by kernel_rfl
set_option maxRecDepth 100000 in
theorem lifted (os : Os) (started : os.Started) (H : Type) (enc : TypeId × Value → H) (F : Stop.Interp) :
  ReturnsInHanded {} Tryz.checked os 3 .any ((OpenSpec.ofChange Rows.fnPubSpec).preRow enc Tryz.prog Tryz.f3 Rows.fnPubRow.domain false Rows.fnPubRow.laid) (((OpenSpec.ofChange Rows.fnPubSpec).at F).post enc Tryz.prog Tryz.f3 false true false false) := by
 refine returnsInHanded_of_row (C := Tryz.checked) (s := OpenSpec.ofChange Rows.fnPubSpec) own started (by kernel_rfl) Tryz.func3
  (witness_row_atRef (enc := enc) (C := Tryz.checked) false (laidWorld os) #[.agg #[.bool false, .slice none 0 0, .string ByteArray.empty, .string ByteArray.empty], .agg #[.bool false, .slice none 0 0, .string ByteArray.empty, .string ByteArray.empty]] rfl (by kernel_rfl) (by kernel_rfl) (by kernel_rfl)
   (OpenSpec.preRow_of_cond 8 (reads os enc) (by kernel_rfl) (fun k hk => by cases hk) (by kernel_rfl) (laid_met os))) ?_
 intro W base args ds gs before hval0 hW hcnd hk0 hsz0 hL hSh hho
 have hsz : (DataW.weightsEach Tryz.prog (Tryz.f3.params.toList ++ Rows.fnPubSpec.plain.varTypes Tryz.prog) (ds ++ gs)).all (· ≤ reachBytes) = true := hsz0
 have hval : ∀ (j : Nat) t v, Tryz.f3.params[j]? = some t → args[j]? = some v → Value.okWide Tryz.prog W .any base t v := hval0
 have hW' := hW
 obtain ⟨p, q, hA0, hV, rfl, hfz, hnd⟩ := hW
 have hA : DataW.TrodAll enc Tryz.prog W 0 (fun _ => true) true Tryz.f3.params.toList args.toList ds p := hA0
 rw [Tryz.params3] at hA hval hsz
 obtain ⟨v0, vs0, d0, ds0, p0, q0, hargs, rfl, rfl, h0, r0⟩ := trodAll_cons hA
 obtain ⟨v1, vs1, d1, ds1, p1, q1, rfl, rfl, rfl, h1, r1⟩ := trodAll_cons r0
 obtain ⟨rfl, rfl, rfl⟩ := trodAll_nil r1
 obtain rfl : args = #[v0, v1] := by cases args; simp_all
 obtain ⟨rfl, rfl⟩ := trodVars_none hV
 have k0 := h0
 have lt0 : ∀ x ∈ p0, x.block < W.heap.size := by obtain ⟨m, hm⟩ := k0; exact DataW.trod_lt m _ _ _ hm
 obtain ⟨x0, cs0, rfl, hx0⟩ := open_agg Tryz.underlying24 (hval 0 24 v0 rfl rfl) opens_k24 h0
 obtain ⟨A0_1, c0_1, e0, hc0_1, hr0_1⟩ := k24_open hx0
 obtain rfl : cs0 = #[.bool x0.f0, .slice A0_1 x0.f1.length c0_1, .string x0.f2, .string x0.f3] := by apply Array.ext'; simpa using e0
 have k1 := h1
 have lt1 : ∀ x ∈ p1, x.block < W.heap.size := by obtain ⟨m, hm⟩ := k1; exact DataW.trod_lt m _ _ _ hm
 obtain ⟨x1, cs1, rfl, hx1⟩ := open_agg Tryz.underlying24 (hval 1 24 v1 rfl rfl) opens_k24 h1
 obtain ⟨A1_1, c1_1, e1, hc1_1, hr1_1⟩ := k24_open hx1
 obtain rfl : cs1 = #[.bool x1.f0, .slice A1_1 x1.f1.length c1_1, .string x1.f2, .string x1.f3] := by apply Array.ext'; simpa using e1
 clear hA0 hval0 hsz0 hsz
 refine (laws_FnPub.walk Pure.FnPub x0.f0 A0_1 c0_1 x0.f1 x0.f2 x0.f3 x1.f0 A1_1 c1_1 x1.f1 x1.f2 x1.f3 W hr0_1.2.1 hr1_1.2.1 hr0_1 hc0_1 hr1_1 hc1_1 (Gw.gw_of (l := Rows.fnPubRow.laid) hL (List.Mem.head _) (List.Mem.tail _ (List.Mem.head _)) (List.Mem.tail _ (List.Mem.tail _ (List.Mem.tail _ (List.Mem.head _)))))).mono fun e W' ⟨he, bel⟩ => ?_
 subst he
 exact ⟨_, rfl, _, _, _, [], _, [], hW', trodAll_mk1 (shut_bool Tryz.underlying4 _), (trodAll_cons_mk (Below.trod laidOut (by kernel_rfl) (of_decide_eq_true (by kernel_rfl)) k0 bel lt0) (trodAll_cons_mk (Below.trod laidOut (by kernel_rfl) (of_decide_eq_true (by kernel_rfl)) k1 bel lt1) trodAll_mk0)), rfl, bel.frame _, fun h => by cases h⟩
theorem said : Rows.FnPubSaid :=
 OpenClaim.holds_of_cond 3 Tryz.f3 rfl rfl rfl rfl rfl rfl rfl ⟨rfl, rfl, rfl, rfl, rfl⟩ rfl rfl rfl rfl rfl (by kernel_rfl) Tryz.func3 (by kernel_rfl)
  (of_decide_eq_true (by kernel_rfl)) (by unfold Func.isWrapper; first | (rw [if_pos (by decide +kernel)]; kernel_rfl) | (rw [if_neg (by decide +kernel)]; exact ⟨rfl, rfl⟩))
  (fun os started H enc _ F => by rw [OpenClaim.pre_eq_preRow]; exact lifted os started H enc F)
theorem plain (f : FuncId) (fn : Func) (hf : Tryz.pinned.checked.prog.funcNamed "pub-seniority/laws.FnPub" = some f) (hfn : Tryz.pinned.checked.prog.funcs[f]? = some fn) :
  true = Tryz.pinned.checked.prog.looks [] ∧ ∀ (j : Nat) t, fn.params[j]? = some t → Tryz.pinned.checked.prog.wantsStandIn t = false := by
 obtain rfl : f = 3 := Option.some.inj ((show Tryz.prog.funcNamed "pub-seniority/laws.FnPub" = some 3 by kernel_rfl).symm.trans hf) |>.symm
 obtain rfl : fn = Tryz.f3 := (Option.some.inj (Tryz.func3.symm.trans hfn)).symm
 refine ⟨by kernel_rfl, fun j t ht => ?_⟩
 rw [Tryz.params3] at ht
 have h2 : ([24, 24] : List TypeId).all (fun t => !Tryz.prog.wantsStandIn t) = true := by kernel_rfl
 have h3 := List.all_eq_true.1 h2 t (by have := Array.mem_of_getElem? ht; simpa using this)
 exact (show Tryz.prog.wantsStandIn t = false from by simpa using h3)
theorem proved : Rows.FnPubCardSaid :=
 Claim7.holds_tied_plain_at .later [] _ _ _ _ said (fun _ h => by cases h) (by kernel_rfl) (fun _ h => by cases h) fnPub_row_tie rfl ⟨rfl, rfl⟩ (by kernel_rfl) rfl plain (by kernel_rfl)
#print axioms proved
end Go.Proofs.YtajglnedoeboaaaGreatDoor.fnPub
namespace Go.Proofs.YtajglnedoeboaaaGreatDoor
/-- The card, under a short name, for the claim. -/
theorem fnPub_holds : Rows.FnPubCardSaid := fnPub.proved
end Go.Proofs.YtajglnedoeboaaaGreatDoor
