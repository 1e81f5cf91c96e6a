/- FnSemverRoads: versions compare by their numbers, then by what stands behind them. No condition beyond the row's own. -/
import Derived.Test.YtajglnedoeboaaaGreatDoorZ2
import Derived.Test.YtajglnedoeboaaaGreatDoorZ3
import Derived.Test.YtajglnedoeboaaaGreatDoorZ6
import Derived.Test.YtajglnedoeboaaaGreatDoorBy
import Derived.Test.YtajglnedoeboaaaGreatDoorBn
import Derived.Test.YtajglnedoeboaaaGreatDoorZ4
import Derived.Test.YtajglnedoeboaaaGreatDoorZ5
import Derived.Test.YtajglnedoeboaaaGreatDoorZ7
import Derived.Test.YtajglnedoeboaaaGreatDoorZ11
import Derived.Test.YtajglnedoeboaaaGreatDoorEv
import Derived.Lib.Bytealg
import Derived.Test.YtajglnedoeboaaaGreatDoorZ15
import Derived.Test.YtajglnedoeboaaaGreatDoorBv
import Derived.Test.YtajglnedoeboaaaGreatDoorZ13
import Derived.Test.YtajglnedoeboaaaGreatDoorZ14
import Derived.Test.YtajglnedoeboaaaGreatDoorZ16
import Derived.Test.YtajglnedoeboaaaGreatDoorZ8
import Derived.Test.YtajglnedoeboaaaGreatDoorZ20
import Derived.Test.YtajglnedoeboaaaGreatDoorZ12
import Derived.Test.YtajglnedoeboaaaGreatDoorZ17
import Derived.Test.YtajglnedoeboaaaGreatDoorLx
import Derived.Test.YtajglnedoeboaaaGreatDoorZ22
import Derived.Test.YtajglnedoeboaaaGreatDoorZ23
import Derived.Test.YtajglnedoeboaaaGreatDoorZ27
import Derived.Test.YtajglnedoeboaaaGreatDoorRows
import Derived.Test.YtajglnedoeboaaaGreatDoorOp
import Derived.Test.YtajglnedoeboaaaGreatDoorCards
import Derived.Test.YtajglnedoeboaaaGreatDoorTie
import Derived.Test.YtajglnedoeboaaaGreatDoorGl
import Derived.Deep.DeepHandedRow
import Derived.Deep.DeepWitnessRowRef
import Derived.Lay
import Derived.WalkKit
import Derived.ProofKit
import Derived.OpenShut
import Derived.ShutString
import Derived.ChangeOld
import Derived.Below
import Derived.SizedLaws
namespace Go.Proofs.YtajglnedoeboaaaGreatDoor.Com
open Go.RowKit Go.Proofs.YtajglnedoeboaaaGreatDoor.Z Go.Proofs.YtajglnedoeboaaaGreatDoor.Evs Go.Proofs.YtajglnedoeboaaaGreatDoor.By Go.Proofs.YtajglnedoeboaaaGreatDoorW.PrintWords Go.Proofs.YtajglnedoeboaaaGreatDoorW.PrintLast
set_option linter.unusedVariables false
set_option linter.unusedSimpArgs false

def tidyL (l : List UInt8) : List UInt8 := l.dropWhile (· == 0)
theorem isEmpty_ofL (l : List UInt8) : (ofL l).toList.isEmpty = l.isEmpty := by rw [toList_ofL]
theorem tidy_l (neg : Bool) (n : Nat) : ∀ l : List UInt8, l.length = n → n ≤ 140737488351232 → Ev (fun k => spec_numTidy.l0 k neg (ofL l)) (neg && !(tidyL l).isEmpty, ofL (tidyL l)) := by
 induction n with
 | zero =>
  intro l h hl
  have : l = [] := List.length_eq_zero_iff.1 h
  subst this
  refine Ev.step (fun _ => by rw [spec_numTidy.l0]) (ev_neg (by rw [ofL_size]; simp) ?_)
  cases neg with
  | true => exact ev_t (ev_now (by rw [isEmpty_ofL]; rfl))
  | false => exact ev_f (ev_now rfl)
 | succ n ih =>
  intro l h hl
  obtain ⟨c, r, rfl⟩ : ∃ c r, l = c :: r := by
   cases l with
   | nil => simp at h
   | cons c r => exact ⟨c, r, rfl⟩
  have hb : bt (ofL (c :: r)) 0 = (c.toNat : Int) := bt_ofL (c :: r) 0 (by simp)
  have hs := ofL_size (c :: r)
  have hx : (ofL (c :: r)).extract 1 (ofL (c :: r)).size = ofL r := by rw [hs, ofL_extract, List.take_of_length_le (Nat.le_refl _)]; rfl
  refine Ev.step (fun _ => by rw [spec_numTidy.l0, hb, hx]) (ev_pos (by omega) (ev_pos (by omega) ?_))
  by_cases h0 : c = 0
  ·subst h0
   refine ev_pos rfl (ev_pos (by omega) ?_)
   exact ih r (by simpa using h) (by omega)
  ·have hne : ¬ (c.toNat : Int) = 0 := fun hh => h0 (UInt8.toNat_inj.1 (show c.toNat = (0 : UInt8).toNat by have : (0 : UInt8).toNat = 0 := rfl; omega))
   have ht : tidyL (c :: r) = c :: r := by
    unfold tidyL
    rw [List.dropWhile_cons, if_neg (by simpa using h0)]
   rw [ht]
   refine ev_neg hne ?_
   cases neg with
   | true => exact ev_t (ev_now (by rw [isEmpty_ofL]; rfl))
   | false => exact ev_f (ev_now rfl)
theorem tidy_ev (neg : Bool) (l : List UInt8) (hl : l.length ≤ 140737488351232) : Ev (fun k => spec_numTidy.f k neg (ofL l)) (neg && !(tidyL l).isEmpty, ofL (tidyL l)) := tidy_l neg l.length l rfl hl
/-- A number as it must be written. -/
def okN (neg : Bool) (l : List UInt8) : Bool := (neg && !(tidyL l).isEmpty) == neg && tidyL l == l
theorem intOK_ev (neg : Bool) (l : List UInt8) (hl : l.length ≤ 140737488351232) : Ev (fun k => spec_IntOK.f k neg (ofL l)) (okN neg l) := by
 unfold spec_IntOK.f
 refine Ev.bind (tidy_ev neg l hl) (ev_now ?_)
 simp only [toList_ofL]
 rfl
end Go.Proofs.YtajglnedoeboaaaGreatDoor.Com

namespace Go.Proofs.YtajglnedoeboaaaGreatDoor.Cm
open Go.RowKit Go.Proofs.YtajglnedoeboaaaGreatDoor.Z Go.Proofs.YtajglnedoeboaaaGreatDoor.Com Go.Proofs.YtajglnedoeboaaaGreatDoor.Evs Go.Proofs.YtajglnedoeboaaaGreatDoor.By Go.Proofs.YtajglnedoeboaaaGreatDoorW.PrintWords Go.Proofs.YtajglnedoeboaaaGreatDoorW.PrintLast
set_option linter.unusedVariables false
set_option linter.unusedSimpArgs false
abbrev LI : Type := S66
abbrev LZ : Type := S85
def lv (x : LI) : Int := zval x.f0 x.f1
def ltoZ (x : LI) : LZ := ⟨x.f0, x.f1⟩

theorem rd_at (l : List LI) (i : Nat) (hi : i < l.length) : rd_T66 l (i : Int) = l[i] := by
 unfold rd_T66
 rw [Int.toNat_natCast, List.getD_eq_getElem?_getD, List.getElem?_eq_getElem hi]
 rfl
theorem intOK_ev' (x : LI) (hx : x.f1.size ≤ 140737488351232) : Ev (fun k => spec_IntOK.f k x.f0 x.f1) (okN x.f0 (bl x.f1)) := by
 have := intOK_ev x.f0 (bl x.f1) (by rw [bl_length]; exact hx)
 rwa [ofL_bl] at this
/-- Whatever zzFits2 says of a list, it says it; if yes, no text is too long. -/
theorem fits2_l (l : List LI) (hl : (l.length : Int) ≤ 2147483647) (d : Nat) : ∀ i : Nat, i + d = l.length → ∃ b, Ev (fun k => laws_zzFits2.l0 k l (l.length : Int) (i : Int)) b ∧ (b = true → ∀ x ∈ l.drop i, (x.f1.size : Int) ≤ 2147483647) := by
 induction d with
 | zero =>
  intro i h
  refine ⟨true, Ev.step (fun _ => by rw [laws_zzFits2.l0]) (ev_neg (by omega) (Ev.now _)), fun _ x hx => ?_⟩
  rw [List.drop_of_length_le (by omega)] at hx
  simp at hx
 | succ d ih =>
  intro i h
  have hi : i < l.length := by omega
  have e : l.drop i = l[i] :: l.drop (i + 1) := List.drop_eq_getElem_cons hi
  have hw : wrap64 ((i : Int) + 1) = ((i + 1 : Nat) : Int) := wrap_nat (by omega)
  obtain ⟨b, hb, hs⟩ := ih (i + 1) (by omega)
  by_cases c : ((l[i]).f1.size : Int) > 2147483647
  ·have hf : laws_zzFits3.f (l[i]).f0 (l[i]).f1 = some false := by unfold laws_zzFits3.f; rw [if_pos c]
   exact ⟨false, Ev.step (fun _ => by rw [laws_zzFits2.l0, rd_at l i hi, hf, Option.bind_some]) (ev_pos (by omega) (ev_pos (by omega) (ev_pos (by omega) (ev_f (Ev.now _))))), by simp⟩
  ·have hf : laws_zzFits3.f (l[i]).f0 (l[i]).f1 = some true := by unfold laws_zzFits3.f; rw [if_neg c]
   refine ⟨b, Ev.step (fun _ => by rw [laws_zzFits2.l0, rd_at l i hi, hf, Option.bind_some, hw]) (ev_pos (by omega) (ev_pos (by omega) (ev_pos (by omega) (ev_t hb)))), fun hb x hx => ?_⟩
   rw [e] at hx
   rcases List.mem_cons.1 hx with rfl | hx
   ·omega
   ·exact hs hb x hx
theorem fits2_ev (l : List LI) : ∃ b, Ev (fun k => laws_zzFits2.f k l) b ∧ (b = true → l.length ≤ 2147483647 ∧ ∀ x ∈ l, x.f1.size ≤ 2147483647) := by
 unfold laws_zzFits2.f
 by_cases c : (l.length : Int) > 2147483647
 ·exact ⟨false, ev_pos c (Ev.now _), by simp⟩
 ·obtain ⟨b, hb, hs⟩ := fits2_l l (by omega) l.length 0 (by omega)
  refine ⟨b, ev_neg c hb, fun h => ⟨by omega, fun x hx => ?_⟩⟩
  have := hs h x (by simpa using hx)
  omega
theorem numbers_l (l : List LI) (hl : l.length ≤ 2147483647) (hs : ∀ x ∈ l, x.f1.size ≤ 2147483647) (d : Nat) : ∀ i : Nat, i + d = l.length → ∃ b, Ev (fun k => laws_numbers.l0 k l l (l.length : Int) (i : Int)) b ∧ (b = true → l.length ≤ 150 ∧ ∀ x ∈ l.drop i, x.f1.size ≤ 1500 ∧ okN x.f0 (bl x.f1) = true) := by
 induction d with
 | zero =>
  intro i h
  refine ⟨_, Ev.step (fun _ => by rw [laws_numbers.l0]) (ev_neg (by omega) (Ev.now _)), fun hb => ⟨by have := of_decide_eq_true hb; omega, fun x hx => ?_⟩⟩
  rw [List.drop_of_length_le (by omega)] at hx
  simp at hx
 | succ d ih =>
  intro i h
  have hi : i < l.length := by omega
  have e : l.drop i = l[i] :: l.drop (i + 1) := List.drop_eq_getElem_cons hi
  have hw : wrap64 ((i : Int) + 1) = ((i + 1 : Nat) : Int) := wrap_nat (by omega)
  have hsz := hs _ (List.getElem_mem hi)
  have hok := intOK_ev' l[i] (by omega)
  obtain ⟨b, hb, hq⟩ := ih (i + 1) (by omega)
  cases ho : okN (l[i]).f0 (bl (l[i]).f1) with
  | false =>
   rw [ho] at hok
   refine ⟨false, ?_, by simp⟩
   refine Ev.step (fun _ => by rw [laws_numbers.l0, rd_at l i hi]) ?_
   exact ev_pos (by omega) (ev_pos (by omega) (ev_pos (by omega) (Ev.bind hok (ev_f (Ev.now _)))))
  | true =>
   rw [ho] at hok
   by_cases c : ((l[i]).f1.size : Int) > 1500
   ·refine ⟨false, ?_, by simp⟩
    refine Ev.step (fun _ => by rw [laws_numbers.l0, rd_at l i hi]) ?_
    exact ev_pos (by omega) (ev_pos (by omega) (ev_pos (by omega) (Ev.bind hok (ev_t (ev_pos c (Ev.now _))))))
   ·have hev : Ev (fun k => laws_numbers.l0 k l l (l.length : Int) (i : Int)) b := by
     refine Ev.step (fun _ => by rw [laws_numbers.l0, rd_at l i hi, hw]) ?_
     exact ev_pos (by omega) (ev_pos (by omega) (ev_pos (by omega) (Ev.bind hok (ev_t (ev_neg c hb)))))
    refine ⟨b, hev, fun h => ⟨(hq h).1, fun x hx => ?_⟩⟩
    rw [e] at hx
    rcases List.mem_cons.1 hx with rfl | hx
    ·exact ⟨by omega, ho⟩
    ·exact (hq h).2 x hx
theorem numbers_ev (l : List LI) (hl : l.length ≤ 2147483647) (hs : ∀ x ∈ l, x.f1.size ≤ 2147483647) : ∃ b, Ev (fun k => laws_numbers.f k l) b ∧ (b = true → l.length ≤ 150 ∧ ∀ x ∈ l, x.f1.size ≤ 1500 ∧ okN x.f0 (bl x.f1) = true) := by
 obtain ⟨b, hb, h⟩ := numbers_l l hl hs l.length 0 (by omega)
 exact ⟨b, hb, fun hh => ⟨(h hh).1, fun x hx => (h hh).2 x (by simpa using hx)⟩⟩
theorem lk_bigs_l (l : List LI) (hl : l.length ≤ 1000000) (d : Nat) : ∀ (i : Nat) (acc : List LZ), i + d = l.length → acc.length ≤ i → Ev (fun k => impl_bigs.l0 k acc l (l.length : Int) (i : Int)) (acc ++ (l.drop i).map ltoZ) := by
 induction d with
 | zero =>
  intro i acc h ha
  refine Ev.step (fun _ => by rw [impl_bigs.l0]) (ev_neg (by omega) (ev_now ?_))
  rw [List.drop_of_length_le (by omega)]
  simp
 | succ d ih =>
  intro i acc h ha
  have hi : i < l.length := by omega
  have e : l.drop i = l[i] :: l.drop (i + 1) := List.drop_eq_getElem_cons hi
  have hr : rd_T66 l (i : Int) = l[i] := by
   unfold rd_T66
   rw [Int.toNat_natCast, List.getD_eq_getElem?_getD, List.getElem?_eq_getElem hi]
   rfl
  have hw : wrap64 ((i : Int) + 1) = ((i + 1 : Nat) : Int) := wrap_nat (by omega)
  refine Ev.step (fun _ => by rw [impl_bigs.l0, hr, hw]) (ev_pos (by omega) (ev_pos (by omega) (ev_pos (by omega) (ev_pos (by omega) ?_))))
  refine ev_eq (ih (i + 1) (acc ++ [ltoZ l[i]]) (by omega) (by simp; omega)) ?_
  rw [e, List.map_cons, List.append_assoc]
  rfl
theorem lk_bigs_ev (l : List LI) (hl : l.length ≤ 1000000) : Ev (fun k => impl_bigs.f k l) (l.map ltoZ) := by
 have h := lk_bigs_l l hl l.length 0 [] (by omega) (Nat.le_refl _)
 exact h
theorem lk_map (l : List LI) : (l.map ltoZ).map zvS = l.map lv := by rw [List.map_map]; rfl
theorem like_ev (v : Bool) (l : List LI) (hl : l.length ≤ 1000000) (b s : ByteArray) : Ev (fun k => impl_like.f k v l b s) (v, l.map ltoZ, b, s) := by
 unfold impl_like.f
 exact Ev.bind (lk_bigs_ev l hl) (ev_now rfl)
end Go.Proofs.YtajglnedoeboaaaGreatDoor.Cm

namespace Go.Proofs.YtajglnedoeboaaaGreatDoor.Com
open Go.RowKit Go.Proofs.YtajglnedoeboaaaGreatDoor.Z Go.Proofs.YtajglnedoeboaaaGreatDoor.Evs Go.Proofs.YtajglnedoeboaaaGreatDoor.By Go.Proofs.YtajglnedoeboaaaGreatDoorW.PrintWords Go.Proofs.YtajglnedoeboaaaGreatDoorW.PrintLast
set_option linter.unusedVariables false
set_option linter.unusedSimpArgs false

def ptB (c : UInt8) : Bool := c == 46
theorem isPoint_f (c : UInt8) : spec_isPoint.f (c.toNat : Int) = some (ptB c) := by
 unfold spec_isPoint.f ptB
 congr 1
 rw [Bool.eq_iff_iff, beq_iff_eq, beq_iff_eq]
 constructor
 ·intro h
  exact UInt8.toNat_inj.1 (by have : (46 : UInt8).toNat = 46 := rfl; omega)
 ·rintro rfl; rfl
theorem cut_l (l : List UInt8) (hl : l.length ≤ 100000) (d : Nat) : ∀ (i f : Nat) (acc : List ByteArray), i + d = l.length → f ≤ i → acc.length ≤ i →
  Ev (fun k => spec_cut_isPoint.l0 k (ofL l) acc (f : Int) (i : Int)) (acc ++ (onto ((l.take i).drop f) (cutP ptB (l.drop i))).map ofL) := by
 have hs := ofL_size l
 have hext : ∀ i f : Nat, (ofL l).extract ((f : Int)).toNat ((i : Int)).toNat = ofL ((l.take i).drop f) := fun i f => by rw [Int.toNat_natCast, Int.toNat_natCast, ofL_extract]
 induction d with
 | zero =>
  intro i f acc h hf ha
  have e : l.drop i = [] := List.drop_of_length_le (by omega)
  rw [e]
  refine Ev.step (fun _ => by rw [spec_cut_isPoint.l0, hext, wrap_nat (by omega)]) (ev_pos (by omega) (ev_pos (by omega) (ev_pos (by omega) (ev_pos (by omega) (ev_pos (by omega) ?_)))))
  refine Ev.step (fun _ => by rw [spec_cut_isPoint.l0]) (ev_neg (by omega) (ev_now ?_))
  simp [cutP, onto]
 | succ d ih =>
  intro i f acc h hf ha
  have hc := bt_ofL l i (by omega)
  have e : l.drop i = l[i]'(by omega) :: l.drop (i + 1) := List.drop_eq_getElem_cons (by omega)
  have et : l.take (i + 1) = l.take i ++ [l[i]'(by omega)] := (List.take_append_getElem (by omega)).symm
  refine Ev.step (fun _ => by rw [spec_cut_isPoint.l0, hc, isPoint_f, Option.bind_some, hext, wrap_nat (by omega)]) (ev_pos (by omega) (ev_neg (by omega) (ev_pos (by omega) (ev_pos (by omega) ?_))))
  cases hp : ptB (l[i]'(by omega)) with
  | true =>
   refine ev_t (ev_pos (by omega) (ev_pos (by omega) (ev_pos (by omega) ?_)))
   refine ev_eq (ih (i + 1) (i + 1) (acc ++ [ofL ((l.take i).drop f)]) (by omega) (Nat.le_refl _) (by simp; omega)) ?_
   have e0 : (l.take (i + 1)).drop (i + 1) = [] := List.drop_of_length_le (by rw [List.length_take]; omega)
   rw [e, onto_cut _ _ _ _ hp, e0, onto_nil]
   simp
  | false =>
   refine ev_f ?_
   refine ev_eq (ih (i + 1) f acc (by omega) (by omega) (by omega)) ?_
   rw [e, onto_cons _ _ _ _ hp, et, List.drop_append_of_le_length (by simp; omega)]
theorem cut_ev (l : List UInt8) (hl : l.length ≤ 100000) (n : Nat) : Ev (fun k => spec_cut_isPoint.f k (ofL l) n) ((cutP ptB l).map ofL) := by
 unfold spec_cut_isPoint.f
 have := cut_l l hl l.length 0 0 [] (by omega) (Nat.le_refl _) (by simp)
 simpa [onto_nil] using this
end Go.Proofs.YtajglnedoeboaaaGreatDoor.Com

namespace Go.Proofs.YtajglnedoeboaaaGreatDoor.Com
open Go.RowKit Go.Proofs.YtajglnedoeboaaaGreatDoor.Z Go.Proofs.YtajglnedoeboaaaGreatDoor.Evs Go.Proofs.YtajglnedoeboaaaGreatDoor.By Go.Proofs.YtajglnedoeboaaaGreatDoorW.PrintWords Go.Proofs.YtajglnedoeboaaaGreatDoorW.PrintLast
set_option linter.unusedVariables false
set_option linter.unusedSimpArgs false

/-- The place of the first byte of a sort; -1 without one. -/
def idxI (c : UInt8) (l : List UInt8) : Int := if (l.dropWhile (· != c)) = [] then -1 else ((l.takeWhile (· != c)).length : Int)
theorem byte_eq (a c : UInt8) : ((a.toNat : Int) = (c.toNat : Int)) ↔ a = c := ⟨fun h => UInt8.toNat_inj.1 (by omega), fun h => by rw [h]⟩
theorem idx_split (c : UInt8) (l : List UInt8) : ∀ i : Nat, (∀ x ∈ l.take i, (x != c) = true) → l.takeWhile (· != c) = l.take i ++ (l.drop i).takeWhile (· != c) ∧ l.dropWhile (· != c) = (l.drop i).dropWhile (· != c) := by
 intro i h
 have e := List.take_append_drop i l
 constructor
 ·conv => lhs; rw [← e]
  exact List.takeWhile_append_of_pos h
 ·conv => lhs; rw [← e]
  exact List.dropWhile_append_of_pos h
theorem index_l (c : UInt8) (l : List UInt8) (hl : l.length ≤ 140737488351232) (d : Nat) : ∀ i : Nat, i + d = l.length → (∀ x ∈ l.take i, (x != c) = true) → Ev (fun k => spec_indexOf.l0 k (ofL l) (c.toNat : Int) (i : Int)) (idxI c l) := by
 have hs := ofL_size l
 induction d with
 | zero =>
  intro i h hp
  refine Ev.step (fun _ => by rw [spec_indexOf.l0]) (ev_neg (by omega) (ev_now ?_))
  have := (idx_split c l i hp).2
  rw [List.drop_of_length_le (by omega)] at this
  rw [idxI, if_pos (show List.dropWhile (fun x => x != c) l = [] from this)]
 | succ d ih =>
  intro i h hp
  have hi : i < l.length := by omega
  have hc := bt_ofL l i hi
  refine Ev.step (fun _ => by rw [spec_indexOf.l0, hc, wrap_nat (by omega)]) (ev_pos (by omega) (ev_pos (by omega) ?_))
  by_cases e : l[i]'hi = c
  ·refine ev_pos ((byte_eq _ _).2 e) (ev_now ?_)
   have h1 := idx_split c l i hp
   rw [List.drop_eq_getElem_cons hi, List.dropWhile_cons, List.takeWhile_cons, if_neg (by simp [e]), if_neg (by simp [e])] at h1
   have h2 : ¬ List.dropWhile (fun x => x != c) l = [] := fun hh => by
    have := h1.2.symm.trans hh
    cases this
   rw [idxI, if_neg h2, h1.1, List.append_nil, List.length_take]
   omega
  ·refine ev_neg (fun h => e ((byte_eq _ _).1 h)) (ih (i + 1) (by omega) (fun x hx => ?_))
   rw [List.take_succ_eq_append_getElem hi, List.mem_append] at hx
   rcases hx with hx | hx
   ·exact hp x hx
   ·simp at hx
    subst hx
    simpa using e
theorem index_ev (c : UInt8) (l : List UInt8) (hl : l.length ≤ 140737488351232) : Ev (fun k => spec_indexOf.f k (ofL l) (c.toNat : Int)) (idxI c l) := index_l c l hl l.length 0 (by omega) (by simp)
end Go.Proofs.YtajglnedoeboaaaGreatDoor.Com

namespace Go.Proofs.YtajglnedoeboaaaGreatDoor.Com
open Go.RowKit Go.Proofs.YtajglnedoeboaaaGreatDoor.Z Go.Proofs.YtajglnedoeboaaaGreatDoor.Evs Go.Proofs.YtajglnedoeboaaaGreatDoorW.PrintWords Go.Proofs.YtajglnedoeboaaaGreatDoorW.PrintLast
set_option linter.unusedVariables false
set_option linter.unusedSimpArgs false

/-- Ascii: an answer; where it is true every byte is below 128. -/
theorem ascii_l (s : ByteArray) (hs : s.size ≤ 140737488351232) (d : Nat) : ∀ i : Nat, i + d = s.size → ∃ r, Ev (fun k => spec_Ascii.l0 k s (i : Int)) r ∧ (r = true → ∀ j : Nat, i ≤ j → (h : j < s.size) → (s[j]'h).toNat < 128) := by
 induction d with
 | zero => intro i h; exact ⟨true, Ev.step (fun _ => by rw [spec_Ascii.l0]) (ev_neg (by omega) (Ev.now _)), fun _ j h1 h2 => by omega⟩
 | succ d ih =>
  intro i h
  obtain ⟨r, hr, hq⟩ := ih (i + 1) (by omega)
  have hb := bt_nat s i (by omega)
  by_cases c : bt s (i : Int) > 127
  ·exact ⟨false, Ev.step (fun _ => by rw [spec_Ascii.l0]) (ev_pos (by omega) (ev_pos (by omega) (ev_pos c (Ev.now _)))), fun h => by cases h⟩
  ·refine ⟨r, Ev.step (fun _ => by rw [spec_Ascii.l0, wrap_nat (by omega)]) (ev_pos (by omega) (ev_pos (by omega) (ev_neg c hr))), fun h j h1 h2 => ?_⟩
   by_cases e : j = i
   ·subst e; omega
   ·exact hq h j (by omega) h2
theorem ascii_ev (s : ByteArray) (hs : s.size ≤ 140737488351232) : ∃ r, Ev (fun k => spec_Ascii.f k s) r ∧ (r = true → ∀ j : Nat, (h : j < s.size) → (s[j]'h).toNat < 128) := by
 obtain ⟨r, hr, hq⟩ := ascii_l s hs s.size 0 (by omega)
 exact ⟨r, hr, fun h j hj => hq h j (by omega) hj⟩
end Go.Proofs.YtajglnedoeboaaaGreatDoor.Com

namespace Go.Proofs.YtajglnedoeboaaaGreatDoor.Com
open Go.RowKit Go.Proofs.YtajglnedoeboaaaGreatDoor.Z Go.Proofs.YtajglnedoeboaaaGreatDoor.Evs Go.Proofs.YtajglnedoeboaaaGreatDoor.By Go.Proofs.YtajglnedoeboaaaGreatDoorW.PrintWords Go.Proofs.YtajglnedoeboaaaGreatDoorW.PrintLast
set_option linter.unusedVariables false
set_option linter.unusedSimpArgs false

theorem isDigit_f (c : UInt8) : spec_isDigit.f (c.toNat : Int) = some (dg c) := by
 unfold spec_isDigit.f dg
 by_cases h : (c.toNat : Int) ≥ 48
 ·rw [if_pos h]
  congr 1
  rw [Bool.eq_iff_iff, decide_eq_true_eq, decide_eq_true_eq]
  omega
 ·rw [if_neg h]
  congr 1
  symm
  rw [decide_eq_false_iff_not]
  omega
/-- Digits alone, one at least. -/
def allD (l : List UInt8) : Bool := l.all dg && decide (0 < l.length)
theorem digits_l (l : List UInt8) (hl : l.length ≤ 140737488351232) (d : Nat) : ∀ i : Nat, i + d = l.length → Ev (fun k => spec_allDigits.l0 k (ofL l) (i : Int)) ((l.drop i).all dg && decide (0 < l.length)) := by
 have hs := ofL_size l
 induction d with
 | zero =>
  intro i h
  refine Ev.step (fun _ => by rw [spec_allDigits.l0]) (ev_neg (by omega) (ev_now ?_))
  rw [List.drop_of_length_le (by omega), hs]
  simp
 | succ d ih =>
  intro i h
  have hc := bt_ofL l i (by omega)
  refine Ev.step (fun _ => by rw [spec_allDigits.l0, hc, isDigit_f, Option.bind_some, wrap_nat (by omega)]) (ev_pos (by omega) (ev_pos (by omega) ?_))
  rw [List.drop_eq_getElem_cons (by omega), List.all_cons]
  cases e : dg (l[i]'(by omega)) with
  | true => exact ev_t (by simpa using ih (i + 1) (by omega))
  | false => exact ev_f (ev_now (by simp))
theorem digits_ev (l : List UInt8) (hl : l.length ≤ 140737488351232) : Ev (fun k => spec_allDigits.f k (ofL l)) (allD l) := digits_l l hl l.length 0 (by omega)
end Go.Proofs.YtajglnedoeboaaaGreatDoor.Com

namespace Go.Proofs.YtajglnedoeboaaaGreatDoor.Com
open Go.RowKit Go.Proofs.YtajglnedoeboaaaGreatDoor.Z Go.Proofs.YtajglnedoeboaaaGreatDoor.Evs Go.Proofs.YtajglnedoeboaaaGreatDoor.By Go.Proofs.YtajglnedoeboaaaGreatDoorW.PrintWords Go.Proofs.YtajglnedoeboaaaGreatDoorW.PrintLast
set_option linter.unusedVariables false
set_option linter.unusedSimpArgs false

/-- A sign and digits alone. -/
def signed (l : List UInt8) : Bool := match l with
 | [] => false
 | c :: r => (c == 45 || c == 43) && allD r
theorem signed_short (l : List UInt8) (h : ¬ 1 < l.length) : signed l = false := by
 match l, h with
 | [], _ => rfl
 | [c], _ => simp [signed, allD]
 | _ :: _ :: _, h => simp at h
def idK (l : List (List UInt8)) : Bool := l.all fun x => !signed x
theorem rd_map (l : List (List UInt8)) (i : Nat) (h : i < l.length) : rdOf ByteArray.empty (l.map ofL) (i : Int) = ofL (l[i]'h) := by
 rw [rdOf_nat]
 simp [List.getD_eq_getElem?_getD, h]
theorem ident_l (l : List (List UInt8)) (hl : l.length ≤ 100000) (hz : ∀ x ∈ l, x.length ≤ 140737488351232) (d : Nat) : ∀ i : Nat, i + d = l.length → Ev (fun k => spec_IdentifiersKnown.l0 k (l.map ofL) (i : Int)) (idK (l.drop i)) := by
 induction d with
 | zero =>
  intro i h
  refine Ev.step (fun _ => by rw [spec_IdentifiersKnown.l0, List.length_map]) (ev_neg (by omega) (ev_now ?_))
  rw [List.drop_of_length_le (by omega)]
  rfl
 | succ d ih =>
  intro i h
  have hi : i < l.length := by omega
  have hr := rd_map l i hi
  have hlen := hz _ (List.getElem_mem hi)
  have e : l.drop i = l[i] :: l.drop (i + 1) := List.drop_eq_getElem_cons hi
  have hk : idK (l.drop i) = (!signed l[i] && idK (l.drop (i + 1))) := by rw [e]; rfl
  have next := ih (i + 1) (by omega)
  rw [hk]
  refine Ev.step (fun _ => by rw [spec_IdentifiersKnown.l0, List.length_map, hr, ofL_size, wrap_nat (by omega)]) (ev_pos (by omega) (ev_pos (by omega) ?_))
  by_cases h1 : 1 < l[i].length
  ·refine ev_pos (by omega) (ev_pos (by omega) ?_)
   obtain ⟨c, r, hcr⟩ : ∃ c r, l[i] = c :: r := by
    cases hx : l[i] with
    | nil => rw [hx] at h1; simp at h1
    | cons c r => exact ⟨c, r, rfl⟩
   rw [hcr] at hlen h1 ⊢
   have hb : bt (ofL (c :: r)) 0 = (c.toNat : Int) := bt_ofL (c :: r) 0 (by simp)
   have hx : (ofL (c :: r)).extract 1 (c :: r).length = ofL r := by rw [ofL_extract, List.take_of_length_le (Nat.le_refl _)]; rfl
   have hd := digits_ev r (by simp at hlen; omega)
   have c45 : (c.toNat : Int) = 45 ↔ (c == 45) = true := by
    rw [beq_iff_eq]
    exact ⟨fun h => UInt8.toNat_inj.1 (by have : (45 : UInt8).toNat = 45 := rfl; omega), fun h => by rw [h]; rfl⟩
   have c43 : (c.toNat : Int) = 43 ↔ (c == 43) = true := by
    rw [beq_iff_eq]
    exact ⟨fun h => UInt8.toNat_inj.1 (by have : (43 : UInt8).toNat = 43 := rfl; omega), fun h => by rw [h]; rfl⟩
   simp only [hb, hx]
   by_cases h45 : (c == 45) = true
   ·refine ev_pos (c45.2 h45) (ev_pos (by omega) (Ev.bind hd ?_))
    have hsg : signed (c :: r) = allD r := by simp only [signed, h45, Bool.true_or, Bool.true_and]
    rw [hsg]
    cases allD r with
    | true => exact ev_t (ev_now (by simp))
    | false => exact ev_f (by simpa using next)
   ·refine ev_neg (fun h => h45 (c45.1 h)) ?_
    by_cases h43 : (c == 43) = true
    ·refine ev_pos (c43.2 h43) (ev_pos (by omega) (Ev.bind hd ?_))
     have hsg : signed (c :: r) = allD r := by simp only [signed, h43, Bool.or_true, Bool.true_and]
     rw [hsg]
     cases allD r with
     | true => exact ev_t (ev_now (by simp))
     | false => exact ev_f (by simpa using next)
    ·refine ev_neg (fun h => h43 (c43.1 h)) ?_
     have hsg : signed (c :: r) = false := by
      have a : (c == 45) = false := by simpa using h45
      have b : (c == 43) = false := by simpa using h43
      simp only [signed, a, b, Bool.or_false, Bool.false_and]
     rw [hsg]
     simpa using next
  ·refine ev_neg (by omega) ?_
   rw [signed_short _ h1]
   simpa using next
theorem ident_ev (l : List (List UInt8)) (hl : l.length ≤ 100000) (hz : ∀ x ∈ l, x.length ≤ 140737488351232) : Ev (fun k => spec_IdentifiersKnown.f k (l.map ofL)) (idK l) := by
 have := ident_l l hl hz l.length 0 (by omega)
 exact this
end Go.Proofs.YtajglnedoeboaaaGreatDoor.Com

namespace Go.Proofs.YtajglnedoeboaaaGreatDoor.Com
open Go Go.RowKit Go.Proofs.YtajglnedoeboaaaGreatDoor.Z Go.Proofs.YtajglnedoeboaaaGreatDoor.Evs Go.Proofs.YtajglnedoeboaaaGreatDoor.By Go.Proofs.YtajglnedoeboaaaGreatDoorW.PrintWords Go.Proofs.YtajglnedoeboaaaGreatDoorW.PrintLast
set_option linter.unusedVariables false
set_option linter.unusedSimpArgs false

theorem cmpB_range : ∀ a b : List UInt8, Lib.compareBytes a b = -1 ∨ Lib.compareBytes a b = 0 ∨ Lib.compareBytes a b = 1
 | [], [] => .inr (.inl rfl)
 | [], _ :: _ => .inl rfl
 | _ :: _, [] => .inr (.inr rfl)
 | x :: a, y :: b => by
  rw [Lib.compareBytes]
  split
  ·exact .inl rfl
  ·split
   ·exact .inr (.inr rfl)
   ·exact cmpB_range a b
theorem cmpB_anti : ∀ a b : List UInt8, Lib.compareBytes b a = -Lib.compareBytes a b
 | [], [] => rfl
 | [], _ :: _ => rfl
 | _ :: _, [] => rfl
 | x :: a, y :: b => by
  rw [Lib.compareBytes, Lib.compareBytes, cmpB_anti a b]
  by_cases h : x < y
  ·have h2 : ¬ y < x := fun h2 => by have h : x.toNat < y.toNat := h; have h2 : y.toNat < x.toNat := h2; omega
   rw [if_pos h, if_neg h2, if_pos h]; rfl
  ·by_cases h2 : y < x
   ·rw [if_pos h2, if_neg h, if_pos h2]
   ·rw [if_neg h2, if_neg h, if_neg h, if_neg h2]
theorem ext1 (c : UInt8) (r : List UInt8) : (ofL (c :: r)).extract 1 (ofL (c :: r)).size = ofL r := by
 rw [ofL_size, ofL_extract, List.take_length]
 rfl
end Go.Proofs.YtajglnedoeboaaaGreatDoor.Com

namespace Go.Proofs.YtajglnedoeboaaaGreatDoor.Com
open Go Go.RowKit Go.Proofs.YtajglnedoeboaaaGreatDoor.Z Go.Proofs.YtajglnedoeboaaaGreatDoor.Evs Go.Proofs.YtajglnedoeboaaaGreatDoor.By Go.Proofs.YtajglnedoeboaaaGreatDoor.Ss Go.Proofs.YtajglnedoeboaaaGreatDoorW.PrintWords Go.Proofs.YtajglnedoeboaaaGreatDoorW.PrintLast
set_option linter.unusedVariables false
set_option linter.unusedSimpArgs false
theorem cmpZ_range (a b : Int) : Bn.cmpZ a b = -1 ∨ Bn.cmpZ a b = 0 ∨ Bn.cmpZ a b = 1 := by
 unfold Bn.cmpZ
 split
 ·simp
 ·split <;> simp
theorem idC_range (x y : ByteArray) : idC x y = -1 ∨ idC x y = 0 ∨ idC x y = 1 := by
 unfold idC
 split
 ·exact cmpZ_range _ _
 ·exact cmpB_range _ _
 ·simp
 ·simp
theorem cmpZ_anti (a b : Int) : Bn.cmpZ b a = -Bn.cmpZ a b := by
 unfold Bn.cmpZ
 rcases Int.lt_trichotomy a b with h | h | h
 ·rw [if_neg (by omega), if_pos h, if_pos h]
  rfl
 ·rw [if_neg (by omega), if_neg (by omega), if_neg (by omega), if_neg (by omega)]
  rfl
 ·rw [if_pos h, if_neg (by omega), if_pos h]
theorem idC_anti (x y : ByteArray) : idC y x = -idC x y := by
 unfold idC
 cases cvt x <;> cases cvt y
 ·exact cmpB_anti _ _
 ·rfl
 ·rfl
 ·exact cmpZ_anti _ _
theorem idsC_anti : ∀ l r : List ByteArray, idsC r l = -idsC l r
 | [], [] => rfl
 | _ :: _, [] => rfl
 | [], _ :: _ => rfl
 | x :: l, y :: r => by
  rw [idsC, idsC, idC_anti x y]
  rcases idC_range x y with h | h | h <;> rw [h]
  ·rfl
  ·exact idsC_anti l r
  ·rfl
end Go.Proofs.YtajglnedoeboaaaGreatDoor.Com

namespace Go.Proofs.YtajglnedoeboaaaGreatDoor.Cm
open Go Go.RowKit Go.Proofs.YtajglnedoeboaaaGreatDoor.Z Go.Proofs.YtajglnedoeboaaaGreatDoor.Evs Go.Proofs.YtajglnedoeboaaaGreatDoor.By Go.Proofs.YtajglnedoeboaaaGreatDoor.Com Go.Proofs.YtajglnedoeboaaaGreatDoorW.PrintWords Go.Proofs.YtajglnedoeboaaaGreatDoorW.PrintLast
set_option linter.unusedVariables false
set_option linter.unusedSimpArgs false
/-- What stands ahead of the first plus sign. -/
def mt (l : List UInt8) : List UInt8 := l.takeWhile (· != 43)
/-- Without one hyphen ahead. -/
def unh : List UInt8 → List UInt8
 | c :: r => if c = 45 then r else c :: r
 | [] => []
theorem unh_cons (c : UInt8) (r : List UInt8) : unh (c :: r) = if c = 45 then r else c :: r := rfl
def bdy (l : List UInt8) : List UInt8 := unh (mt l)
def idsP (l : List UInt8) : List (List UInt8) := cutP ptB (bdy l)
def idsS (l : List UInt8) : List (List UInt8) := if bdy l = [] then [] else idsP l
theorem mt_len (l : List UInt8) : (mt l).length ≤ l.length := (List.takeWhile_sublist _).length_le
theorem unh_len (l : List UInt8) : (unh l).length ≤ l.length := by
 cases l with
 | nil => exact Nat.le_refl _
 | cons c r =>
  rw [unh_cons]
  split
  ·simp
  ·exact Nat.le_refl _
theorem bdy_len (l : List UInt8) : (bdy l).length ≤ l.length := Nat.le_trans (unh_len _) (mt_len _)
theorem cutP_sz (p : UInt8 → Bool) (l : List UInt8) : (cutP p l).length ≤ l.length + 1 ∧ ∀ x ∈ cutP p l, x.length ≤ l.length := by
 induction l with
 | nil => simp [cutP]
 | cons c l ih =>
  unfold cutP
  by_cases hc : p c = true
  ·rw [if_pos hc]
   refine ⟨by simp only [List.length_cons]; omega, fun x hx => ?_⟩
   rcases List.mem_cons.1 hx with rfl | hx
   ·simp
   ·have := ih.2 x hx
    simp only [List.length_cons]
    omega
  ·rw [if_neg hc]
   cases e : cutP p l with
   | nil => exact absurd e (cutP_ne p l)
   | cons y ys =>
    rw [e] at ih
    simp only [List.length_cons] at ih ⊢
    refine ⟨by omega, fun x hx => ?_⟩
    rcases List.mem_cons.1 hx with rfl | hx
    ·have := ih.2 y (by simp)
     simp only [List.length_cons]
     omega
    ·have := ih.2 x (by simp [hx])
     omega
theorem ids_sz (l : List UInt8) : (idsP l).length ≤ l.length + 1 ∧ ∀ x ∈ idsP l, x.length ≤ l.length := by
 have h := cutP_sz ptB (bdy l)
 have hb := bdy_len l
 exact ⟨Nat.le_trans h.1 (by omega), fun x hx => Nat.le_trans (h.2 x hx) hb⟩
theorem idsS_sub (l : List UInt8) : (idsS l).length ≤ (idsP l).length ∧ ∀ x ∈ idsS l, x ∈ idsP l := by
 unfold idsS
 split
 ·simp
 ·exact ⟨Nat.le_refl _, fun _ h => h⟩
theorem bt0 (c : UInt8) (r : List UInt8) : bt (ofL (c :: r)) 0 = (c.toNat : Int) := bt_ofL (c :: r) 0 (by simp)
theorem size_pos (c : UInt8) (r : List UInt8) : (0 : Int) < ((ofL (c :: r)).size : Int) := by rw [ofL_size]; simp
theorem j1_ev (m : List UInt8) (hm : m.length ≤ 100000) (b : Bool) (hb : b = decide (m.head? = some 45)) : Ev (fun k => spec_likeIdentifiers.j1 k (ofL m) b) ((if unh m = [] then [] else cutP ptB (unh m)).map ofL) := by
 have hs := ofL_size m
 cases b with
 | true =>
  cases m with
  | nil => simp at hb
  | cons c r =>
   have hc : c = 45 := by simpa using hb
   subst hc
   have e : unh (45 :: r) = r := by rw [unh_cons, if_pos rfl]
   have h1 : (1 : Int) ≤ ((ofL (45 :: r)).size : Int) := by rw [hs]; simp; omega
   rw [e]
   refine Ev.step (fun _ => by rw [spec_likeIdentifiers.j1, ext1, toList_ofL]) (ev_t (ev_pos h1 ?_))
   by_cases hr : r = []
   ·rw [if_pos hr]
    exact ev_pos hr (ev_now rfl)
   ·rw [if_neg hr]
    exact ev_neg hr (Ev.bind (cut_ev r (by simp at hm; omega) 63) (ev_now rfl))
 | false =>
  have e : unh m = m := by
   cases m with
   | nil => rfl
   | cons c r =>
    rw [unh_cons, if_neg (fun h => by rw [h] at hb; simp at hb)]
  rw [e]
  refine Ev.step (fun _ => by rw [spec_likeIdentifiers.j1, toList_ofL]) (ev_f ?_)
  by_cases hr : m = []
  ·rw [if_pos hr]
   exact ev_pos hr (ev_now rfl)
  ·rw [if_neg hr]
   exact ev_neg hr (Ev.bind (cut_ev m hm 63) (ev_now rfl))
theorem j0_ev (m : List UInt8) (hm : m.length ≤ 100000) : Ev (fun k => spec_likeIdentifiers.j0 k (ofL m)) ((if unh m = [] then [] else cutP ptB (unh m)).map ofL) := by
 refine Ev.step (fun _ => by rw [spec_likeIdentifiers.j0, toList_ofL]) ?_
 cases m with
 | nil => exact ev_pos rfl (j1_ev [] (by simp) false (by simp))
 | cons c r =>
  refine ev_neg (by simp) (ev_pos (size_pos c r) ?_)
  refine j1_ev (c :: r) hm _ ?_
  rw [bt0]
  by_cases h : c = 45
  ·subst h
   rfl
  ·have h1 : ¬ (c.toNat : Int) = 45 := fun e => h (UInt8.toNat_inj.1 (by have : (c.toNat : Int) = ((45 : UInt8).toNat : Int) := e; omega))
   rw [beq_eq_false_iff_ne.2 h1]
   simp [h]
theorem likeIds_ev (l : List UInt8) (hl : l.length ≤ 100000) : Ev (fun k => spec_likeIdentifiers.f k (ofL l)) ((idsS l).map ofL) := by
 have hi := index_ev 43 l (by omega)
 have hm := mt_len l
 have hj := j0_ev (mt l) (by omega)
 have hs := ofL_size l
 unfold spec_likeIdentifiers.f
 refine Ev.bind hi ?_
 show Ev _ ((if unh (mt l) = [] then [] else cutP ptB (unh (mt l))).map ofL)
 unfold idxI
 by_cases hd : l.dropWhile (· != 43) = []
 ·have e : mt l = l := by
   have := List.takeWhile_append_dropWhile (p := (· != 43)) (l := l)
   rw [hd, List.append_nil] at this
   exact this
  rw [if_pos hd]
  rw [e] at hj ⊢
  exact ev_neg (by omega) hj
 ·rw [if_neg hd]
  have e : (ofL l).extract 0 (((mt l).length : Nat) : Int).toNat = ofL (mt l) := by
   rw [Int.toNat_natCast, ofL_extract, List.drop_zero]
   congr 1
   exact (List.prefix_iff_eq_take.1 (List.takeWhile_prefix _)).symm
  refine ev_pos (by show ((mt l).length : Int) ≥ 0; omega) (ev_pos (by show (0 : Int) ≤ ((mt l).length : Int); omega) (ev_pos (by show ((mt l).length : Int) ≤ _; omega) ?_))
  show Ev (fun k => spec_likeIdentifiers.j0 k ((ofL l).extract 0 (((mt l).length : Nat) : Int).toNat)) _
  rw [e]
  exact hj
/-! the walk's side -/
theorem cut_head (p : UInt8 → Bool) (l : List UInt8) : ∃ t, cutP p l = l.takeWhile (fun c => !p c) :: t := by
 induction l with
 | nil => exact ⟨[], rfl⟩
 | cons c l ih =>
  unfold cutP
  by_cases hc : p c = true
  ·rw [if_pos hc, List.takeWhile_cons, if_neg (by simp [hc])]
   exact ⟨_, rfl⟩
  ·obtain ⟨t, e⟩ := ih
   rw [if_neg hc, e, List.takeWhile_cons, if_pos (by simp [hc])]
   exact ⟨t, rfl⟩
theorem remB_f (l : List UInt8) (hl : l.length ≤ 1000000) : semantic_removeBuildMetadata.f (ofL l) = some (ofL (mt l)) := by
 obtain ⟨t, e⟩ := cut_head (· == 43) l
 have hz : semantic_zzSplit.f (ofL l) (⟨#[43]⟩ : ByteArray) = some ((cutP (· == 43) l).map ofL) := by
  unfold semantic_zzSplit.f
  rw [if_pos ⟨by rw [ofL_size]; exact hl, rfl⟩, bl_ofL]
  rfl
 unfold semantic_removeBuildMetadata.f
 rw [hz, Option.bind_some, e, if_pos (by simp)]
 rfl
theorem trim_f (m : List UInt8) : strings_TrimPrefix.f (ofL m) (⟨#[45]⟩ : ByteArray) = some (ofL (unh m)) := by
 have hs := ofL_size m
 have h1 : (⟨#[45]⟩ : ByteArray).size = 1 := rfl
 have h45 : (⟨#[45]⟩ : ByteArray).toList = [45] := toList_ofL [45]
 unfold strings_TrimPrefix.f stringslite_TrimPrefix.f stringslite_HasPrefix.f
 rw [h1]
 cases m with
 | nil =>
  rw [if_neg (by rw [hs]; simp)]
  rfl
 | cons c r =>
  have h2 : ((1 : Nat) : Int) ≤ ((ofL (c :: r)).size : Int) := by rw [hs]; simp; omega
  have e : (ofL (c :: r)).extract 0 1 = ofL [c] := by
   rw [ofL_extract]
   rfl
  rw [if_pos (by omega), if_pos (by omega), if_pos h2, e, toList_ofL, h45, Option.bind_some]
  by_cases h : c = 45
  ·subst h
   rw [if_pos (by rfl), if_pos (by omega), if_pos h2, ext1, Option.bind_some]
   rw [unh_cons, if_pos rfl]
  ·rw [if_neg (by
    intro hh
    have := eq_of_beq hh
    exact h (by simpa using congrArg (fun x : List UInt8 => x.head?) (show [c] = [45] from this))), Option.bind_some]
   rw [unh_cons, if_neg h]
/-- How what stands behind the numbers compares. -/
def bldC (x y : List UInt8) : Int := if bdy x = [] then (if bdy y = [] then 0 else 1) else if bdy y = [] then -1 else idsC ((idsP x).map ofL) ((idsP y).map ofL)
theorem idsC_self (l : List ByteArray) : idsC l l = 0 := by have := idsC_anti l l; omega
theorem all_fit (l : List UInt8) (hl : l.length ≤ 1000000) : allFit ((idsP l).map ofL) = true := List.all_eq_true.2 fun x hx => by
 obtain ⟨y, hy, rfl⟩ := List.mem_map.1 hx
 have := (ids_sz l).2 y hy
 exact decide_eq_true (by rw [ofL_size]; omega)
theorem split_f (l : List UInt8) (hl : l.length ≤ 1000000) : semantic_zzSplit.f (ofL (bdy l)) (⟨#[46]⟩ : ByteArray) = some ((idsP l).map ofL) := by
 have := bdy_len l
 unfold semantic_zzSplit.f
 rw [if_pos ⟨by rw [ofL_size]; omega, rfl⟩, bl_ofL]
 rfl
theorem compareBuild_ev (x y : List UInt8) (hx : x.length ≤ 1000000) (hy : y.length ≤ 1000000) : Ev (fun k => semantic_compareBuildComponents.f k (ofL x) (ofL y)) (bldC x y) := by
 unfold semantic_compareBuildComponents.f
 rw [remB_f x hx, remB_f y hy]
 refine ev_some (ev_some ?_)
 rw [trim_f, trim_f]
 refine ev_some (ev_some ?_)
 rw [toList_ofL, toList_ofL]
 have last : Ev (fun k => semantic_compareBuildComponents.j1 k (ofL (unh (mt x))) (ofL (unh (mt y))) false) (idsC ((idsP x).map ofL) ((idsP y).map ofL)) := by
  refine Ev.step (fun _ => by rw [semantic_compareBuildComponents.j1, show unh (mt x) = bdy x from rfl, show unh (mt y) = bdy y from rfl, split_f x hx, split_f y hy, Option.bind_some, Option.bind_some]) (ev_f ?_)
  unfold semantic_compareSemverBuildComponents.f
  rw [all_fit x hx, all_fit y hy]
  exact ev_now rfl
 unfold bldC
 by_cases h1 : bdy x = []
 ·rw [if_pos h1]
  refine ev_pos h1 ?_
  by_cases h2 : bdy y = []
  ·rw [if_pos h2]
   have e : (!(unh (mt y)).isEmpty) = false := by rw [show unh (mt y) = [] from h2]; rfl
   rw [e]
   refine Ev.step (fun _ => by rw [semantic_compareBuildComponents.j0, toList_ofL]) (ev_f (ev_pos (show unh (mt x) = [] from h1) ?_))
   refine ev_eq last ?_
   have e2 : idsP x = idsP y := by unfold idsP; rw [h1, h2]
   rw [e2, idsC_self]
  ·rw [if_neg h2]
   have e : (!(unh (mt y)).isEmpty) = true := by
    cases hq : unh (mt y) with
    | nil => exact absurd hq h2
    | cons c r => rfl
   rw [e]
   exact Ev.step (fun _ => by rw [semantic_compareBuildComponents.j0]) (ev_t (ev_now rfl))
 ·rw [if_neg h1]
  refine ev_neg h1 ?_
  refine Ev.step (fun _ => by rw [semantic_compareBuildComponents.j0, toList_ofL, toList_ofL]) (ev_f (ev_neg (show ¬ unh (mt x) = [] from h1) ?_))
  by_cases h2 : bdy y = []
  ·rw [if_pos h2]
   have e : (unh (mt y)).isEmpty = true := by rw [show unh (mt y) = [] from h2]; rfl
   rw [e]
   exact Ev.step (fun _ => by rw [semantic_compareBuildComponents.j1]) (ev_t (ev_now rfl))
  ·rw [if_neg h2]
   have e : (unh (mt y)).isEmpty = false := by
    cases hq : unh (mt y) with
    | nil => exact absurd hq h2
    | cons c r => rfl
   rw [e]
   exact last
/-- A build that is known: bytes below 128, no identifier a sign and digits alone. -/
def bK (l : List UInt8) : Prop := (∀ c ∈ l, c.toNat < 128) ∧ ∀ x ∈ idsS l, signed x = false
theorem buildKnown_ev (l : List UInt8) (hl : l.length ≤ 1500) : ∃ r, Ev (fun k => spec_BuildKnown.f k (ofL l)) r ∧ (r = true → bK l) := by
 obtain ⟨b, hb, hq⟩ := ascii_ev (ofL l) (by rw [ofL_size]; omega)
 unfold spec_BuildKnown.f
 cases b with
 | false => exact ⟨false, Ev.bind hb (ev_f (ev_now rfl)), by simp⟩
 | true =>
  have h1 := idsS_sub l
  have h2 := ids_sz l
  have hi := ident_ev (idsS l) (by omega) (fun x hx => by have := h2.2 x (h1.2 x hx); omega)
  refine ⟨idK (idsS l), Ev.bind hb (ev_t (Ev.bind (likeIds_ev l (by omega)) (Ev.bind hi (ev_now rfl)))), fun hr => ⟨fun c hc => ?_, fun x hx => ?_⟩⟩
  ·obtain ⟨j, hj, rfl⟩ := List.mem_iff_getElem.1 hc
   exact hq rfl j (by rw [ofL_size]; exact hj)
  ·have := List.all_eq_true.1 hr x hx
   simpa using this
end Go.Proofs.YtajglnedoeboaaaGreatDoor.Cm

namespace Go.Proofs.YtajglnedoeboaaaGreatDoor.Com
open Go.RowKit Go.Proofs.YtajglnedoeboaaaGreatDoor.Z Go.Proofs.YtajglnedoeboaaaGreatDoor.Evs Go.Proofs.YtajglnedoeboaaaGreatDoorW.PrintWords Go.Proofs.YtajglnedoeboaaaGreatDoorW.PrintLast
set_option linter.unusedVariables false
set_option linter.unusedSimpArgs false

/-- short: an answer; where it is true the list is short and its texts are. -/
theorem short_l (l : List ByteArray) (hl : (l.length : Int) < 9223372036854775807) (d : Nat) : ∀ i : Nat, i + d = l.length →
  ∃ b, Ev (fun k => laws_short.l0 k l l (l.length : Int) (i : Int)) b ∧ (b = true → l.length ≤ 150 ∧ ∀ j, i ≤ j → j < l.length → (l.getD j ByteArray.empty).size ≤ 1500) := by
 induction d with
 | zero =>
  intro i h
  exact ⟨_, Ev.step (fun _ => by rw [laws_short.l0]) (ev_neg (by omega) (Ev.now _)), fun hb => ⟨by simp at hb; omega, fun j h1 h2 => by omega⟩⟩
 | succ d ih =>
  intro i h
  obtain ⟨b, hb, hq⟩ := ih (i + 1) (by omega)
  by_cases c : ((rdOf ByteArray.empty l (i : Int)).size : Int) > 1500
  ·exact ⟨false, Ev.step (fun _ => by rw [laws_short.l0]) (ev_pos (by omega) (ev_pos (by omega) (ev_pos (by omega) (ev_pos c (Ev.now _))))), fun h => by cases h⟩
  ·refine ⟨b, Ev.step (fun _ => by rw [laws_short.l0, wrap_nat (by omega)]) (ev_pos (by omega) (ev_pos (by omega) (ev_pos (by omega) (ev_neg c hb)))), fun h => ⟨(hq h).1, fun j h1 h2 => ?_⟩⟩
   by_cases e : j = i
   ·subst e; rw [rdOf_nat] at c; omega
   ·exact (hq h).2 j (by omega) h2
theorem short_ev (l : List ByteArray) (hl : (l.length : Int) < 9223372036854775807) : ∃ b, Ev (fun k => laws_short.f k l) b ∧ (b = true → l.length ≤ 150 ∧ ∀ j, j < l.length → (l.getD j ByteArray.empty).size ≤ 1500) := by
 obtain ⟨b, hb, hq⟩ := short_l l hl l.length 0 (by omega)
 exact ⟨b, hb, fun h => ⟨(hq h).1, fun j hj => (hq h).2 j (by omega) hj⟩⟩

theorem short2 (a b : ByteArray) : ∃ r, Ev (fun k => laws_short.f k [a, b]) r ∧ (r = true → a.size ≤ 1500 ∧ b.size ≤ 1500) := by
 obtain ⟨r, hr, hq⟩ := short_ev [a, b] (by simp)
 exact ⟨r, hr, fun h => ⟨(hq h).2 0 (by simp), (hq h).2 1 (by simp)⟩⟩
end Go.Proofs.YtajglnedoeboaaaGreatDoor.Com

namespace Go.Proofs.YtajglnedoeboaaaGreatDoor.Cm
open Go Go.RowKit Go.Proofs.YtajglnedoeboaaaGreatDoor.Z Go.Proofs.YtajglnedoeboaaaGreatDoor.Evs Go.Proofs.YtajglnedoeboaaaGreatDoor.By Go.Proofs.YtajglnedoeboaaaGreatDoor.Com Go.Proofs.YtajglnedoeboaaaGreatDoorW.PrintWords Go.Proofs.YtajglnedoeboaaaGreatDoorW.PrintLast
set_option linter.unusedVariables false
set_option linter.unusedSimpArgs false
abbrev LK : Type := S24
structure GoodK (x : LK) : Prop where
 b : x.f2.size ≤ 1500
 n : x.f1.length ≤ 150
 s : ∀ y ∈ x.f1, y.f1.size ≤ 1500 ∧ okN y.f0 (bl y.f1) = true
 p : ∀ y ∈ x.f1, y.f0 = false
 k : bK (bl x.f2)
theorem intsOK_l (l : List LI) (hl : l.length ≤ 150) (hs : ∀ x ∈ l, x.f1.size ≤ 1500) (d : Nat) : ∀ i : Nat, i + d = l.length → ∃ r, Ev (fun k => spec_IntsOK.l0 k l (i : Int)) r := by
 induction d with
 | zero =>
  intro i h
  exact ⟨true, Ev.step (fun _ => by rw [spec_IntsOK.l0]) (ev_neg (by omega) (ev_now rfl))⟩
 | succ d ih =>
  intro i h
  have hi : i < l.length := by omega
  obtain ⟨r, hr⟩ := ih (i + 1) (by omega)
  have hw : wrap64 ((i : Int) + 1) = ((i + 1 : Nat) : Int) := wrap_nat (by omega)
  have ho := intOK_ev' l[i] (by have := hs _ (List.getElem_mem hi); omega)
  cases hb : okN (l[i]).f0 (bl (l[i]).f1) with
  | false =>
   rw [hb] at ho
   refine ⟨false, Ev.step (fun _ => by rw [spec_IntsOK.l0, rd_at l i hi]) ?_⟩
   exact ev_pos (by omega) (ev_pos (by omega) (Ev.bind ho (ev_f (ev_now rfl))))
  | true =>
   rw [hb] at ho
   refine ⟨r, Ev.step (fun _ => by rw [spec_IntsOK.l0, rd_at l i hi, hw]) ?_⟩
   exact ev_pos (by omega) (ev_pos (by omega) (Ev.bind ho (ev_t hr)))
theorem intsOK_ev (l : List LI) (hl : l.length ≤ 150) (hs : ∀ x ∈ l, x.f1.size ≤ 1500) : ∃ r, Ev (fun k => spec_IntsOK.f k l) r := intsOK_l l hl hs l.length 0 (by omega)
theorem isDigit_ev (z : Int) : ∃ r, spec_isDigit.f z = some r := by
 unfold spec_isDigit.f
 by_cases h : z ≥ 48
 ·exact ⟨_, if_pos h⟩
 ·exact ⟨_, if_neg h⟩
theorem likeOK_end (v : Bool) (l : List LI) (hl : l.length ≤ 150) (hs : ∀ x ∈ l, x.f1.size ≤ 1500) (b s : ByteArray) (hb : b.size ≤ 1500) : ∃ r, Ev (fun k => spec_LikeOK.l0 k (l.length : Int) v l b s) r ∧ (r = true → bK (bl b)) := by
 obtain ⟨r1, h1⟩ := intsOK_ev l hl hs
 obtain ⟨r2, h2, q2⟩ := buildKnown_ev (bl b) (by rw [bl_length]; exact hb)
 rw [ofL_bl] at h2
 cases r1 with
 | false =>
  refine ⟨false, Ev.step (fun _ => by rw [spec_LikeOK.l0]) ?_, by simp⟩
  exact ev_neg (by omega) (Ev.bind h1 (ev_f (ev_now rfl)))
 | true =>
  cases r2 with
  | false =>
   refine ⟨false, Ev.step (fun _ => by rw [spec_LikeOK.l0]) ?_, by simp⟩
   exact ev_neg (by omega) (Ev.bind h1 (ev_t (Ev.bind h2 (ev_f (ev_now rfl)))))
  | true =>
   by_cases e : b.toList = []
   ·refine ⟨true, Ev.step (fun _ => by rw [spec_LikeOK.l0]) ?_, fun _ => q2 rfl⟩
    exact ev_neg (by omega) (Ev.bind h1 (ev_t (Ev.bind h2 (ev_t (ev_pos e (ev_now rfl))))))
   ·have hp : (0 : Int) < (b.size : Int) := by
     rcases Nat.eq_zero_or_pos b.size with h | h
     ·exfalso
      apply e
      have h3 : bl b = [] := List.eq_nil_of_length_eq_zero (by rw [bl_length]; exact h)
      rw [← ofL_bl b, toList_ofL, h3]
     ·omega
    obtain ⟨r3, h3⟩ := isDigit_ev (bt b 0)
    cases r3 with
    | true =>
     refine ⟨false, Ev.step (fun _ => by rw [spec_LikeOK.l0, h3]) ?_, by simp⟩
     exact ev_neg (by omega) (Ev.bind h1 (ev_t (Ev.bind h2 (ev_t (ev_neg e (ev_pos hp (ev_some (ev_t (ev_now rfl)))))))))
    | false =>
     refine ⟨bt b 0 != 46, Ev.step (fun _ => by rw [spec_LikeOK.l0, h3]) ?_, fun _ => q2 rfl⟩
     exact ev_neg (by omega) (Ev.bind h1 (ev_t (Ev.bind h2 (ev_t (ev_neg e (ev_pos hp (ev_some (ev_f (ev_now rfl)))))))))
theorem likeOK_l (v : Bool) (l : List LI) (hl : l.length ≤ 150) (hs : ∀ x ∈ l, x.f1.size ≤ 1500) (b s : ByteArray) (hb : b.size ≤ 1500) (d : Nat) : ∀ i : Nat, i + d = l.length → ∃ r, Ev (fun k => spec_LikeOK.l0 k (i : Int) v l b s) r ∧ (r = true → (∀ y ∈ l.drop i, y.f0 = false) ∧ bK (bl b)) := by
 induction d with
 | zero =>
  intro i h
  obtain ⟨r, h1, h2⟩ := likeOK_end v l hl hs b s hb
  have e : i = l.length := by omega
  rw [e]
  exact ⟨r, h1, fun hr => ⟨fun y hy => by simp at hy, h2 hr⟩⟩
 | succ d ih =>
  intro i h
  have hi : i < l.length := by omega
  obtain ⟨r, h1, h2⟩ := ih (i + 1) (by omega)
  have hw : wrap64 ((i : Int) + 1) = ((i + 1 : Nat) : Int) := wrap_nat (by omega)
  have e : l.drop i = l[i] :: l.drop (i + 1) := List.drop_eq_getElem_cons hi
  cases hb : (l[i]).f0 with
  | true => exact ⟨false, Ev.step (fun _ => by rw [spec_LikeOK.l0, rd_at l i hi, hb]) (ev_pos (by omega) (ev_pos (by omega) (ev_t (ev_now rfl)))), by simp⟩
  | false =>
   refine ⟨r, Ev.step (fun _ => by rw [spec_LikeOK.l0, rd_at l i hi, hb, hw]) (ev_pos (by omega) (ev_pos (by omega) (ev_f h1))), fun hr => ⟨fun y hy => ?_, (h2 hr).2⟩⟩
   rw [e] at hy
   rcases List.mem_cons.1 hy with rfl | hy
   ·exact hb
   ·exact (h2 hr).1 y hy
theorem likeOK_ev (v : Bool) (l : List LI) (hl : l.length ≤ 150) (hs : ∀ x ∈ l, x.f1.size ≤ 1500) (b s : ByteArray) (hb : b.size ≤ 1500) : ∃ r, Ev (fun k => spec_LikeOK.f k v l b s) r ∧ (r = true → (∀ y ∈ l, y.f0 = false) ∧ bK (bl b)) := likeOK_l v l hl hs b s hb l.length 0 (by omega)
theorem fits4_ev (v : Bool) (l : List LI) (b s : ByteArray) : ∃ r, Ev (fun k => laws_zzFits4.f k v l b s) r ∧ (r = true → l.length ≤ 2147483647 ∧ ∀ x ∈ l, x.f1.size ≤ 2147483647) := by
 obtain ⟨r, h, q⟩ := fits2_ev l
 unfold laws_zzFits4.f
 cases r with
 | false => exact ⟨false, Ev.bind h (ev_f (ev_now rfl)), by simp⟩
 | true =>
  by_cases h1 : (b.size : Int) > 2147483647
  ·exact ⟨false, Ev.bind h (ev_t (ev_pos h1 (ev_now rfl))), by simp⟩
  ·by_cases h2 : (s.size : Int) > 2147483647
   ·exact ⟨false, Ev.bind h (ev_t (ev_neg h1 (ev_pos h2 (ev_now rfl)))), by simp⟩
   ·exact ⟨true, Ev.bind h (ev_t (ev_neg h1 (ev_neg h2 (ev_now rfl)))), fun _ => q rfl⟩
theorem rdK (l : List LK) (i : Nat) (hi : i < l.length) : rd_T24 l (i : Int) = l[i] := by
 unfold rd_T24
 rw [Int.toNat_natCast, List.getD_eq_getElem?_getD, List.getElem?_eq_getElem hi]
 rfl
def FitK (x : LK) : Prop := x.f1.length ≤ 2147483647 ∧ ∀ y ∈ x.f1, y.f1.size ≤ 2147483647
theorem likes_l (l : List LK) (hl : l.length ≤ 100) (hf : ∀ x ∈ l, FitK x) (d : Nat) : ∀ i : Nat, i + d = l.length → ∃ r, Ev (fun k => laws_likes.l0 k l (l.length : Int) (i : Int)) r ∧ (r = true → ∀ x ∈ l.drop i, GoodK x) := by
 induction d with
 | zero =>
  intro i h
  refine ⟨true, Ev.step (fun _ => by rw [laws_likes.l0]) (ev_neg (by omega) (ev_now rfl)), fun _ x hx => ?_⟩
  rw [List.drop_of_length_le (by omega)] at hx
  simp at hx
 | succ d ih =>
  intro i h
  have hi : i < l.length := by omega
  have e : l.drop i = l[i] :: l.drop (i + 1) := List.drop_eq_getElem_cons hi
  have hw : wrap64 ((i : Int) + 1) = ((i + 1 : Nat) : Int) := wrap_nat (by omega)
  have hx := hf _ (List.getElem_mem hi)
  obtain ⟨r, hr, hq⟩ := ih (i + 1) (by omega)
  obtain ⟨r1, h1, q1⟩ := short2 (l[i]).f2 (l[i]).f3
  obtain ⟨r2, h2, q2⟩ := numbers_ev (l[i]).f1 hx.1 hx.2
  cases r1 with
  | false =>
   refine ⟨false, Ev.step (fun _ => by rw [laws_likes.l0, rdK l i hi]) ?_, by simp⟩
   exact ev_pos (by omega) (ev_pos (by omega) (ev_pos (by omega) (Ev.bind h1 (ev_f (ev_now rfl)))))
  | true =>
   cases r2 with
   | false =>
    refine ⟨false, Ev.step (fun _ => by rw [laws_likes.l0, rdK l i hi]) ?_, by simp⟩
    exact ev_pos (by omega) (ev_pos (by omega) (ev_pos (by omega) (Ev.bind h1 (ev_t (Ev.bind h2 (ev_f (ev_now rfl)))))))
   | true =>
    obtain ⟨n1, n2⟩ := q2 rfl
    obtain ⟨s1, s2⟩ := q1 rfl
    obtain ⟨r3, h3, q3⟩ := likeOK_ev (l[i]).f0 (l[i]).f1 n1 (fun y hy => (n2 y hy).1) (l[i]).f2 (l[i]).f3 s1
    cases r3 with
    | false =>
     refine ⟨false, Ev.step (fun _ => by rw [laws_likes.l0, rdK l i hi]) ?_, by simp⟩
     exact ev_pos (by omega) (ev_pos (by omega) (ev_pos (by omega) (Ev.bind h1 (ev_t (Ev.bind h2 (ev_t (Ev.bind h3 (ev_f (ev_now rfl)))))))))
    | true =>
     refine ⟨r, Ev.step (fun _ => by rw [laws_likes.l0, rdK l i hi, hw]) (ev_pos (by omega) (ev_pos (by omega) (ev_pos (by omega) (Ev.bind h1 (ev_t (Ev.bind h2 (ev_t (Ev.bind h3 (ev_t hr))))))))), fun hr x hm => ?_⟩
     rw [e] at hm
     rcases List.mem_cons.1 hm with rfl | hm
     ·exact ⟨s1, n1, n2, (q3 rfl).1, (q3 rfl).2⟩
     ·exact hq hr x hm
theorem likes_ev (l : List LK) (hl : l.length ≤ 100) (hf : ∀ x ∈ l, FitK x) : ∃ r, Ev (fun k => laws_likes.f k l) r ∧ (r = true → ∀ x ∈ l, GoodK x) := by
 obtain ⟨r, h1, h2⟩ := likes_l l hl hf l.length 0 (by omega)
 exact ⟨r, h1, fun hr x hx => h2 hr x (by simpa using hx)⟩
end Go.Proofs.YtajglnedoeboaaaGreatDoor.Cm

namespace Go.Proofs.YtajglnedoeboaaaGreatDoor.Cm
open Go Go.RowKit Go.Proofs.YtajglnedoeboaaaGreatDoor.Z Go.Proofs.YtajglnedoeboaaaGreatDoor.Evs Go.Proofs.YtajglnedoeboaaaGreatDoor.By Go.Proofs.YtajglnedoeboaaaGreatDoor.Com Go.Proofs.YtajglnedoeboaaaGreatDoorW.PrintWords Go.Proofs.YtajglnedoeboaaaGreatDoorW.PrintLast
set_option linter.unusedVariables false
set_option linter.unusedSimpArgs false
def nmC (x y : LK) : Int := cmpLists (x.f1.map lv) (y.f1.map lv)
def likC (x y : LK) : Int := if nmC x y = 0 then bldC (bl x.f2) (bl y.f2) else nmC x y
theorem fitZ_ok (x : LK) (hx : GoodK x) : fitZ (x.f1.map ltoZ) = true := by
 unfold fitZ
 rw [Bool.and_eq_true, decide_eq_true_eq, List.all_eq_true]
 refine ⟨by rw [List.length_map]; have := hx.n; omega, fun z hz => ?_⟩
 obtain ⟨y, hy, rfl⟩ := List.mem_map.1 hz
 have h : y.f1.size ≤ 1000000 := by have := (hx.s y hy).1; omega
 exact decide_eq_true h
theorem compareBuildK (x y : LK) (hx : GoodK x) (hy : GoodK y) : Ev (fun k => semantic_compareBuildComponents.f k x.f2 y.f2) (bldC (bl x.f2) (bl y.f2)) := by
 have h := compareBuild_ev (bl x.f2) (bl y.f2) (by rw [bl_length]; have := hx.b; omega) (by rw [bl_length]; have := hy.b; omega)
 rwa [ofL_bl, ofL_bl] at h
end Go.Proofs.YtajglnedoeboaaaGreatDoor.Cm

namespace Go.Proofs.YtajglnedoeboaaaGreatDoor.Cm
open Go Go.RowKit Go.Proofs.YtajglnedoeboaaaGreatDoor.Z Go.Proofs.YtajglnedoeboaaaGreatDoor.Evs Go.Proofs.YtajglnedoeboaaaGreatDoor.By Go.Proofs.YtajglnedoeboaaaGreatDoor.Com Go.Proofs.YtajglnedoeboaaaGreatDoorW.PrintWords Go.Proofs.YtajglnedoeboaaaGreatDoorW.PrintLast
set_option linter.unusedVariables false
set_option linter.unusedSimpArgs false
theorem implSemver_ev (x y : LK) (hx : GoodK x) (hy : GoodK y) : Ev (fun k => impl_SemverCompare.f k x.f0 x.f1 x.f2 x.f3 y.f0 y.f1 y.f2 y.f3) (likC x y, true) := by
 have h1 := like_ev x.f0 x.f1 (by have := hx.n; omega) x.f2 x.f3
 have h2 := like_ev y.f0 y.f1 (by have := hy.n; omega) y.f2 y.f3
 have h3 := compareBuildK x y hx hy
 unfold impl_SemverCompare.f
 refine Ev.bind h1 (Ev.bind h2 (ev_pos ?_ ?_))
 ·show (fitZ (x.f1.map ltoZ) && fitZ (y.f1.map ltoZ)) = true
  rw [fitZ_ok x hx, fitZ_ok y hy]
  rfl
 ·have hc : Ev (fun k => SemverC k ((x.f1.map ltoZ).map zvS) x.f2 ((y.f1.map ltoZ).map zvS) y.f2) (likC x y) := by
   rw [lk_map, lk_map]
   unfold SemverC SemverB likC nmC
   by_cases e : cmpLists (x.f1.map lv) (y.f1.map lv) = 0
   ·rw [if_pos e]
    exact ev_pos e h3
   ·rw [if_neg e]
    exact ev_neg e (ev_now rfl)
  exact Ev.bind hc (ev_now rfl)
end Go.Proofs.YtajglnedoeboaaaGreatDoor.Cm

namespace Go.Proofs.YtajglnedoeboaaaGreatDoor.Cm
open Go Go.RowKit Go.Proofs.YtajglnedoeboaaaGreatDoor.Z Go.Proofs.YtajglnedoeboaaaGreatDoor.Evs Go.Proofs.YtajglnedoeboaaaGreatDoor.By Go.Proofs.YtajglnedoeboaaaGreatDoor.Com Go.Proofs.YtajglnedoeboaaaGreatDoorW.PrintWords Go.Proofs.YtajglnedoeboaaaGreatDoorW.PrintLast
set_option linter.unusedVariables false
set_option linter.unusedSimpArgs false
/-- What stands behind the first plus sign. -/
def mdt (l : List UInt8) : List UInt8 := (l.dropWhile (· != 43)).drop 1
theorem mdt_none (l : List UInt8) (h : l.dropWhile (· != 43) = []) : mdt l = [] := by
 unfold mdt
 rw [h]
 rfl
theorem mdt_len (l : List UInt8) (h : ¬ l.dropWhile (· != 43) = []) : (l.takeWhile (· != 43)).length < l.length := by
 have e := List.takeWhile_append_dropWhile (p := (· != 43)) (l := l)
 have : 0 < (l.dropWhile (· != 43)).length := List.length_pos_iff.2 h
 have := congrArg List.length e
 rw [List.length_append] at this
 omega
theorem mdt_drop (l : List UInt8) : mdt l = l.drop ((l.takeWhile (· != 43)).length + 1) := by
 have e := List.takeWhile_append_dropWhile (p := (· != 43)) (l := l)
 have h2 : l.drop (l.takeWhile (· != 43)).length = l.dropWhile (· != 43) := by
  have key : ∀ u v : List UInt8, (u ++ v).drop u.length = v := fun u v => List.drop_left
  have := key (l.takeWhile (· != 43)) (l.dropWhile (· != 43))
  rwa [e] at this
 unfold mdt
 rw [← h2, List.drop_drop]
theorem mdt_ext (l : List UInt8) (h : ¬ l.dropWhile (· != 43) = []) : (ofL l).extract ((l.takeWhile (· != 43)).length + 1) (ofL l).size = ofL (mdt l) := by
 rw [mdt_drop, ofL_size, ofL_extract, List.take_length]
theorem cut_ev43 (l : List UInt8) (hl : l.length ≤ 1000000) : ∃ x b, Ev (fun k => semantic_zzCut.f k (ofL l) (⟨#[43]⟩ : ByteArray)) (x, ofL (mdt l), b) := by
 have h := zs_ev 43 l (by omega)
 have hs := ofL_size l
 have h1 : ((⟨#[43]⟩ : ByteArray).size : Int) = 1 := rfl
 by_cases hd : l.dropWhile (· != 43) = []
 ·have e : zsI 43 l = -1 := by unfold zsI; rw [if_pos hd]
  rw [e] at h
  refine ⟨ofL l, false, ?_⟩
  unfold semantic_zzCut.f
  rw [mdt_none l hd]
  exact Ev.bind h (ev_neg (by omega) (ev_now rfl))
 ·have e : zsI 43 l = ((l.takeWhile (· != 43)).length : Int) := by unfold zsI; rw [if_neg hd]
  have hm := mdt_len l hd
  have hx := mdt_ext l hd
  rw [e] at h
  obtain ⟨n, hn⟩ : ∃ n, n = (l.takeWhile (· != 43)).length := ⟨_, rfl⟩
  rw [← hn] at h hm hx
  have hw : wrap64 ((n : Int) + 1) = ((n + 1 : Nat) : Int) := wrap_nat (by omega)
  refine ⟨(ofL l).extract 0 n, true, ?_⟩
  unfold semantic_zzCut.f
  rw [h1]
  refine Ev.bind h ?_
  rw [hw, Int.toNat_natCast, Int.toNat_natCast, hx]
  exact ev_pos (by omega) (ev_pos (by omega) (ev_pos (by omega) (ev_pos (by omega) (ev_pos (by omega) (ev_now rfl)))))
def pubC (x y : LK) : Int := if likC x y = 0 then Lib.compareBytes (mdt (bl x.f2)) (mdt (bl y.f2)) else likC x y
theorem implPub_ev (x y : LK) (hx : GoodK x) (hy : GoodK y) : Ev (fun k => impl_PubCompare.f k x.f0 x.f1 x.f2 x.f3 y.f0 y.f1 y.f2 y.f3) (pubC x y, true) := by
 have h1 := like_ev x.f0 x.f1 (by have := hx.n; omega) x.f2 x.f3
 have h2 := like_ev y.f0 y.f1 (by have := hy.n; omega) y.f2 y.f3
 have h3 := compareBuildK x y hx hy
 obtain ⟨u1, v1, h4⟩ := cut_ev43 (bl x.f2) (by rw [bl_length]; have := hx.b; omega)
 obtain ⟨u2, v2, h5⟩ := cut_ev43 (bl y.f2) (by rw [bl_length]; have := hy.b; omega)
 rw [ofL_bl] at h4 h5
 unfold impl_PubCompare.f
 refine Ev.bind h1 (Ev.bind h2 (ev_pos ?_ ?_))
 ·show (fitZ (x.f1.map ltoZ) && fitZ (y.f1.map ltoZ)) = true
  rw [fitZ_ok x hx, fitZ_ok y hy]
  rfl
 ·have hc : Ev (fun k => PubC k ((x.f1.map ltoZ).map zvS) x.f2 ((y.f1.map ltoZ).map zvS) y.f2) (pubC x y) := by
   rw [lk_map, lk_map]
   unfold PubC PubB pubC likC nmC
   by_cases e : cmpLists (x.f1.map lv) (y.f1.map lv) = 0
   ·rw [if_pos e]
    refine ev_pos e (Ev.bind h3 ?_)
    by_cases e2 : bldC (bl x.f2) (bl y.f2) = 0
    ·rw [if_pos e2]
     exact ev_pos e2 (Ev.bind h4 (Ev.bind h5 (ev_now rfl)))
    ·rw [if_neg e2]
     exact ev_neg e2 (ev_now rfl)
   ·rw [if_neg e, if_neg e]
    exact ev_neg e (ev_now rfl)
  exact Ev.bind hc (ev_now rfl)
end Go.Proofs.YtajglnedoeboaaaGreatDoor.Cm

namespace Go.Proofs.YtajglnedoeboaaaGreatDoor.Cm
open Go Go.RowKit Go.Proofs.YtajglnedoeboaaaGreatDoor.Z Go.Proofs.YtajglnedoeboaaaGreatDoor.Evs Go.Proofs.YtajglnedoeboaaaGreatDoor.By Go.Proofs.YtajglnedoeboaaaGreatDoor.Com Go.Proofs.YtajglnedoeboaaaGreatDoor.Lx Go.Proofs.YtajglnedoeboaaaGreatDoorW.PrintWords Go.Proofs.YtajglnedoeboaaaGreatDoorW.PrintLast
set_option linter.unusedVariables false
set_option linter.unusedSimpArgs false
theorem chain_lex {x y z x' y' z' : Int} (h : Chained x y z) (h' : Chained x' y' z') : Chained (if x = 0 then x' else x) (if y = 0 then y' else y) (if z = 0 then z' else z) := by
 unfold Chained at h h' ⊢
 split <;> split <;> split <;> omega
theorem chain_Z (a b c : Int) : Chained (Bn.cmpZ a b) (Bn.cmpZ b c) (Bn.cmpZ a c) := by
 unfold Chained Bn.cmpZ
 split <;> split <;> split <;> (try split) <;> (try split) <;> (try split) <;> omega
theorem chain_from (a b c : List Int) : ∀ d i, Chained (cmpFrom a b d i) (cmpFrom b c d i) (cmpFrom a c d i)
 | 0, _ => by
  unfold Chained cmpFrom
  omega
 | d + 1, i => by
  have h := chain_lex (chain_Z (nth a i) (nth b i) (nth c i)) (chain_from a b c d (i + 1))
  exact h
theorem from_more (a b : List Int) : ∀ d e i, a.length ≤ i + d → b.length ≤ i + d → cmpFrom a b (d + e) i = cmpFrom a b d i
 | 0, 0, _, _, _ => rfl
 | 0, e + 1, i, h1, h2 => by
  have n1 : nth a i = 0 := by rw [nth, List.getD_eq_getElem?_getD, List.getElem?_eq_none (by omega)]; rfl
  have n2 : nth b i = 0 := by rw [nth, List.getD_eq_getElem?_getD, List.getElem?_eq_none (by omega)]; rfl
  have ih := from_more a b 0 e (i + 1) (by omega) (by omega)
  rw [Nat.zero_add] at ih ⊢
  have hs : cmpFrom a b (e + 1) i = if Bn.cmpZ (nth a i) (nth b i) = 0 then cmpFrom a b e (i + 1) else Bn.cmpZ (nth a i) (nth b i) := rfl
  rw [hs, n1, n2, if_pos (by rfl), ih]
  rfl
 | d + 1, e, i, h1, h2 => by
  have ih := from_more a b d e (i + 1) (by omega) (by omega)
  have : d + 1 + e = (d + e) + 1 := by omega
  rw [this, cmpFrom, cmpFrom, ih]
theorem lists_from (a b : List Int) (d : Nat) (h1 : a.length ≤ d) (h2 : b.length ≤ d) : cmpLists a b = cmpFrom a b d 0 := by
 have e : d = max a.length b.length + (d - max a.length b.length) := by omega
 rw [cmpLists, e, from_more a b _ _ 0 (by omega) (by omega)]
theorem chain_lists (a b c : List Int) : Chained (cmpLists a b) (cmpLists b c) (cmpLists a c) := by
 have hd : a.length ≤ a.length + b.length + c.length ∧ b.length ≤ a.length + b.length + c.length ∧ c.length ≤ a.length + b.length + c.length := by omega
 rw [lists_from a b _ hd.1 hd.2.1, lists_from b c _ hd.2.1 hd.2.2, lists_from a c _ hd.1 hd.2.2]
 exact chain_from a b c _ 0
theorem ch_0xx (x : Int) : Chained 0 x x := by unfold Chained; omega
theorem ch_x0x (x : Int) : Chained x 0 x := by unfold Chained; omega
theorem ch_mp (x : Int) : Chained (-1) 1 x := by unfold Chained; omega
theorem ch_pm (x : Int) : Chained 1 (-1) x := by unfold Chained; omega
theorem ch_mxm (x : Int) : Chained (-1) x (-1) := by unfold Chained; omega
theorem ch_pxp (x : Int) : Chained 1 x 1 := by unfold Chained; omega
theorem ch_xmm (x : Int) : Chained x (-1) (-1) := by unfold Chained; omega
theorem ch_xpp (x : Int) : Chained x 1 1 := by unfold Chained; omega
theorem cmpB_cons (x y : UInt8) (a b : List UInt8) : Lib.compareBytes (x :: a) (y :: b) = if Bn.cmpZ (x.toNat : Int) (y.toNat : Int) = 0 then Lib.compareBytes a b else Bn.cmpZ (x.toNat : Int) (y.toNat : Int) := by
 rw [Lib.compareBytes]
 unfold Bn.cmpZ
 by_cases h : x < y
 ·have h' : x.toNat < y.toNat := h
  rw [if_pos h, if_pos (show (x.toNat : Int) < (y.toNat : Int) by omega)]
  rfl
 ·have h' : ¬ x.toNat < y.toNat := h
  rw [if_neg h, if_neg (show ¬ (x.toNat : Int) < (y.toNat : Int) by omega)]
  by_cases h2 : y < x
  ·have h2' : y.toNat < x.toNat := h2
   rw [if_pos h2, if_pos (show (y.toNat : Int) < (x.toNat : Int) by omega)]
   rfl
  ·have h2' : ¬ y.toNat < x.toNat := h2
   rw [if_neg h2, if_neg (show ¬ (y.toNat : Int) < (x.toNat : Int) by omega)]
   rfl
theorem chain_B : ∀ a b c : List UInt8, Chained (Lib.compareBytes a b) (Lib.compareBytes b c) (Lib.compareBytes a c)
 | [], [], c => ch_0xx _
 | [], _ :: _, [] => ch_mp _
 | [], _ :: _, _ :: _ => ch_mxm _
 | _ :: _, [], [] => ch_x0x _
 | _ :: _, [], _ :: _ => ch_pm _
 | _ :: _, _ :: _, [] => ch_xpp _
 | x :: a, y :: b, z :: c => by
  rw [cmpB_cons, cmpB_cons, cmpB_cons]
  exact chain_lex (chain_Z _ _ _) (chain_B a b c)
theorem chain_idC (x y z : ByteArray) : Chained (idC x y) (idC y z) (idC x z) := by
 unfold idC
 cases Ss.cvt x <;> cases Ss.cvt y <;> cases Ss.cvt z
 ·exact chain_B _ _ _
 ·exact ch_xpp _
 ·exact ch_pm _
 ·exact ch_pxp _
 ·exact ch_mxm _
 ·exact ch_mp _
 ·exact ch_xmm _
 ·exact chain_Z _ _ _
theorem idsC_cons (x y : ByteArray) (l r : List ByteArray) : idsC (x :: l) (y :: r) = if idC x y = 0 then idsC l r else idC x y := by
 rw [idsC]
 rcases idC_range x y with h | h | h <;> rw [h] <;> rfl
theorem chain_idsC : ∀ a b c : List ByteArray, Chained (idsC a b) (idsC b c) (idsC a c)
 | [], [], c => ch_0xx _
 | [], _ :: _, [] => ch_mp _
 | [], _ :: _, _ :: _ => ch_mxm _
 | _ :: _, [], [] => ch_x0x _
 | _ :: _, [], _ :: _ => ch_pm _
 | _ :: _, _ :: _, [] => ch_xpp _
 | x :: a, y :: b, z :: c => by
  rw [idsC_cons, idsC_cons, idsC_cons]
  exact chain_lex (chain_idC _ _ _) (chain_idsC a b c)
theorem chain_bld (x y z : List UInt8) : Chained (bldC x y) (bldC y z) (bldC x z) := by
 unfold bldC
 by_cases h1 : bdy x = [] <;> by_cases h2 : bdy y = [] <;> by_cases h3 : bdy z = []
 ·rw [if_pos h1, if_pos h2, if_pos h2, if_pos h3, if_pos h1]; exact ch_0xx _
 ·rw [if_pos h1, if_pos h2, if_pos h2, if_neg h3, if_pos h1]; exact ch_0xx _
 ·rw [if_pos h1, if_neg h2, if_neg h2, if_pos h3, if_pos h1, if_pos h3]; exact ch_pm _
 ·rw [if_pos h1, if_neg h2, if_neg h2, if_neg h3, if_pos h1, if_neg h3]; exact ch_pxp _
 ·rw [if_neg h1, if_pos h2, if_pos h2, if_pos h3, if_neg h1, if_pos h3]; exact ch_x0x _
 ·rw [if_neg h1, if_pos h2, if_pos h2, if_neg h3, if_neg h1, if_neg h3]; exact ch_mp _
 ·rw [if_neg h1, if_neg h2, if_neg h2, if_pos h3, if_neg h1, if_pos h3]; exact ch_xmm _
 ·rw [if_neg h1, if_neg h2, if_neg h2, if_neg h3, if_neg h1, if_neg h3]; exact chain_idsC _ _ _
/-- How many numbers there are. -/
def lenC {α : Type} (a b : List α) : Int := if a.length = b.length then 0 else if b.length < a.length then 1 else -1
theorem chain_len {α : Type} (a b c : List α) : Chained (lenC a b) (lenC b c) (lenC a c) := by
 unfold Chained lenC
 split <;> split <;> split <;> (try split) <;> (try split) <;> (try split) <;> omega
theorem chain_nm (x y z : LK) : Chained (nmC x y) (nmC y z) (nmC x z) := chain_lists _ _ _
theorem chain_lik (x y z : LK) : Chained (likC x y) (likC y z) (likC x z) := by
 have h := chain_lex (chain_nm x y z) (chain_bld (bl x.f2) (bl y.f2) (bl z.f2))
 exact h
end Go.Proofs.YtajglnedoeboaaaGreatDoor.Cm

namespace Go.Proofs.YtajglnedoeboaaaGreatDoor.Cm
open Go Go.RowKit Go.Proofs.YtajglnedoeboaaaGreatDoor.Z Go.Proofs.YtajglnedoeboaaaGreatDoor.Evs Go.Proofs.YtajglnedoeboaaaGreatDoor.By Go.Proofs.YtajglnedoeboaaaGreatDoor.Com Go.Proofs.YtajglnedoeboaaaGreatDoor.Lx Go.Proofs.YtajglnedoeboaaaGreatDoorW.PrintWords Go.Proofs.YtajglnedoeboaaaGreatDoorW.PrintLast
set_option linter.unusedVariables false
set_option linter.unusedSimpArgs false
def lb (x : LK) : List UInt8 := Lib.toLowerA (bl x.f2)
def nugC (x y : LK) : Int := if nmC x y = 0 then bldC (lb x) (lb y) else nmC x y
def hackC (x y : LK) : Int := if nugC x y = 0 then lenC x.f1 y.f1 else nugC x y
theorem chain_nug (x y z : LK) : Chained (nugC x y) (nugC y z) (nugC x z) := by
 have h := chain_lex (chain_nm x y z) (chain_bld (lb x) (lb y) (lb z))
 exact h
theorem chain_hack (x y z : LK) : Chained (hackC x y) (hackC y z) (hackC x z) := by
 have h := chain_lex (chain_nug x y z) (chain_len x.f1 y.f1 z.f1)
 exact h
theorem lb_len (x : LK) : (lb x).length = x.f2.size := by
 unfold lb Lib.toLowerA
 rw [List.length_map, bl_length]
theorem ascB_ok (x : LK) (hx : GoodK x) : ascB x.f2 = true := by
 unfold ascB
 rw [Bool.and_eq_true, decide_eq_true_eq, List.all_eq_true]
 exact ⟨by have := hx.b; omega, fun c hc => decide_eq_true (hx.k.1 c hc)⟩
theorem lowB_eq (x : LK) : lowB x.f2 = ofL (lb x) := rfl
theorem lowBuild_ev (x y : LK) (hx : GoodK x) (hy : GoodK y) : Ev (fun k => semantic_compareBuildComponents.f k (lowB x.f2) (lowB y.f2)) (bldC (lb x) (lb y)) := by
 rw [lowB_eq, lowB_eq]
 exact compareBuild_ev (lb x) (lb y) (by rw [lb_len]; have := hx.b; omega) (by rw [lb_len]; have := hy.b; omega)
theorem nugC_ev (x y : LK) (hx : GoodK x) (hy : GoodK y) : Ev (fun k => NuGetC k (x.f1.map lv) x.f2 (y.f1.map lv) y.f2) (nugC x y) := by
 have h3 := lowBuild_ev x y hx hy
 have ha : (ascB x.f2 && ascB y.f2) = true := by rw [ascB_ok x hx, ascB_ok y hy]; rfl
 unfold NuGetC NuGetB nugC nmC
 by_cases e : cmpLists (x.f1.map lv) (y.f1.map lv) = 0
 ·rw [if_pos e]
  exact ev_pos e (ev_pos ha h3)
 ·rw [if_neg e]
  exact ev_neg e (ev_now rfl)
theorem hackD_ev (x y : LK) (hx : GoodK x) (hy : GoodK y) : Ev (fun k => HackageD k (x.f1.map lv) x.f2 (y.f1.map lv) y.f2) (nugC x y) := by
 have h3 := lowBuild_ev x y hx hy
 have ha : (ascB x.f2 && ascB y.f2) = true := by rw [ascB_ok x hx, ascB_ok y hy]; rfl
 unfold HackageD HackageB nugC nmC
 by_cases e : cmpLists (x.f1.map lv) (y.f1.map lv) = 0
 ·rw [if_pos e]
  exact ev_pos e (ev_pos ha h3)
 ·rw [if_neg e]
  exact ev_neg e (ev_now rfl)
theorem hackC_ev (x y : LK) (hx : GoodK x) (hy : GoodK y) : Ev (fun k => HackageC k (x.f1.map lv) x.f2 (y.f1.map lv) y.f2) (hackC x y) := by
 have h := hackD_ev x y hx hy
 unfold HackageC
 refine Ev.bind h ?_
 by_cases e : nugC x y = 0
 ·rw [show hackC x y = lenC x.f1 y.f1 from if_pos e]
  refine ev_pos e (ev_now ?_)
  unfold lenC
  rw [List.length_map, List.length_map]
  by_cases h1 : x.f1.length = y.f1.length
  ·rw [if_pos h1, if_neg (by omega), if_neg (by omega)]
  ·rw [if_neg h1]
   by_cases h2 : y.f1.length < x.f1.length
   ·rw [if_pos h2, if_pos h2]
   ·rw [if_neg h2, if_neg h2, if_pos (by omega)]
 ·rw [show hackC x y = nugC x y from if_neg e]
  exact ev_neg e (ev_now rfl)
theorem implNuGet_ev (x y : LK) (hx : GoodK x) (hy : GoodK y) : Ev (fun k => impl_NuGetCompare.f k x.f0 x.f1 x.f2 x.f3 y.f0 y.f1 y.f2 y.f3) (nugC x y, true) := by
 have h1 := like_ev x.f0 x.f1 (by have := hx.n; omega) x.f2 x.f3
 have h2 := like_ev y.f0 y.f1 (by have := hy.n; omega) y.f2 y.f3
 unfold impl_NuGetCompare.f
 refine Ev.bind h1 (Ev.bind h2 (ev_pos ?_ ?_))
 ·show (fitZ (x.f1.map ltoZ) && fitZ (y.f1.map ltoZ)) = true
  rw [fitZ_ok x hx, fitZ_ok y hy]
  rfl
 ·have hc : Ev (fun k => NuGetC k ((x.f1.map ltoZ).map zvS) x.f2 ((y.f1.map ltoZ).map zvS) y.f2) (nugC x y) := by
   rw [lk_map, lk_map]
   exact nugC_ev x y hx hy
  exact Ev.bind hc (ev_now rfl)
theorem implHack_ev (x y : LK) (hx : GoodK x) (hy : GoodK y) : Ev (fun k => impl_HackageCompare.f k x.f0 x.f1 x.f2 x.f3 y.f0 y.f1 y.f2 y.f3) (hackC x y, true) := by
 have h1 := like_ev x.f0 x.f1 (by have := hx.n; omega) x.f2 x.f3
 have h2 := like_ev y.f0 y.f1 (by have := hy.n; omega) y.f2 y.f3
 unfold impl_HackageCompare.f
 refine Ev.bind h1 (Ev.bind h2 (ev_pos ?_ ?_))
 ·show (fitZ (x.f1.map ltoZ) && fitZ (y.f1.map ltoZ)) = true
  rw [fitZ_ok x hx, fitZ_ok y hy]
  rfl
 ·have hc : Ev (fun k => HackageC k ((x.f1.map ltoZ).map zvS) x.f2 ((y.f1.map ltoZ).map zvS) y.f2) (hackC x y) := by
   rw [lk_map, lk_map]
   exact hackC_ev x y hx hy
  exact Ev.bind hc (ev_now rfl)
end Go.Proofs.YtajglnedoeboaaaGreatDoor.Cm

namespace Go.Proofs.YtajglnedoeboaaaGreatDoor.Pure
open Go.RowKit Go.Proofs.YtajglnedoeboaaaGreatDoor.Z Go.Proofs.YtajglnedoeboaaaGreatDoor.Evs Go.Proofs.YtajglnedoeboaaaGreatDoor.By Go.Proofs.YtajglnedoeboaaaGreatDoor.Com Go.Proofs.YtajglnedoeboaaaGreatDoor.Cm Go.Proofs.YtajglnedoeboaaaGreatDoorW.PrintWords Go.Proofs.YtajglnedoeboaaaGreatDoorW.PrintLast
set_option linter.unusedVariables false
set_option linter.unusedSimpArgs false
def fst2 (a b : Int) : Int := if a = 0 then b else a
theorem rd2a (a b : Int) : rd [a, b] 0 = a := rfl
theorem rd2b (a b : Int) : rd [a, b] 1 = b := rfl
theorem first_ev (a b : Int) : Ev (fun k => laws_first.f k [a, b]) (fst2 a b) := by
 have w1 : wrap64 ((0 : Int) + 1) = 1 := wrap_nat (i := 0) (by omega)
 have w2 : wrap64 ((1 : Int) + 1) = 2 := wrap_nat (i := 1) (by omega)
 have e2 : Ev (fun k => laws_first.l0 k [a, b] ((2 : Nat) : Int) 2) 0 := Ev.step (fun _ => by rw [laws_first.l0]) (ev_neg (by omega) (ev_now rfl))
 have e1 : Ev (fun k => laws_first.l0 k [a, b] ((2 : Nat) : Int) 1) b := by
  refine Ev.step (fun _ => by rw [laws_first.l0, rd2b, w2]) ?_
  refine ev_pos (by omega) (ev_pos (by omega) (ev_pos (by show (1 : Int) < ((2 : Nat) : Int); omega) ?_))
  by_cases h : b = 0
  ·exact ev_pos h (ev_eq e2 h.symm)
  ·exact ev_neg h (ev_now rfl)
 unfold laws_first.f fst2
 show Ev (fun k => laws_first.l0 k [a, b] ((2 : Nat) : Int) 0) _
 refine Ev.step (fun _ => by rw [laws_first.l0, rd2a, w1]) ?_
 refine ev_pos (by omega) (ev_pos (by omega) (ev_pos (by show (0 : Int) < ((2 : Nat) : Int); omega) ?_))
 by_cases h : a = 0
 ·rw [if_pos h]
  exact ev_pos h e1
 ·rw [if_neg h]
  exact ev_neg h (ev_now rfl)
theorem builds_ev (x y : LK) (hx : GoodK x) (hy : GoodK y) : Ev (fun k => impl_Builds.f k x.f2 y.f2) (bldC (bl x.f2) (bl y.f2)) := by
 unfold impl_Builds.f semantic_ZZBuilds.f
 exact Ev.bind (Ev.bind (compareBuildK x y hx hy) (ev_now rfl)) (ev_now rfl)
theorem nums_f (x y : LK) (hx : GoodK x) (hy : GoodK y) : impl_CompareNumbers.f x.f1 y.f1 = some (nmC x y) := by
 have fit : ∀ z : LK, GoodK z → fitI z.f1 = true := fun z hz => by
  unfold fitI
  rw [Bool.and_eq_true, decide_eq_true_eq, List.all_eq_true]
  exact ⟨by have := hz.n; omega, fun c hc => decide_eq_true (by have := (hz.s c hc).1; omega)⟩
 unfold impl_CompareNumbers.f
 rw [fit x hx, fit y hy]
 rfl
theorem first_lik (x y : LK) : fst2 (nmC x y) (bldC (bl x.f2) (bl y.f2)) = likC x y := rfl
theorem first_pub (x y : LK) : fst2 (likC x y) (pubC x y) = pubC x y := by
 unfold fst2 pubC
 by_cases h : likC x y = 0
 ·rw [if_pos h]
 ·rw [if_neg h, if_neg h]
theorem all_nm (x y : LK) (h : ¬ nmC x y = 0) : pubC x y = nmC x y ∧ hackC x y = nmC x y ∧ nugC x y = nmC x y := by
 have h1 : likC x y = nmC x y := by unfold likC; rw [if_neg h]
 have h2 : nugC x y = nmC x y := by unfold nugC; rw [if_neg h]
 refine ⟨?_, ?_, h2⟩
 ·unfold pubC
  rw [h1, if_neg h]
 ·unfold hackC
  rw [h2, if_neg h]
theorem FnSemverRoads : laws_FnSemverRoads.Pure := by
 intro v0 l0 b0 s0 v1 l1 b1 s1 h0 h1
 refine Ev.rounds ?_
 unfold laws_FnSemverRoads.f
 have skip : Ev (fun k => laws_FnSemverRoads.j0 k true v0 l0 b0 s0 v1 l1 b1 s1) true := Ev.step (fun _ => by rw [laws_FnSemverRoads.j0]) (ev_t (ev_now rfl))
 obtain ⟨r0, e0, q0⟩ := fits4_ev v0 l0 b0 s0
 obtain ⟨r1, e1, q1⟩ := fits4_ev v1 l1 b1 s1
 refine Ev.bind e0 ?_
 cases r0 with
 | false => exact ev_f skip
 | true =>
  refine ev_t (Ev.bind e1 ?_)
  cases r1 with
  | false => exact skip
  | true =>
   obtain ⟨r, hr, hq⟩ := likes_ev [⟨v0, l0, b0, s0⟩, ⟨v1, l1, b1, s1⟩] (by simp) (by
    intro x hx
    rcases List.mem_cons.1 hx with rfl | hx
    ·exact q0 rfl
    ·rcases List.mem_cons.1 hx with rfl | hx
     ·exact q1 rfl
     ·cases hx)
   refine Ev.step (fun _ => by rw [laws_FnSemverRoads.j0]) ?_
   refine ev_f (Ev.bind hr ?_)
   cases r with
   | false => exact ev_f (ev_now rfl)
   | true =>
    have g0 := hq rfl ⟨v0, l0, b0, s0⟩ (by simp)
    have g1 := hq rfl ⟨v1, l1, b1, s1⟩ (by simp)
    have i1 := implSemver_ev _ _ g0 g1
    have i2 : Ev (fun _ => impl_CompareNumbers.f l0 l1) (nmC ⟨v0, l0, b0, s0⟩ ⟨v1, l1, b1, s1⟩) := by
     rw [show impl_CompareNumbers.f l0 l1 = some (nmC ⟨v0, l0, b0, s0⟩ ⟨v1, l1, b1, s1⟩) from nums_f _ _ g0 g1]
     exact ev_now rfl
    have i3 := implPub_ev _ _ g0 g1
    have i4 := implHack_ev _ _ g0 g1
    have i5 := implNuGet_ev _ _ g0 g1
    have i6 := builds_ev _ _ g0 g1
    have f1 := first_ev (nmC ⟨v0, l0, b0, s0⟩ ⟨v1, l1, b1, s1⟩) (bldC (bl b0) (bl b1))
    have f2 := first_ev (likC ⟨v0, l0, b0, s0⟩ ⟨v1, l1, b1, s1⟩) (pubC ⟨v0, l0, b0, s0⟩ ⟨v1, l1, b1, s1⟩)
    have e3 := first_lik ⟨v0, l0, b0, s0⟩ ⟨v1, l1, b1, s1⟩
    have e4 := first_pub ⟨v0, l0, b0, s0⟩ ⟨v1, l1, b1, s1⟩
    have e5 := all_nm ⟨v0, l0, b0, s0⟩ ⟨v1, l1, b1, s1⟩
    refine ev_t (Ev.bind i1 (Ev.bind i2 (Ev.bind i3 (Ev.bind i4 (Ev.bind i5 ?_)))))
    refine ev_pos rfl (ev_pos rfl (ev_pos rfl (ev_pos rfl (Ev.bind i6 (Ev.bind f1 ?_)))))
    refine ev_pos e3.symm (Ev.bind f2 (ev_pos e4 ?_))
    by_cases hn : nmC ⟨v0, l0, b0, s0⟩ ⟨v1, l1, b1, s1⟩ = 0
    ·exact ev_pos hn (ev_now rfl)
    ·obtain ⟨a1, a2, a3⟩ := e5 hn
     refine ev_neg hn (ev_pos a1 (ev_pos a2 (ev_now ?_)))
     rw [a3]
     simp
end Go.Proofs.YtajglnedoeboaaaGreatDoor.Pure

namespace Go.Proofs.YtajglnedoeboaaaGreatDoor.fnSemverRoads
open Go.ChangeShapes Go.WideShapes Go.ChangeAt Go.RowKit Go.Proofs.YtajglnedoeboaaaGreatDoor.Op Go.Proofs.YtajglnedoeboaaaGreatDoor.Z Go.Proofs.YtajglnedoeboaaaGreatDoorW.PrintWords
open Go.ChangeMaps (open_string shut_string)
set_option linter.unusedVariables false
set_option linter.unusedSimpArgs false
theorem own : ownKnob Tryz.prog.godebug = none := by kernel_rfl
theorem laidOut : laidOutB Tryz.prog = true := by kernel_rfl
set_option maxRecDepth 100000 in
theorem opens_k66 : Opens Tryz.prog 66 k66 := by
 intro H enc w base spare held fuel cs x h
 obtain ⟨hl, n, hf⟩ := trod_fields Tryz.underlying66 h
 have hl' : cs.length = 2 := hl.trans (by kernel_rfl)
 obtain ⟨a0, h0⟩ := open_field hf 0 4 0 1 (by rfl) (by kernel_rfl) (Opens.bool Tryz.underlying4)
 obtain ⟨a1, h1⟩ := open_field hf 1 9 1 1 (by rfl) (by kernel_rfl) (Opens.string Tryz.underlying9)
 exact ⟨(⟨a0, a1⟩ : S66), (Exists.intro _ (Exists.intro _ (And.intro (split_at cs 0 1) (And.intro h0 ((last_at cs 1 1 (by omega)) ▸ h1)))))⟩
set_option maxRecDepth 100000 in
theorem opens_k24 : Opens Tryz.prog 24 k24 := by
 intro H enc w base spare held fuel cs x h
 obtain ⟨hl, n, hf⟩ := trod_fields Tryz.underlying24 h
 have hl' : cs.length = 4 := hl.trans (by kernel_rfl)
 obtain ⟨a0, h0⟩ := open_field hf 0 4 0 1 (by rfl) (by kernel_rfl) (Opens.bool Tryz.underlying4)
 obtain ⟨a1, h1⟩ := open_field hf 1 22 1 1 (by rfl) (by kernel_rfl) (Opens.slice Tryz.underlying22 (by kernel_rfl) opens_k66)
 obtain ⟨a2, h2⟩ := open_field hf 2 9 2 1 (by rfl) (by kernel_rfl) (Opens.string Tryz.underlying9)
 obtain ⟨a3, h3⟩ := open_field hf 3 9 3 1 (by rfl) (by kernel_rfl) (Opens.string Tryz.underlying9)
 exact ⟨(⟨a0, a1, a2, a3⟩ : S24), (Exists.intro _ (Exists.intro _ (And.intro (split_at cs 0 1) (And.intro h0 (Exists.intro _ (Exists.intro _ (And.intro (split_at cs 1 1) (And.intro h1 (Exists.intro _ (Exists.intro _ (And.intro (split_at cs 2 1) (And.intro h2 ((last_at cs 3 1 (by omega)) ▸ h3)))))))))))))⟩
noncomputable def laidWorld (os : Os) : World := World.laidAll Tryz.prog os Rows.fnSemverRoadsRow.laid
set_option maxRecDepth 100000 in
theorem laid_met (os : Os) : laidMet Tryz.prog Rows.fnSemverRoadsRow.laid ((laidWorld os).forCall (fun _ _ => 0) ⟨#[], #[.agg #[.bool false, .slice none 0 0, .string ByteArray.empty, .string ByteArray.empty], .agg #[.bool false, .slice none 0 0, .string ByteArray.empty, .string ByteArray.empty]], []⟩).memory :=
 laidMet_laidAll _ (by kernel_rfl) (by kernel_rfl)
set_option maxRecDepth 100000 in
theorem reads (os : Os) {H : Type} (enc : TypeId × Value → H) : DataW.whole enc Tryz.prog ((laidWorld os).forCall (fun _ _ => 0) ⟨#[], #[.agg #[.bool false, .slice none 0 0, .string ByteArray.empty, .string ByteArray.empty], .agg #[.bool false, .slice none 0 0, .string ByteArray.empty, .string ByteArray.empty]], []⟩).memory Tryz.f5.params.toList Rows.fnSemverRoadsSpec.vars false #[.agg #[.bool false, .slice none 0 0, .string ByteArray.empty, .string ByteArray.empty], .agg #[.bool false, .slice none 0 0, .string ByteArray.empty, .string ByteArray.empty]].toList 8 = some ([.agg [.lit (.bool false), .nil, .lit (.string []), .lit (.string [])], .agg [.lit (.bool false), .nil, .lit (.string []), .lit (.string [])]], [], []) := by kernel_rfl
set_option maxRecDepth 100000 in
theorem lifted (os : Os) (started : os.Started) (H : Type) (enc : TypeId × Value → H) (F : Stop.Interp) :
  ReturnsInHanded {} Tryz.checked os 5 .any ((OpenSpec.ofChange Rows.fnSemverRoadsSpec).preRow enc Tryz.prog Tryz.f5 Rows.fnSemverRoadsRow.domain false Rows.fnSemverRoadsRow.laid) (((OpenSpec.ofChange Rows.fnSemverRoadsSpec).at F).post enc Tryz.prog Tryz.f5 false true false false) := by
 refine returnsInHanded_of_row (C := Tryz.checked) (s := OpenSpec.ofChange Rows.fnSemverRoadsSpec) own started (by kernel_rfl) Tryz.func5
  (witness_row_atRef (enc := enc) (C := Tryz.checked) false (laidWorld os) #[.agg #[.bool false, .slice none 0 0, .string ByteArray.empty, .string ByteArray.empty], .agg #[.bool false, .slice none 0 0, .string ByteArray.empty, .string ByteArray.empty]] (World.laidAll_os _ _ _) (by kernel_rfl) (by kernel_rfl) (by kernel_rfl)
   (OpenSpec.preRow_of_cond 8 (reads os enc) (by kernel_rfl) (fun k hk => by cases hk) (by kernel_rfl) (laid_met os))) ?_
 intro W base args ds gs before hval0 hW hcnd hk0 hsz0 hL hSh hho
 have hsz : (DataW.weightsEach Tryz.prog (Tryz.f5.params.toList ++ Rows.fnSemverRoadsSpec.plain.varTypes Tryz.prog) (ds ++ gs)).all (· ≤ reachBytes) = true := hsz0
 have hval : ∀ (j : Nat) t v, Tryz.f5.params[j]? = some t → args[j]? = some v → Value.okWide Tryz.prog W .any base t v := hval0
 have hW' := hW
 obtain ⟨p, q, hA0, hV, rfl, hfz, hnd⟩ := hW
 have hA : DataW.TrodAll enc Tryz.prog W 0 (fun _ => true) true Tryz.f5.params.toList args.toList ds p := hA0
 rw [Tryz.params5] at hA hval hsz
 obtain ⟨v0, vs0, d0, ds0, p0, q0, hargs, rfl, rfl, h0, r0⟩ := trodAll_cons hA
 obtain ⟨v1, vs1, d1, ds1, p1, q1, rfl, rfl, rfl, h1, r1⟩ := trodAll_cons r0
 obtain ⟨rfl, rfl, rfl⟩ := trodAll_nil r1
 obtain rfl : args = #[v0, v1] := by cases args; simp_all
 obtain ⟨rfl, rfl⟩ := trodVars_none hV
 have k0 := h0
 have lt0 : ∀ x ∈ p0, x.block < W.heap.size := by obtain ⟨m, hm⟩ := k0; exact DataW.trod_lt m _ _ _ hm
 obtain ⟨x0, cs0, rfl, hx0⟩ := open_agg Tryz.underlying24 (hval 0 24 v0 rfl rfl) opens_k24 h0
 obtain ⟨A0_1, c0_1, e0, hc0_1, hr0_1⟩ := k24_open hx0
 obtain rfl : cs0 = #[.bool x0.f0, .slice A0_1 x0.f1.length c0_1, .string x0.f2, .string x0.f3] := by apply Array.ext'; simpa using e0
 have k1 := h1
 have lt1 : ∀ x ∈ p1, x.block < W.heap.size := by obtain ⟨m, hm⟩ := k1; exact DataW.trod_lt m _ _ _ hm
 obtain ⟨x1, cs1, rfl, hx1⟩ := open_agg Tryz.underlying24 (hval 1 24 v1 rfl rfl) opens_k24 h1
 obtain ⟨A1_1, c1_1, e1, hc1_1, hr1_1⟩ := k24_open hx1
 obtain rfl : cs1 = #[.bool x1.f0, .slice A1_1 x1.f1.length c1_1, .string x1.f2, .string x1.f3] := by apply Array.ext'; simpa using e1
 clear hA0 hval0 hsz0 hsz
 refine (laws_FnSemverRoads.walk Pure.FnSemverRoads x0.f0 A0_1 c0_1 x0.f1 x0.f2 x0.f3 x1.f0 A1_1 c1_1 x1.f1 x1.f2 x1.f3 W hr0_1.2.1 hr1_1.2.1 hr0_1 hc0_1 hr1_1 hc1_1 (Gw.gw_of (l := Rows.fnSemverRoadsRow.laid) hL (List.Mem.tail _ (List.Mem.head _)) (List.Mem.tail _ (List.Mem.tail _ (List.Mem.head _))) (List.Mem.tail _ (List.Mem.tail _ (List.Mem.tail _ (List.Mem.tail _ (List.Mem.head _))))))).mono fun e W' ⟨he, bel⟩ => ?_
 subst he
 exact ⟨_, rfl, _, _, _, [], _, [], hW', trodAll_mk1 (shut_bool Tryz.underlying4 _), (trodAll_cons_mk (Below.trod laidOut (by kernel_rfl) (of_decide_eq_true (by kernel_rfl)) k0 bel lt0) (trodAll_cons_mk (Below.trod laidOut (by kernel_rfl) (of_decide_eq_true (by kernel_rfl)) k1 bel lt1) trodAll_mk0)), rfl, bel.frame _, fun h => by cases h⟩
theorem said : Rows.FnSemverRoadsSaid :=
 OpenClaim.holds_of_cond 5 Tryz.f5 rfl rfl rfl rfl rfl rfl rfl ⟨rfl, rfl, rfl, rfl, rfl⟩ rfl rfl rfl rfl rfl (by kernel_rfl) Tryz.func5 (by kernel_rfl)
  (of_decide_eq_true (by kernel_rfl)) (by unfold Func.isWrapper; first | (rw [if_pos (by decide +kernel)]; kernel_rfl) | (rw [if_neg (by decide +kernel)]; exact ⟨rfl, rfl⟩))
  (fun os started H enc _ F => by rw [OpenClaim.pre_eq_preRow]; exact lifted os started H enc F)
theorem plain (f : FuncId) (fn : Func) (hf : Tryz.pinned.checked.prog.funcNamed "pub-seniority/laws.FnSemverRoads" = some f) (hfn : Tryz.pinned.checked.prog.funcs[f]? = some fn) :
  true = Tryz.pinned.checked.prog.looks [] ∧ ∀ (j : Nat) t, fn.params[j]? = some t → Tryz.pinned.checked.prog.wantsStandIn t = false := by
 obtain rfl : f = 5 := Option.some.inj ((show Tryz.prog.funcNamed "pub-seniority/laws.FnSemverRoads" = some 5 by kernel_rfl).symm.trans hf) |>.symm
 obtain rfl : fn = Tryz.f5 := (Option.some.inj (Tryz.func5.symm.trans hfn)).symm
 refine ⟨by kernel_rfl, fun j t ht => ?_⟩
 rw [Tryz.params5] at ht
 have h2 : ([24, 24] : List TypeId).all (fun t => !Tryz.prog.wantsStandIn t) = true := by kernel_rfl
 have h3 := List.all_eq_true.1 h2 t (by have := Array.mem_of_getElem? ht; simpa using this)
 exact (show Tryz.prog.wantsStandIn t = false from by simpa using h3)
theorem proved : Rows.FnSemverRoadsCardSaid :=
 Claim7.holds_tied_plain_at .later [] _ _ _ _ said (fun _ h => by cases h) (by kernel_rfl) (fun _ h => by cases h) fnSemverRoads_row_tie rfl ⟨rfl, rfl⟩ (by kernel_rfl) rfl plain (by kernel_rfl)
#print axioms proved
end Go.Proofs.YtajglnedoeboaaaGreatDoor.fnSemverRoads
namespace Go.Proofs.YtajglnedoeboaaaGreatDoor
/-- The card, under a short name, for the claim. -/
theorem fnSemverRoads_holds : Rows.FnSemverRoadsCardSaid := fnSemverRoads.proved
end Go.Proofs.YtajglnedoeboaaaGreatDoor
