-- Written by a program of this session (myprint.py).
import Derived.Test.YtmhlmkefnmdbcaaDoorZ0
import Derived.Test.YtmhlmkefnmdbcaaDoorZ4
import Derived.Test.YtmhlmkefnmdbcaaDoorZ7
import Derived.Test.YtmhlmkefnmdbcaaDoorZ8
import Derived.Test.YtmhlmkefnmdbcaaDoorSsC
import Derived.Test.YtmhlmkefnmdbcaaDoorShelf
import Derived.Deep.CutBlock
import Derived.Deep.DeepCutAuto
import Derived.Deep.QuietTactic
import Derived.BigQuiet
import Derived.Test.YtmhlmkefnmdbcaaDoorGe
namespace Go.Proofs.YtmhlmkefnmdbcaaDoor.Z
open Go.Proofs.YtmhlmkefnmdbcaaDoor.Gw
open Go.RowKit Go.Proofs.YtmhlmkefnmdbcaaDoorW.PrintWords Go.Proofs.YtmhlmkefnmdbcaaDoorW.PrintLast Go.Proofs.YtmhlmkefnmdbcaaDoorW.PrintMore
attribute [local go_sem high] Go.Proofs.YtmhlmkefnmdbcaaDoor.Ge.gtr_str
attribute [local go_sem] max2_int min2_int max_two min_two max_three min_three max_four min_four   -- for this text's walks alone
set_option linter.unusedVariables false
set_option linter.unusedSimpArgs false

-- PLUGGED semantic_compareRubyGemsComponents: function 73 (a text of this session)
/-- How two segments of RubyGems compare; how lists of them do, the shorter one filled up with 0. -/
def rbC (x y : ByteArray) : Int := match Ss.cvt x, Ss.cvt y with
 | some a, some b => Bn.cmpZ a b
 | none, none => Lib.compareBytes x.data.toList y.data.toList
 | some _, none => 1
 | none, some _ => -1
def rbZ : ByteArray := ⟨#[48]⟩
def rbsC : List ByteArray → List ByteArray → Int
 | [], [] => 0
 | x :: l, [] => if rbC x rbZ = 0 then rbsC l [] else rbC x rbZ
 | [], y :: r => if rbC rbZ y = 0 then rbsC [] r else rbC rbZ y
 | x :: l, y :: r => if rbC x y = 0 then rbsC l r else rbC x y
def rbGet (l : List ByteArray) (i : Nat) : ByteArray := l.getD i rbZ
def semantic_compareRubyGemsComponents.f (l0 l1 : List ByteArray) : Option Int := if rbFit l0 && rbFit l1 then some (rbsC l0 l1) else none
theorem rbGet_in {l : List ByteArray} {i : Nat} (h : i < l.length) : rbGet l i = l[i] := by
 unfold rbGet
 rw [List.getD_eq_getElem?_getD, List.getElem?_eq_getElem h]
 rfl
theorem rbGet_out {l : List ByteArray} {i : Nat} (h : l.length ≤ i) : rbGet l i = rbZ := by
 unfold rbGet
 rw [List.getD_eq_getElem?_getD, List.getElem?_eq_none h]
 rfl
theorem rbsC_step (l r : List ByteArray) (i : Nat) (h : i < l.length ∨ i < r.length) : rbsC (l.drop i) (r.drop i) = if rbC (rbGet l i) (rbGet r i) = 0 then rbsC (l.drop (i + 1)) (r.drop (i + 1)) else rbC (rbGet l i) (rbGet r i) := by
 rcases Nat.lt_or_ge i l.length with h1 | h1
 ·rcases Nat.lt_or_ge i r.length with h2 | h2
  ·rw [rbGet_in h1, rbGet_in h2, List.drop_eq_getElem_cons h1, List.drop_eq_getElem_cons h2, rbsC]
  ·rw [rbGet_in h1, rbGet_out h2, List.drop_eq_getElem_cons h1, List.drop_eq_nil_of_le h2, List.drop_eq_nil_of_le (by omega : r.length ≤ i + 1), rbsC]
 ·have h2 : i < r.length := by omega
  rw [rbGet_out h1, rbGet_in h2, List.drop_eq_getElem_cons h2, List.drop_eq_nil_of_le h1, List.drop_eq_nil_of_le (by omega : l.length ≤ i + 1), rbsC]
theorem rb_fetch (l : List ByteArray) (i : Nat) : semantic_fetch.f l (i : Int) ⟨#[48]⟩ = some (rbGet l i) := by
 unfold semantic_fetch.f
 by_cases h : i < l.length
 ·rw [if_neg (by omega), if_pos (by omega), if_pos (by omega), rbGet_in h]
  unfold rdOf
  rw [Int.toNat_natCast, List.getD_eq_getElem?_getD, List.getElem?_eq_getElem h]
  rfl
 ·rw [if_pos (by omega), rbGet_out (by omega)]
  rfl
theorem rb_getFit {l : List ByteArray} (h : rbFit l = true) (i : Nat) : (rbGet l i).size ≤ 1000000 := by
 by_cases hi : i < l.length
 ·rw [rbGet_in hi]
  exact rbFit_get h i hi
 ·rw [rbGet_out (by omega)]
  decide
def rbJ : Value → Nat
 | .int _ n => n.toNat
 | _ => 0
attribute [local go_sem] Ss.EV
set_option maxRecDepth 100000 in
set_option maxHeartbeats 4000000 in
theorem semantic_compareRubyGemsComponents.calls (A0 : Option Addr) (c0 : Nat) (l0 : List ByteArray) (A1 : Option Addr) (c1 : Nat) (l1 : List ByteArray) (r : Int) (w : World) (hr0 : Kd.C Kd.string w A0 l0.length l0) (hc0 : l0.length ≤ c0) (hr1 : Kd.C Kd.string w A1 l1.length l1) (hc1 : l1.length ≤ c1) (hG : GW w) (h : semantic_compareRubyGemsComponents.f l0 l1 = some r) :
  Calls Tryd.prog 73 #[.slice A0 l0.length c0, .slice A1 l1.length c1] w fun e w' => e = .returned (.int .i64 r) ∧ Below w.heap.size w w' := by
 unfold semantic_compareRubyGemsComponents.f at h
 split at h
 ·rename_i hf
  rw [Bool.and_eq_true] at hf
  have HF0 := Aside0.mk hf.1
  have HF1 := Aside0.mk hf.2
  have HRES : Aside0 (r = rbsC l0 l1) := ⟨(Option.some.inj h).symm⟩
  have HR0 := Aside0.mk hr0
  have HR1 := Aside0.mk hr1
  have HC : Aside0 (l0.length ≤ c0 ∧ l1.length ≤ c1) := ⟨hc0, hc1⟩
  have HG := Aside0.mk hG
  have hm0 := Kd.C_max hr0
  have hm1 := Kd.C_max hr1
  clear h hf hr0 hr1 hc0 hc1 hG
  obtain ⟨n0, hn0⟩ : ∃ n0, n0 = l0.length := ⟨_, rfl⟩
  obtain ⟨n1, hn1⟩ : ∃ n1, n1 = l1.length := ⟨_, rfl⟩
  rw [← hn0] at hm0 ⊢
  rw [← hn1] at hm1 ⊢
  have HN : Aside0 (n0 = l0.length ∧ n1 = l1.length) := ⟨hn0, hn1⟩
  clear hn0 hn1
  obtain ⟨m, hM, hma, hmb, hmc⟩ : ∃ m : Nat, (if n0 < n1 then (n1 : Int) else (n0 : Int)) = (m : Int) ∧ n0 ≤ m ∧ n1 ≤ m ∧ (m = n0 ∨ m = n1) := by
   by_cases hlt : n0 < n1
   ·exact ⟨n1, if_pos hlt, by omega, by omega, by omega⟩
   ·exact ⟨n0, if_neg hlt, by omega, by omega, by omega⟩
  go_enter Tryd.func73, Tryd.ntmps73
  go_wp2
  clear hM
  go_loopw [21] (fun v21 wr => ∃ i : Nat, v21 = .int .i64 (i : Int) ∧ i ≤ m ∧ Aside0 (r = rbsC (l0.drop i) (l1.drop i)) ∧ Aside0 (Below w.heap.size w wr)) (fun v21 wr => m - rbJ v21)
  case atStart => exact ⟨0, rfl, Nat.zero_le _, HRES, ⟨Below.refl _ _⟩⟩
  case round =>
   obtain ⟨i, rfl, him, HI, HB⟩ := hrel
   by_cases hi : i < m
   ·have hd : decide ((i : Int) < (m : Int)) = true := decide_eq_true (by omega)
    have hd2 : decide (i < m) = true := decide_eq_true hi
    have hi0 : (0 : Int) ≤ (i : Int) := by omega
    have hia : (i : Int) < (m : Int) := by omega
    have hmx : m ≤ 9223372036854775807 := by omega
    have hst := rbsC_step l0 l1 i (by have := HN.out; omega)
    rw [← HI.out] at hst
    have hs0 := rb_getFit HF0.out i
    have hs1 := rb_getFit HF1.out i
    have hq0 := rb_fetch l0 i
    have hq1 := rb_fetch l1 i
    generalize rbGet l0 i = x at hq0 hst hs0
    generalize rbGet l1 i = y at hq1 hst hs1
    have hf0 := semantic_fetch.calls A0 c0 l0 (i : Int) ⟨#[48]⟩ x wr (Kd.C_below HR0.out HB.out) HC.out.1 hq0
    rw [← HN.out.1] at hf0
    have HFC0 := Aside0.mk hf0
    have HST := Aside0.mk hst
    have HX : Aside0 (x.size ≤ 1000000 ∧ y.size ≤ 1000000 ∧ i < m) := ⟨hs0, hs1, hi⟩
    have HQ1 := Aside0.mk hq1
    clear hst hs0 hs1 hq0 hq1 hf0 hi
    go_wp2_with (go_at_call 87; (with_reducible refine (HFC0.out).mono ?_))
    rintro e W1 ⟨rfl, hb1⟩
    have HB1 : Aside0 (Below w.heap.size w W1) := ⟨HB.out.trans (hb1.below.mono HB.out.size)⟩
    have hf1 := semantic_fetch.calls A1 c1 l1 (i : Int) ⟨#[48]⟩ y W1 (Kd.C_below HR1.out HB1.out) HC.out.2 HQ1.out
    rw [← HN.out.2] at hf1
    have HFC1 := Aside0.mk hf1
    clear hb1 hf1 HFC0
    go_wp2_with (go_at_call 87; (with_reducible refine (HFC1.out).mono ?_))
    rintro e W2 ⟨rfl, hb2⟩
    have HB2 : Aside0 (Below w.heap.size w W2) := ⟨HB1.out.trans (hb2.below.mono HB1.out.size)⟩
    have hC0 := Aside0.mk (Ss.ss_convert x W2 HX.out.1 (GW.below HG.out HB2.out))
    clear hb2 HFC1 HB HB1
    go_wp2_with (go_at_call 88; (with_reducible refine (hC0.out).mono ?_))
    rintro e W3 ⟨hB3, h1⟩
    have HB3 : Aside0 (Below w.heap.size w W3) := ⟨HB2.out.trans (hB3.mono HB2.out.size)⟩
    have hC1 := Aside0.mk (Ss.ss_convert y W3 HX.out.2.1 (GW.below HG.out HB3.out))
    clear hB3 hC0 HB2
    rcases h1 with ⟨hn, a, rfl⟩ | ⟨z, o, hz, rfl, hO⟩
    ·have HC0 := Aside0.mk hn
     clear hn
     go_wp2_with (go_at_call 88; (with_reducible refine (hC1.out).mono ?_))
     rintro e W4 ⟨hB4, h2⟩
     have HB4 : Aside0 (Below w.heap.size w W4) := ⟨HB3.out.trans (hB4.mono HB3.out.size)⟩
     clear hB4 hC1 HB3
     rcases h2 with ⟨hn, a2, rfl⟩ | ⟨z2, o2, hz2, rfl, hO2⟩
     ·have HC1 := Aside0.mk hn
      clear hn
      have hcmp := Tryd.strings_Compare x y
      have HID : Aside0 (rbC x y = Lib.compareBytes x.data.toList y.data.toList) := ⟨by unfold rbC; rw [HC0.out, HC1.out]⟩
      obtain ⟨v, hv⟩ : ∃ v, v = Lib.compareBytes x.data.toList y.data.toList := ⟨_, rfl⟩
      rw [← hv] at hcmp HID
      clear hv
      have HCMP := Aside0.mk hcmp
      clear hcmp
      by_cases hv : v = 0
      ·have b0 : (v != 0) = false := bne_eq_false_iff_eq.2 hv
       have HR : Aside0 (r = rbsC (l0.drop (i + 1)) (l1.drop (i + 1))) := ⟨by rw [HST.out, HID.out, if_pos hv]⟩
       clear hv
       go_wp2_with (go_at_call 90; (with_reducible refine (HCMP.out _).mono ?_); rintro e W5 ⟨rfl, rfl⟩)
       go_roundw
       case rel => exact ⟨i + 1, by go_num, by have := HX.out.2.2; omega, HR, HB4⟩
       case measure =>
        have := HX.out.2.2
        show m - rbJ _ < m - rbJ _
        simp only [rbJ]
        omega
      ·have b0 : (v != 0) = true := bne_iff_ne.2 hv
       have HR : Aside0 (r = v) := ⟨by rw [HST.out, HID.out, if_neg hv]⟩
       clear hv
       go_wp2_with (go_at_call 90; (with_reducible refine (HCMP.out _).mono ?_); rintro e W5 ⟨rfl, rfl⟩)
       go_ret
       exact ⟨by rw [HR.out]; rfl, HB4.out⟩
     ·have HC1 := Aside0.mk hz2
      clear hz2 hO2
      have HR : Aside0 (r = -1) := ⟨by rw [HST.out]; unfold rbC; rw [HC0.out, HC1.out]; rfl⟩
      go_wp2
      go_ret
      exact ⟨by rw [HR.out]; rfl, HB4.out⟩
    ·have HC0 := Aside0.mk hz
     have HO := Aside0.mk hO
     clear hz hO
     go_wp2_with (go_at_call 88; (with_reducible refine (hC1.out).mono ?_))
     rintro e W4 ⟨hB4, h2⟩
     have HB4 : Aside0 (Below w.heap.size w W4) := ⟨HB3.out.trans (hB4.mono HB3.out.size)⟩
     rcases h2 with ⟨hn, a2, rfl⟩ | ⟨z2, o2, hz2, rfl, hO2⟩
     ·have HC1 := Aside0.mk hn
      clear hn hB4
      have HR : Aside0 (r = 1) := ⟨by rw [HST.out]; unfold rbC; rw [HC0.out, HC1.out]; rfl⟩
      clear hC1
      go_wp2
      go_ret
      exact ⟨by rw [HR.out]; rfl, HB4.out⟩
     ·have HC1 := Aside0.mk hz2
      clear hz2
      have hcmp := big_Cmp _ _ z z2 W4 (HO.out.at_.below hB4) hO2.at_
      have HID : Aside0 (rbC x y = Bn.cmpZ z z2) := ⟨by unfold rbC; rw [HC0.out, HC1.out]⟩
      obtain ⟨v, hv⟩ : ∃ v, v = Bn.cmpZ z z2 := ⟨_, rfl⟩
      rw [← hv] at hcmp HID
      clear hv hC1 hO2 hB4
      have HCMP := Aside0.mk hcmp
      clear hcmp
      by_cases hv : v = 0
      ·have b0 : (v != 0) = false := bne_eq_false_iff_eq.2 hv
       have HR : Aside0 (r = rbsC (l0.drop (i + 1)) (l1.drop (i + 1))) := ⟨by rw [HST.out, HID.out, if_pos hv]⟩
       clear hv
       go_wp2_with (go_at_call 89; (with_reducible refine (HCMP.out).mono ?_); rintro e W5 ⟨rfl, ⟨n3, rfl⟩⟩)
       go_roundw
       case rel => exact ⟨i + 1, by go_num, by have := HX.out.2.2; omega, HR, ⟨pw_below_drewN HB4.out _⟩⟩
       case measure =>
        have := HX.out.2.2
        show m - rbJ _ < m - rbJ _
        simp only [rbJ]
        omega
      ·have b0 : (v != 0) = true := bne_iff_ne.2 hv
       have HR : Aside0 (r = v) := ⟨by rw [HST.out, HID.out, if_neg hv]⟩
       clear hv
       go_wp2_with (go_at_call 89; (with_reducible refine (HCMP.out).mono ?_); rintro e W5 ⟨rfl, ⟨n3, rfl⟩⟩)
       go_ret
       exact ⟨by rw [HR.out]; rfl, pw_below_drewN HB4.out _⟩
   ·obtain rfl : i = m := by omega
    have hd : decide ((i : Int) < (i : Int)) = false := decide_eq_false (by omega)
    have hd2 : decide (i < i) = false := decide_eq_false (by omega)
    have HR : Aside0 (r = 0) := ⟨by rw [HI.out, List.drop_eq_nil_of_le (by have := HN.out; omega), List.drop_eq_nil_of_le (by have := HN.out; omega), rbsC]⟩
    clear hi
    go_wp2
    go_ret
    exact ⟨by rw [HR.out]; rfl, HB.out⟩
 ·cases h

end Go.Proofs.YtmhlmkefnmdbcaaDoor.Z
