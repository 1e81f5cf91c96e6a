-- Written by a program of this session (myprint.py).
import Derived.Test.YtipfmkfpaglkkaaGreatDoorZ0
import Derived.Test.YtipfmkfpaglkkaaGreatDoorZ11
import Derived.Test.YtipfmkfpaglkkaaGreatDoorBg
import Derived.Test.YtipfmkfpaglkkaaGreatDoorBn
import Derived.Test.YtipfmkfpaglkkaaGreatDoorGe
namespace Go.Proofs.YtipfmkfpaglkkaaGreatDoor.Z
open Go.Proofs.YtipfmkfpaglkkaaGreatDoor.Gw
open Go.RowKit Go.Proofs.YtipfmkfpaglkkaaGreatDoorW.PrintWords Go.Proofs.YtipfmkfpaglkkaaGreatDoorW.PrintLast Go.Proofs.YtipfmkfpaglkkaaGreatDoorW.PrintMore
attribute [local go_sem high] Go.Proofs.YtipfmkfpaglkkaaGreatDoor.Ge.gtr_str
attribute [local go_sem] max2_int min2_int max_two min_two max_three min_three max_four min_four   -- for this text's walks alone
set_option linter.unusedVariables false
set_option linter.unusedSimpArgs false

-- PLUGGED semantic_components_Cmp: function 63 (a text of this session)
set_option maxHeartbeats 4000000 in
theorem big_NewInt0 (w : World) : Calls Tryz.prog 83 #[.int .i64 0] w fun e w' => ∃ v, e = .returned v ∧ Big.Own w' w.heap.size (fun _ => True) 0 v ∧ Below w.heap.size w w' := by
 go_enter Tryz.func83, Tryz.ntmps83
 go_wp2
 go_ret
 refine ⟨_, rfl, ⟨w.heap.size, .slice none 0 0, false, [], rfl, trivial, Nat.le_refl _, blk_new w _, Kd.R_nil _ _ _ _ _, ⟨by simp, by simp⟩, by simp, rfl⟩, (Below.refl _ _).alloc (Nat.le_refl _) _⟩
theorem at_big {w : World} {A : Option Addr} {n : Nat} {zs : List Int} (h : Kd.C Big.kd w A n zs) (i : Nat) (h1 : i < zs.length) (hn : n = zs.length) : ∃ ad v, A = some ad ∧ Big.At w zs[i] v ∧ w.cell? (ad.add i) = some v := by
 obtain ⟨ad, c, e, _, hK, hc0⟩ := Kd.C_get h zs[i] (i : Int) (by omega) (by omega)
 have hg : zs.getD (i : Int).toNat zs[i] = zs[i] := by rw [Int.toNat_natCast, List.getD_eq_getElem?_getD, List.getElem?_eq_getElem h1]; rfl
 rw [hg] at hK
 obtain ⟨v, rfl, hv⟩ := hK
 have := hc0 0 v rfl
 refine ⟨ad, v, e, hv, ?_⟩
 have e2 : (i : Int).toNat * Big.kd.sz + 0 = i := by show (i : Int).toNat * 1 + 0 = i; omega
 rw [e2] at this
 exact this
/-- A number at a place of a list; behind the end 0. -/
def nth (zs : List Int) (i : Nat) : Int := zs.getD i 0
theorem cell_bel {w W : World} {p : Addr} {v : Value} (h : w.cell? p = some v) (hb : Below w.heap.size w W) : W.cell? p = some v := (hb.cell (World.block_lt_of_cell? _ _ h)).trans h
set_option maxHeartbeats 4000000 in
theorem big_Fetch (o j : Nat) (A : Option Addr) (c : Nat) (zs : List Int) (i : Nat) (w : World) (ho : w.cell? ⟨o, j, none⟩ = some (.slice A zs.length c)) (hr : Kd.C Big.kd w A zs.length zs) (hc : zs.length ≤ c) :
  Calls Tryz.prog 73 #[.pointer (some ⟨o, j, none⟩), .int .i64 (i : Int)] w fun e w' => ∃ v, e = .returned v ∧ Big.At w' (nth zs i) v ∧ Below w.heap.size w w' := by
 have d0 := ho
 clear ho
 by_cases h : zs.length ≤ i
 ·have hd : decide ((zs.length : Int) ≤ (i : Int)) = true := decide_eq_true (by omega)
  have hn : nth zs i = 0 := by rw [nth, List.getD_eq_getElem?_getD, List.getElem?_eq_none h]; rfl
  rw [hn]
  clear hr
  go_enter Tryz.func73, Tryz.ntmps73
  go_wp2_with (go_at_call 83; refine (big_NewInt0 _).mono ?_)
  rintro e W1 ⟨v, rfl, hown, hb⟩
  obtain ⟨o', hvo⟩ : ∃ o, v = .pointer (some ⟨o, 0, none⟩) := by obtain ⟨o, u, neg, ws, e, _⟩ := hown; exact ⟨o, e⟩
  subst hvo
  have HA := Aside0.mk hown.at_
  have HB := Aside0.mk hb
  clear hown hb
  go_wp2
  go_ret
  exact ⟨_, rfl, HA.out, HB.out⟩
 ·have hd : decide ((zs.length : Int) ≤ (i : Int)) = false := decide_eq_false (by omega)
  have hil : i < zs.length := by omega
  obtain ⟨ad, v, hA, hv, hx⟩ := at_big hr i hil rfl
  subst hA
  have hn : nth zs i = zs[i] := by rw [nth, List.getD_eq_getElem?_getD, List.getElem?_eq_getElem hil]; rfl
  rw [← hn] at hv
  obtain ⟨o', hvo⟩ : ∃ o, v = .pointer (some ⟨o, 0, none⟩) := by obtain ⟨o, A, c, neg, ws, e, _⟩ := hv; exact ⟨o, e⟩
  subst hvo
  have HA := Aside0.mk hv
  have hi0 : (0 : Int) ≤ (i : Int) := by omega
  have hi1 : (i : Int) < (zs.length : Int) := by omega
  clear hv hn hr
  go_enter Tryz.func73, Tryz.ntmps73
  go_wp2
  go_ret
  exact ⟨_, rfl, HA.out, Below.refl _ _⟩
/-- How lists of numbers compare: the first place where they differ, the shorter one filled up with 0; d: how many places are left. -/
def cmpFrom (a b : List Int) : Nat → Nat → Int
 | 0, _ => 0
 | d + 1, i => if Bn.cmpZ (nth a i) (nth b i) = 0 then cmpFrom a b d (i + 1) else Bn.cmpZ (nth a i) (nth b i)
def cmpLists (a b : List Int) : Int := cmpFrom a b (max a.length b.length) 0
def bcN : Value → Nat
 | .int _ n => n.toNat
 | _ => 0
set_option maxRecDepth 100000 in
set_option maxHeartbeats 4000000 in
theorem big_CompsCmp (o j : Nat) (A : Option Addr) (c : Nat) (a : List Int) (A' : Option Addr) (c' : Nat) (b : List Int) (w : World) (ho : w.cell? ⟨o, j, none⟩ = some (.slice A a.length c)) (hr : Kd.C Big.kd w A a.length a) (hc : a.length ≤ c) (hr' : Kd.C Big.kd w A' b.length b) (hc' : b.length ≤ c') :
  Calls Tryz.prog 63 #[.pointer (some ⟨o, j, none⟩), .slice A' b.length c'] w fun e w' => e = .returned (.int .i64 (cmpLists a b)) ∧ Below w.heap.size w w' := by
 have lm := Kd.C_max hr
 have lm' := Kd.C_max hr'
 obtain ⟨WA, hWA⟩ : ∃ WA : World, WA = w.alloc (.cells #[.slice A' b.length c'] 46) := ⟨_, rfl⟩
 have hBA : Below w.heap.size w WA := by rw [hWA]; exact (Below.refl _ w).alloc (Nat.le_refl _) _
 have h0 : WA.cell? ⟨o, j, none⟩ = some (.slice A a.length c) := cell_bel ho hBA
 have h1 : WA.cell? ⟨w.heap.size, 0, none⟩ = some (.slice A' b.length c') := by rw [hWA]; exact (blk_cell (blk_new w _) 0).trans rfl
 have H0 := Aside0.mk h0
 have H1 := Aside0.mk h1
 have HR := Aside0.mk (Kd.C_below hr hBA)
 have HR' := Aside0.mk (Kd.C_below hr' hBA)
 have HBA := Aside0.mk hBA
 have HWA := Aside0.mk hWA
 clear ho hr hr' hBA h0 h1 hWA
 obtain ⟨r, hr⟩ : ∃ r, r = cmpLists a b := ⟨_, rfl⟩
 rw [← hr]
 have HRR := Aside0.mk hr
 clear hr
 rcases Nat.lt_or_ge a.length b.length with hle | hle
 ·have HR2 : Aside0 (cmpFrom a b (b.length - 0) 0 = r) := ⟨by rw [HRR.out, cmpLists, Nat.max_eq_right (by omega), Nat.sub_zero]⟩
  go_enter Tryz.func63, Tryz.ntmps63
  go_wp2
  rw [← HWA.out]
  have d0 := H0.out
  have d1 := H1.out
  go_quiet (fail)
  clear d0 d1
  go_wp2
  go_loopw [16] (fun v16 wr => ∃ i : Nat, v16 = .int .i64 (i : Int) ∧ Aside0 (Below WA.heap.size WA wr) ∧ Aside0 (cmpFrom a b (b.length - i) i = r) ∧ i ≤ b.length) (fun v16 wr => b.length - bcN v16)
  case atStart => exact ⟨0, rfl, ⟨by first | exact Below.refl _ _ | exact pw_below_drewN (Below.refl _ _) _⟩, HR2, by omega⟩
  case round =>
   obtain ⟨i, rfl, HB, HV, hi⟩ := hrel
   by_cases h : i < b.length
   ·have hd : decide ((i : Int) < (b.length : Int)) = true := decide_eq_true (by omega)
    have HF1 := Aside0.mk (big_Fetch o j A c a i wr (cell_bel H0.out HB.out) (Kd.C_below HR.out HB.out) hc)
    go_wp2_with (go_at_call 73; refine HF1.out.mono ?_)
    rintro e W1 ⟨v1, rfl, ha1, hb1⟩
    have HB1 : Aside0 (Below WA.heap.size WA W1) := ⟨HB.out.trans (hb1.mono HB.out.size)⟩
    have HF2 := Aside0.mk (big_Fetch w.heap.size 0 A' c' b i W1 (cell_bel H1.out HB1.out) (Kd.C_below HR'.out HB1.out) hc')
    obtain ⟨o1, hvo⟩ : ∃ o, v1 = .pointer (some ⟨o, 0, none⟩) := by obtain ⟨o, A, c, neg, ws, e, _⟩ := ha1; exact ⟨o, e⟩
    subst hvo
    have HA1 := Aside0.mk ha1
    clear hb1 ha1 HF1
    go_wp2_with (go_at_call 73; refine HF2.out.mono ?_)
    rintro e W2 ⟨v2, rfl, ha2, hb2⟩
    have HB2 : Aside0 (Below WA.heap.size WA W2) := ⟨HB1.out.trans (hb2.mono HB1.out.size)⟩
    obtain ⟨o2, hvo⟩ : ∃ o, v2 = .pointer (some ⟨o, 0, none⟩) := by obtain ⟨o, A, c, neg, ws, e, _⟩ := ha2; exact ⟨o, e⟩
    subst hvo
    have HC1 := Aside0.mk (big_Cmp _ _ _ _ W2 (HA1.out.below hb2) ha2)
    clear hb2 ha2 HF2 HA1
    obtain ⟨x, hx⟩ : ∃ x, x = Bn.cmpZ (nth a i) (nth b i) := ⟨_, rfl⟩
    rw [← hx] at HC1
    obtain ⟨d, hdd⟩ : ∃ d, b.length - i = d + 1 := ⟨b.length - i - 1, by omega⟩
    have HVV : Aside0 ((if x = 0 then cmpFrom a b d (i + 1) else x) = r) := ⟨by rw [← HV.out, hdd, cmpFrom, hx]⟩
    go_wp2_with (go_at_call 60; refine HC1.out.mono ?_)
    rintro e W3 ⟨rfl, ⟨q, rfl⟩⟩
    have HB3 : Aside0 (Below WA.heap.size WA (W2.drewN q)) := ⟨pw_below_drewN HB2.out q⟩
    clear hx HC1
    by_cases hz : x = 0
    ·have tz : (x != 0) = false := bne_eq_false_iff_eq.2 hz
     have HV3 : Aside0 (cmpFrom a b d (i + 1) = r) := ⟨by rw [← HVV.out, if_pos hz]⟩
     clear hz
     go_wp2
     go_roundw
     case rel => exact ⟨i + 1, rfl, HB3, ⟨by rw [← HV3.out]; congr 1; omega⟩, by omega⟩
     case measure =>
      show b.length - bcN _ < b.length - bcN _
      simp only [bcN]
      omega
    ·have tz : (x != 0) = true := bne_iff_ne.2 hz
     have HV3 : x = r := by rw [← HVV.out, if_neg hz]
     subst HV3
     clear hz
     go_wp2
     go_ret
     exact ⟨rfl, HBA.out.trans (HB3.out.mono HBA.out.size)⟩
   ·have hd : decide ((i : Int) < (b.length : Int)) = false := decide_eq_false (by omega)
    have HV3 : r = 0 := by rw [← HV.out, show b.length - i = 0 by omega, cmpFrom]
    subst HV3
    go_wp2
    go_ret
    exact ⟨rfl, HBA.out.trans (HB.out.mono HBA.out.size)⟩
 ·have HR2 : Aside0 (cmpFrom a b (a.length - 0) 0 = r) := ⟨by rw [HRR.out, cmpLists, Nat.max_eq_left (by omega), Nat.sub_zero]⟩
  go_enter Tryz.func63, Tryz.ntmps63
  go_wp2
  rw [← HWA.out]
  have d0 := H0.out
  have d1 := H1.out
  go_quiet (fail)
  clear d0 d1
  go_wp2
  go_loopw [16] (fun v16 wr => ∃ i : Nat, v16 = .int .i64 (i : Int) ∧ Aside0 (Below WA.heap.size WA wr) ∧ Aside0 (cmpFrom a b (a.length - i) i = r) ∧ i ≤ a.length) (fun v16 wr => a.length - bcN v16)
  case atStart => exact ⟨0, rfl, ⟨by first | exact Below.refl _ _ | exact pw_below_drewN (Below.refl _ _) _⟩, HR2, by omega⟩
  case round =>
   obtain ⟨i, rfl, HB, HV, hi⟩ := hrel
   by_cases h : i < a.length
   ·have hd : decide ((i : Int) < (a.length : Int)) = true := decide_eq_true (by omega)
    have HF1 := Aside0.mk (big_Fetch o j A c a i wr (cell_bel H0.out HB.out) (Kd.C_below HR.out HB.out) hc)
    go_wp2_with (go_at_call 73; refine HF1.out.mono ?_)
    rintro e W1 ⟨v1, rfl, ha1, hb1⟩
    have HB1 : Aside0 (Below WA.heap.size WA W1) := ⟨HB.out.trans (hb1.mono HB.out.size)⟩
    have HF2 := Aside0.mk (big_Fetch w.heap.size 0 A' c' b i W1 (cell_bel H1.out HB1.out) (Kd.C_below HR'.out HB1.out) hc')
    obtain ⟨o1, hvo⟩ : ∃ o, v1 = .pointer (some ⟨o, 0, none⟩) := by obtain ⟨o, A, c, neg, ws, e, _⟩ := ha1; exact ⟨o, e⟩
    subst hvo
    have HA1 := Aside0.mk ha1
    clear hb1 ha1 HF1
    go_wp2_with (go_at_call 73; refine HF2.out.mono ?_)
    rintro e W2 ⟨v2, rfl, ha2, hb2⟩
    have HB2 : Aside0 (Below WA.heap.size WA W2) := ⟨HB1.out.trans (hb2.mono HB1.out.size)⟩
    obtain ⟨o2, hvo⟩ : ∃ o, v2 = .pointer (some ⟨o, 0, none⟩) := by obtain ⟨o, A, c, neg, ws, e, _⟩ := ha2; exact ⟨o, e⟩
    subst hvo
    have HC1 := Aside0.mk (big_Cmp _ _ _ _ W2 (HA1.out.below hb2) ha2)
    clear hb2 ha2 HF2 HA1
    obtain ⟨x, hx⟩ : ∃ x, x = Bn.cmpZ (nth a i) (nth b i) := ⟨_, rfl⟩
    rw [← hx] at HC1
    obtain ⟨d, hdd⟩ : ∃ d, a.length - i = d + 1 := ⟨a.length - i - 1, by omega⟩
    have HVV : Aside0 ((if x = 0 then cmpFrom a b d (i + 1) else x) = r) := ⟨by rw [← HV.out, hdd, cmpFrom, hx]⟩
    go_wp2_with (go_at_call 60; refine HC1.out.mono ?_)
    rintro e W3 ⟨rfl, ⟨q, rfl⟩⟩
    have HB3 : Aside0 (Below WA.heap.size WA (W2.drewN q)) := ⟨pw_below_drewN HB2.out q⟩
    clear hx HC1
    by_cases hz : x = 0
    ·have tz : (x != 0) = false := bne_eq_false_iff_eq.2 hz
     have HV3 : Aside0 (cmpFrom a b d (i + 1) = r) := ⟨by rw [← HVV.out, if_pos hz]⟩
     clear hz
     go_wp2
     go_roundw
     case rel => exact ⟨i + 1, rfl, HB3, ⟨by rw [← HV3.out]; congr 1; omega⟩, by omega⟩
     case measure =>
      show a.length - bcN _ < a.length - bcN _
      simp only [bcN]
      omega
    ·have tz : (x != 0) = true := bne_iff_ne.2 hz
     have HV3 : x = r := by rw [← HVV.out, if_neg hz]
     subst HV3
     clear hz
     go_wp2
     go_ret
     exact ⟨rfl, HBA.out.trans (HB3.out.mono HBA.out.size)⟩
   ·have hd : decide ((i : Int) < (a.length : Int)) = false := decide_eq_false (by omega)
    have HV3 : r = 0 := by rw [← HV.out, show a.length - i = 0 by omega, cmpFrom]
    subst HV3
    go_wp2
    go_ret
    exact ⟨rfl, HBA.out.trans (HB.out.mono HBA.out.size)⟩

end Go.Proofs.YtipfmkfpaglkkaaGreatDoor.Z
