-- Written by a program of this session (myprint.py).
import Derived.Test.YtgnkjjgbdlkidaaGreatDoorZ0
import Derived.Test.YtgnkjjgbdlkidaaGreatDoorZ2
import Derived.Test.YtgnkjjgbdlkidaaGreatDoorSsC
import Derived.Test.YtgnkjjgbdlkidaaGreatDoorShelf
import Derived.Deep.CutBlock
import Derived.Deep.DeepCutAuto
import Derived.Deep.QuietTactic
import Derived.BigQuiet
import Derived.Test.YtgnkjjgbdlkidaaGreatDoorGe
namespace Go.Proofs.YtgnkjjgbdlkidaaGreatDoor.Z
open Go.Proofs.YtgnkjjgbdlkidaaGreatDoor.Gw
open Go.RowKit Go.Proofs.YtgnkjjgbdlkidaaGreatDoorW.PrintWords Go.Proofs.YtgnkjjgbdlkidaaGreatDoorW.PrintLast Go.Proofs.YtgnkjjgbdlkidaaGreatDoorW.PrintMore
attribute [local go_sem high] Go.Proofs.YtgnkjjgbdlkidaaGreatDoor.Ge.gtr_str
attribute [local go_sem] max2_int min2_int max_two min_two max_three min_three max_four min_four   -- for this text's walks alone
set_option linter.unusedVariables false
set_option linter.unusedSimpArgs false

-- PLUGGED semantic_compareSemverBuildComponents: function 26 (a text of this session)
/-- How two identifiers compare; how two lists do. -/
def idC (x y : ByteArray) : Int := match Ss.cvt x, Ss.cvt y with
  | some a, some b => Bn.cmpZ a b
  | none, none => Lib.compareBytes (By.bl x) (By.bl y)
  | some _, none => -1
  | none, some _ => 1
def idsC : List ByteArray → List ByteArray → Int
  | x :: l, y :: r => if idC x y = 0 then idsC l r else if 0 < idC x y then 1 else -1
  | [], [] => 0
  | _ :: _, [] => 1
  | [], _ :: _ => -1
def allFit (l : List ByteArray) : Bool := l.all fun s => decide (s.size ≤ 1000000)
def semantic_compareSemverBuildComponents.f (l0 l1 : List ByteArray) : Option Int := if allFit l0 && allFit l1 then some (idsC l0 l1) else none
theorem at_Str {w : World} {A : Option Addr} {n : Nat} {xs : List ByteArray} (h : Kd.C Kd.string w A n xs) (i : Nat) (h1 : i < xs.length) (hn : n = xs.length) : ∃ ad, A = some ad ∧ w.cell? (ad.add i) = some (.string xs[i]) := by
  obtain ⟨ad, c, e, _, hK, hc0⟩ := Kd.C_get h xs[i] (i : Int) (by omega) (by omega)
  have hc : ∀ j u, c[j]? = some u → w.cell? (ad.add (i * 1 + j)) = some u := hc0
  have hg : xs.getD (i : Int).toNat xs[i] = xs[i] := by rw [Int.toNat_natCast, List.getD_eq_getElem?_getD, List.getElem?_eq_getElem h1]; rfl
  rw [hg] at hK
  have hcs : c = [.string xs[i]] := hK
  subst hcs
  have := hc 0 _ rfl
  rw [Nat.mul_one, Nat.add_zero] at this
  exact ⟨ad, e, this⟩
theorem idsC_step (l r : List ByteArray) (i : Nat) (h : i < l.length) (h' : i < r.length) : idsC (l.drop i) (r.drop i) = if idC l[i] r[i] = 0 then idsC (l.drop (i + 1)) (r.drop (i + 1)) else if 0 < idC l[i] r[i] then 1 else -1 := by
  rw [List.drop_eq_getElem_cons h, List.drop_eq_getElem_cons h', idsC]
theorem idsC_end (l r : List ByteArray) (i : Nat) (hi : i = l.length ∨ i = r.length) (h : i ≤ l.length) (h' : i ≤ r.length) : idsC (l.drop i) (r.drop i) = if r.length < l.length then 1 else if l.length < r.length then -1 else 0 := by
  rcases hi with rfl | rfl
  · rw [List.drop_length, if_neg (by omega)]
    by_cases hl : l.length < r.length
    · rw [if_pos hl, List.drop_eq_getElem_cons hl]
      rfl
    · rw [if_neg hl, List.drop_eq_nil_of_le (by omega)]
      rfl
  · rw [List.drop_length]
    by_cases hl : r.length < l.length
    · rw [if_pos hl, List.drop_eq_getElem_cons hl]
      rfl
    · rw [if_neg hl, if_neg (by omega), List.drop_eq_nil_of_le (by omega)]
      rfl
theorem allFit_get {l : List ByteArray} (h : allFit l = true) (i : Nat) (hi : i < l.length) : l[i].size ≤ 1000000 := of_decide_eq_true (List.all_eq_true.1 h _ (List.getElem_mem hi))
attribute [local go_sem] Ss.EV
def ssI : Value → Nat
  | .int _ n => n.toNat
  | _ => 0
set_option maxRecDepth 100000 in
set_option maxHeartbeats 4000000 in
theorem semantic_compareSemverBuildComponents.calls (A0 : Option Addr) (c0 : Nat) (l0 : List ByteArray) (A1 : Option Addr) (c1 : Nat) (l1 : List ByteArray) (r : Int) (w : World) (hr0 : Kd.C Kd.string w A0 l0.length l0) (hc0 : l0.length ≤ c0) (hr1 : Kd.C Kd.string w A1 l1.length l1) (hc1 : l1.length ≤ c1) (hG : GW w) (h : semantic_compareSemverBuildComponents.f l0 l1 = some r) :
    Calls Tryz.prog 26 #[.slice A0 l0.length c0, .slice A1 l1.length c1] w fun e w' => e = .returned (.int .i64 r) ∧ Below w.heap.size w w' := by
  unfold semantic_compareSemverBuildComponents.f at h
  split at h
  · rename_i hf
    rw [Bool.and_eq_true] at hf
    have HF0 := Aside0.mk hf.1
    have HF1 := Aside0.mk hf.2
    have HRES : Aside0 (r = idsC l0 l1) := ⟨(Option.some.inj h).symm⟩
    have HR0 := Aside0.mk hr0
    have HR1 := Aside0.mk hr1
    have HC : Aside0 (l0.length ≤ c0 ∧ l1.length ≤ c1) := ⟨hc0, hc1⟩
    have HG := Aside0.mk hG
    have hm0 := Kd.C_max hr0
    have hm1 := Kd.C_max hr1
    clear h hf hr0 hr1 hc0 hc1 hG
    obtain ⟨n0, hn0⟩ : ∃ n0, n0 = l0.length := ⟨_, rfl⟩
    obtain ⟨n1, hn1⟩ : ∃ n1, n1 = l1.length := ⟨_, rfl⟩
    rw [← hn0] at hm0 ⊢
    rw [← hn1] at hm1 ⊢
    have HN : Aside0 (n0 = l0.length ∧ n1 = l1.length) := ⟨hn0, hn1⟩
    clear hn0 hn1
    go_enter Tryz.func26, Tryz.ntmps26
    go_upto_region 2 with fail
    go_cut [5] (fun v5 wc => Aside0 (wc = w) ∧ ∃ m : Nat, v5 = .int .i64 (m : Int) ∧ m ≤ n0 ∧ m ≤ n1 ∧ (m = n0 ∨ m = n1))
    case first =>
      rcases Nat.lt_or_ge n1 n0 with hlt | hge
      · go_wp2
        all_goals
          go_meet
          exact ⟨⟨rfl⟩, _, rfl, by omega, by omega, by omega⟩
      · go_wp2
        all_goals
          go_meet
          exact ⟨⟨rfl⟩, _, rfl, by omega, by omega, by omega⟩
    case rest =>
      obtain ⟨⟨rfl⟩, m, rfl, hma, hmb, hmc⟩ := hcut
      go_wp2
      go_loopw [18] (fun v18 wr => ∃ i : Nat, v18 = .int .i64 (i : Int) ∧ i ≤ m ∧ Aside0 (r = idsC (l0.drop i) (l1.drop i)) ∧ Aside0 (Below wc.heap.size wc wr)) (fun v18 wr => m - ssI v18)
      case atStart => exact ⟨0, rfl, Nat.zero_le _, HRES, ⟨Below.refl _ _⟩⟩
      case round =>
        obtain ⟨i, rfl, him, HI, HB⟩ := hrel
        by_cases hi : i < m
        · have hd : decide ((i : Int) < (m : Int)) = true := decide_eq_true (by omega)
          have hd2 : decide (i < m) = true := decide_eq_true hi
          have hl0 : i < l0.length := by have := HN.out.1; omega
          have hl1 : i < l1.length := by have := HN.out.2; omega
          obtain ⟨ad0, rfl, hx0⟩ := at_Str (Kd.C_below HR0.out HB.out) i hl0 rfl
          obtain ⟨ad1, rfl, hx1⟩ := at_Str (Kd.C_below HR1.out HB.out) i hl1 rfl
          have hst := idsC_step l0 l1 i hl0 hl1
          rw [← HI.out] at hst
          have hs0 := allFit_get HF0.out i hl0
          have hs1 := allFit_get HF1.out i hl1
          generalize l0[i] = x at hx0 hst hs0
          generalize l1[i] = y at hx1 hst hs1
          have hi0 : (0 : Int) ≤ (i : Int) := by omega
          have hia : (i : Int) < (n0 : Int) := by omega
          have hib : (i : Int) < (n1 : Int) := by omega
          have hC0 := Aside0.mk (Ss.ss_convert x wr hs0 (GW.below HG.out HB.out))
          have HST := Aside0.mk hst
          have HX : Aside0 (y.size ≤ 1000000 ∧ i < m) := ⟨hs1, hi⟩
          have hcell0 : Aside0 (∀ W, Below wr.heap.size wr W → W.cell? (ad0.add i) = some (.string x) ∧ W.cell? (ad1.add i) = some (.string y)) := ⟨fun W h => ⟨(h.cell (World.block_lt_of_cell? _ _ hx0)).trans hx0, (h.cell (World.block_lt_of_cell? _ _ hx1)).trans hx1⟩⟩
          clear hst hs0 hs1 hl0 hl1 hi
          go_wp2_with (go_at_call 36; (with_reducible refine (hC0.out).mono ?_))
          rintro e W1 ⟨hB1, h1⟩
          obtain ⟨q0, q1⟩ := hcell0.out W1 hB1
          have HB1 := Aside0.mk hB1
          have hC1 := Aside0.mk (Ss.ss_convert y W1 HX.out.1 (GW.below (GW.below HG.out HB.out) hB1))
          clear hB1 hx0 hx1 hC0
          rcases h1 with ⟨hn, a, rfl⟩ | ⟨z, o, hz, rfl, hO⟩
          · have HC0 := Aside0.mk hn
            clear hn
            go_wp2_with (go_at_call 36; (with_reducible refine (hC1.out).mono ?_))
            rintro e W2 ⟨hB2, h2⟩
            obtain ⟨q0, q1⟩ := hcell0.out W2 (HB1.out.trans (hB2.mono HB1.out.size))
            have HB2 : Aside0 (Below wc.heap.size wc W2) := ⟨(HB.out.trans (HB1.out.mono HB.out.size)).trans (hB2.mono (Nat.le_trans HB.out.size HB1.out.size))⟩
            rcases h2 with ⟨hn, a2, rfl⟩ | ⟨z2, o2, hz2, rfl, hO2⟩
            · have HC1 := Aside0.mk hn
              clear hn hB2
              have hcmp := Tryz.strings_Compare x y
              have HID : Aside0 (idC x y = Lib.compareBytes x.data.toList y.data.toList) := ⟨by unfold idC; rw [HC0.out, HC1.out]; rfl⟩
              obtain ⟨v, hv⟩ : ∃ v, v = Lib.compareBytes x.data.toList y.data.toList := ⟨_, rfl⟩
              rw [← hv] at hcmp HID
              clear hv hC1
              have HCMP := Aside0.mk hcmp
              clear hcmp
              rcases Int.lt_trichotomy v 0 with hv | hv | hv
              · have b0 : (v == 0) = false := beq_eq_false_iff_ne.2 (by omega)
                have b1 : decide (0 < v) = false := decide_eq_false (by omega)
                have HR : Aside0 (r = -1) := ⟨by rw [HST.out, HID.out, if_neg (by omega), if_neg (by omega)]⟩
                clear hv
                go_wp2
                go_quiet ((go_at_call 37; exact Calls.quiet_of_same (HCMP.out _)))
                go_wp2
                go_ret
                exact ⟨by rw [HR.out]; rfl, pw_below_drewN HB2.out _⟩
              · have b0 : (v == 0) = true := beq_iff_eq.2 hv
                have HR : Aside0 (r = idsC (l0.drop (i + 1)) (l1.drop (i + 1))) := ⟨by rw [HST.out, HID.out, if_pos hv]⟩
                subst hv
                go_wp2
                go_quiet ((go_at_call 37; exact Calls.quiet_of_same (HCMP.out _)))
                go_wp2
                go_roundw
                case rel => exact ⟨i + 1, by go_num, by have := HX.out.2; omega, HR, ⟨pw_below_drewN HB2.out _⟩⟩
                case measure =>
                  have := HX.out.2
                  show m - ssI _ < m - ssI _
                  simp only [ssI]
                  omega
              · have b0 : (v == 0) = false := beq_eq_false_iff_ne.2 (by omega)
                have b1 : decide (0 < v) = true := decide_eq_true (by omega)
                have HR : Aside0 (r = 1) := ⟨by rw [HST.out, HID.out, if_neg (by omega), if_pos (by omega)]⟩
                clear hv
                go_wp2
                go_quiet ((go_at_call 37; exact Calls.quiet_of_same (HCMP.out _)))
                go_wp2
                go_ret
                exact ⟨by rw [HR.out]; rfl, pw_below_drewN HB2.out _⟩
            · have HC1 := Aside0.mk hz2
              clear hz2 hO2 hB2
              have HID : Aside0 (idC x y = 1) := ⟨by unfold idC; rw [HC0.out, HC1.out]⟩
              have HR : Aside0 (r = 1) := ⟨by rw [HST.out, HID.out, if_neg (by decide), if_pos (by decide)]⟩
              clear hC1
              go_wp2
              go_ret
              exact ⟨by rw [HR.out]; rfl, HB2.out⟩
          · have HC0 := Aside0.mk hz
            have HO := Aside0.mk hO
            clear hz hO
            go_wp2_with (go_at_call 36; (with_reducible refine (hC1.out).mono ?_))
            rintro e W2 ⟨hB2, h2⟩
            obtain ⟨q0, q1⟩ := hcell0.out W2 (HB1.out.trans (hB2.mono HB1.out.size))
            have HB2 : Aside0 (Below wc.heap.size wc W2) := ⟨(HB.out.trans (HB1.out.mono HB.out.size)).trans (hB2.mono (Nat.le_trans HB.out.size HB1.out.size))⟩
            rcases h2 with ⟨hn, a2, rfl⟩ | ⟨z2, o2, hz2, rfl, hO2⟩
            · have HC1 := Aside0.mk hn
              clear hn hB2
              have HID : Aside0 (idC x y = -1) := ⟨by unfold idC; rw [HC0.out, HC1.out]⟩
              have HR : Aside0 (r = -1) := ⟨by rw [HST.out, HID.out, if_neg (by decide), if_neg (by decide)]⟩
              clear hC1
              go_wp2
              go_ret
              exact ⟨by rw [HR.out]; rfl, HB2.out⟩
            · have HC1 := Aside0.mk hz2
              clear hz2
              have hcmp := big_Cmp _ _ z z2 W2 (HO.out.at_.below hB2) hO2.at_
              have HID : Aside0 (idC x y = Bn.cmpZ z z2) := ⟨by unfold idC; rw [HC0.out, HC1.out]⟩
              obtain ⟨v, hv⟩ : ∃ v, v = Bn.cmpZ z z2 := ⟨_, rfl⟩
              rw [← hv] at hcmp HID
              clear hv hC1 hO2 hB2
              have HCMP := Aside0.mk hcmp
              clear hcmp
              rcases Int.lt_trichotomy v 0 with hv | hv | hv
              · have b0 : (v == 0) = false := beq_eq_false_iff_ne.2 (by omega)
                have b1 : decide (0 < v) = false := decide_eq_false (by omega)
                have HR : Aside0 (r = -1) := ⟨by rw [HST.out, HID.out, if_neg (by omega), if_neg (by omega)]⟩
                clear hv
                go_wp2_with (go_at_call 24; (with_reducible refine (HCMP.out).mono ?_); rintro e W3 ⟨rfl, ⟨n3, rfl⟩⟩)
                go_ret
                exact ⟨by rw [HR.out]; rfl, pw_below_drewN HB2.out _⟩
              · have b0 : (v == 0) = true := beq_iff_eq.2 hv
                have HR : Aside0 (r = idsC (l0.drop (i + 1)) (l1.drop (i + 1))) := ⟨by rw [HST.out, HID.out, if_pos hv]⟩
                subst hv
                go_wp2_with (go_at_call 24; (with_reducible refine (HCMP.out).mono ?_); rintro e W3 ⟨rfl, ⟨n3, rfl⟩⟩)
                go_roundw
                case rel => exact ⟨i + 1, by go_num, by have := HX.out.2; omega, HR, ⟨pw_below_drewN HB2.out _⟩⟩
                case measure =>
                  have := HX.out.2
                  show m - ssI _ < m - ssI _
                  simp only [ssI]
                  omega
              · have b0 : (v == 0) = false := beq_eq_false_iff_ne.2 (by omega)
                have b1 : decide (0 < v) = true := decide_eq_true (by omega)
                have HR : Aside0 (r = 1) := ⟨by rw [HST.out, HID.out, if_neg (by omega), if_pos (by omega)]⟩
                clear hv
                go_wp2_with (go_at_call 24; (with_reducible refine (HCMP.out).mono ?_); rintro e W3 ⟨rfl, ⟨n3, rfl⟩⟩)
                go_ret
                exact ⟨by rw [HR.out]; rfl, pw_below_drewN HB2.out _⟩
        · obtain rfl : i = m := by omega
          have hd : decide ((i : Int) < (i : Int)) = false := decide_eq_false (by omega)
          have HE : Aside0 (r = if l1.length < l0.length then 1 else if l0.length < l1.length then -1 else 0) := ⟨by rw [HI.out]; exact idsC_end l0 l1 i (by rw [← HN.out.1, ← HN.out.2]; exact hmc) (by have := HN.out.1; omega) (by have := HN.out.2; omega)⟩
          rw [← HN.out.1, ← HN.out.2] at HE
          rcases Nat.lt_trichotomy n0 n1 with hl | hl | hl
          · have a1 : decide (n1 < n0) = false := decide_eq_false (by omega)
            have a2 : decide (n0 < n1) = true := decide_eq_true hl
            have a3 : decide ((n1 : Int) < (n0 : Int)) = false := decide_eq_false (by omega)
            have a4 : decide ((n0 : Int) < (n1 : Int)) = true := decide_eq_true (by omega)
            have HR : Aside0 (r = -1) := ⟨by rw [HE.out, if_neg (by omega), if_pos hl]⟩
            clear hl hi
            go_wp2
            go_ret
            exact ⟨by rw [HR.out]; rfl, HB.out⟩
          · subst hl
            have HR : Aside0 (r = 0) := ⟨by rw [HE.out, if_neg (by omega), if_neg (by omega)]⟩
            have a1 : decide (n0 < n0) = false := decide_eq_false (by omega)
            have a3 : decide ((n0 : Int) < (n0 : Int)) = false := decide_eq_false (by omega)
            clear hi
            go_wp2
            go_ret
            exact ⟨by rw [HR.out]; rfl, HB.out⟩
          · have a1 : decide (n1 < n0) = true := decide_eq_true hl
            have a3 : decide ((n1 : Int) < (n0 : Int)) = true := decide_eq_true (by omega)
            have HR : Aside0 (r = 1) := ⟨by rw [HE.out, if_pos hl]⟩
            clear hl hi
            go_wp2
            go_ret
            exact ⟨by rw [HR.out]; rfl, HB.out⟩
  · cases h

end Go.Proofs.YtgnkjjgbdlkidaaGreatDoor.Z
