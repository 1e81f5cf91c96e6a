-- Written by a program of this session (myprint.py).
import Derived.Test.YtciojhhncfnagaaDoorZ0
import Derived.Test.YtciojhhncfnagaaDoorRh
import Derived.Deep.CutBlock
import Derived.Deep.DeepCutAuto
import Derived.Test.YtciojhhncfnagaaDoorGe
namespace Go.Proofs.YtciojhhncfnagaaDoor.Z
open Go.RowKit Go.Proofs.YtciojhhncfnagaaDoorW.PrintWords Go.Proofs.YtciojhhncfnagaaDoorW.PrintLast Go.Proofs.YtciojhhncfnagaaDoorW.PrintMore
attribute [local go_sem high] Go.Proofs.YtciojhhncfnagaaDoor.Ge.gtr_str
attribute [local go_sem] max2_int min2_int max_two min_two max_three min_three max_four min_four   -- for this text's walks alone
set_option linter.unusedVariables false
set_option linter.unusedSimpArgs false

-- PLUGGED semantic_compareRedHatComponents: function 38 (a text of this session)
open Go.Proofs.YtciojhhncfnagaaDoor Go.Proofs.YtciojhhncfnagaaDoor.Rh
def semantic_compareRedHatComponents.f (a0 a1 : ByteArray) : Option Int := if decide (a0.size ≤ 140737488351) && decide (a1.size ≤ 140737488351) then some (rhTop (By.bl a0) (By.bl a1)) else none
theorem w32b (c : UInt8) : wrap32 (c.toNat : Int) = (c.toNat : Int) := by
  have := c.toNat_lt
  unfold wrap32
  omega
attribute [local go_sem] w32b
def rhN : Value → Nat
  | .int _ n => n.toNat
  | _ => 0
def RhI (a : ByteArray) (B0 : Nat) (w0 : World) (i0 : Nat) (v : Value) (wi : World) : Prop := ∃ i : Nat, v = .int .i64 (i : Int) ∧ Aside0 (Below B0 w0 wi) ∧ Aside0 (rhSkip ((By.bl a).drop i) = rhSkip ((By.bl a).drop i0)) ∧ i0 ≤ i ∧ i ≤ a.size
theorem RhI.mk {a : ByteArray} {B0 : Nat} {w0 : World} {i0 : Nat} {v : Value} {wi : World} (i : Nat) (h1 : v = .int .i64 (i : Int)) (h2 : Aside0 (Below B0 w0 wi)) (h3 : rhSkip ((By.bl a).drop i) = rhSkip ((By.bl a).drop i0)) (h4 : i0 ≤ i) (h5 : i ≤ a.size) : RhI a B0 w0 i0 v wi := ⟨i, h1, h2, ⟨h3⟩, h4, h5⟩
def RhO (a0 a1 : ByteArray) (w : World) (r : Int) (v5 v6 : Value) (wr : World) : Prop := ∃ i j n : Nat, v5 = .int .i64 (i : Int) ∧ v6 = .int .i64 (j : Int) ∧ Aside0 (Below w.heap.size w wr) ∧ Aside0 (rhL n ((By.bl a0).drop i) ((By.bl a1).drop j) = r) ∧ i ≤ a0.size ∧ j ≤ a1.size ∧ a0.size - i + (a1.size - j) < n
theorem RhO.mk {a0 a1 : ByteArray} {w : World} {r : Int} {v5 v6 : Value} {wr : World} (i j n : Nat) (h1 : v5 = .int .i64 (i : Int)) (h2 : v6 = .int .i64 (j : Int)) (h3 : Aside0 (Below w.heap.size w wr)) (h4 : rhL n ((By.bl a0).drop i) ((By.bl a1).drop j) = r) (h5 : i ≤ a0.size) (h6 : j ≤ a1.size) (h7 : a0.size - i + (a1.size - j) < n) : RhO a0 a1 w r v5 v6 wr := ⟨i, j, n, h1, h2, h3, ⟨h4⟩, h5, h6, h7⟩
theorem t126 (c : UInt8) : ((c.toNat : Int) == 126) = decide (c = 126) := by
  rw [Bool.eq_iff_iff, beq_iff_eq, decide_eq_true_iff]
  exact ⟨fun h => UInt8.toNat_inj.1 (by have : (126 : UInt8).toNat = 126 := rfl; omega), fun h => by rw [h]; rfl⟩
theorem t94 (c : UInt8) : ((c.toNat : Int) == 94) = decide (c = 94) := by
  rw [Bool.eq_iff_iff, beq_iff_eq, decide_eq_true_iff]
  exact ⟨fun h => UInt8.toNat_inj.1 (by have : (94 : UInt8).toNat = 94 := rfl; omega), fun h => by rw [h]; rfl⟩
/-- The comparison, unfolded at what is not left out. -/
def rhHd (n : Nat) : List UInt8 → List UInt8 → Int
  | [], [] => 0
  | [], c :: b => if c = 126 then 1 else if c = 94 then -1 else -1
  | c :: a, [] => if c = 126 then -1 else if c = 94 then 1 else 1
  | c :: a, e :: b =>
      if c = 126 then (if e = 126 then rhL n a b else -1)
      else if e = 126 then 1
      else if c = 94 then (if e = 94 then rhL n a b else -1)
      else if e = 94 then 1
      else if ((e :: b).takeWhile (rhCls (By.dg c))).length = 0 then (if By.dg c then 1 else -1)
      else if rhRuns (By.dg c) ((c :: a).takeWhile (rhCls (By.dg c))) ((e :: b).takeWhile (rhCls (By.dg c))) ≠ 0 then rhRuns (By.dg c) ((c :: a).takeWhile (rhCls (By.dg c))) ((e :: b).takeWhile (rhCls (By.dg c)))
      else rhL n ((c :: a).dropWhile (rhCls (By.dg c))) ((e :: b).dropWhile (rhCls (By.dg c)))
theorem rhL_hd (n : Nat) (a b : List UInt8) : rhL (n + 1) a b = rhHd n (rhSkip a) (rhSkip b) := by
  rw [rhL]
  unfold rhHd
  rfl
theorem rh_stop (l : List UInt8) (i : Nat) (h : i < l.length) (hb : rhTrim l[i] = false) : rhSkip (l.drop i) = l[i] :: l.drop (i + 1) := by
  rw [List.drop_eq_getElem_cons h, rhSkip, List.dropWhile_cons, if_neg (by rw [hb]; decide)]
theorem rh_go (l : List UInt8) (i : Nat) (h : i < l.length) (hb : rhTrim l[i] = true) : rhSkip (l.drop i) = rhSkip (l.drop (i + 1)) := by
  rw [List.drop_eq_getElem_cons h, rhSkip, List.dropWhile_cons, if_pos hb]
  rfl
theorem rh_end (l : List UInt8) : rhSkip (l.drop l.length) = [] := by
  rw [List.drop_of_length_le (Nat.le_refl _)]
  rfl
set_option maxHeartbeats 8000000 in
set_option maxRecDepth 100000 in
theorem rh_main (a0 a1 : ByteArray) (r : Int) (w : World) (hs0 : a0.size ≤ 140737488351) (hs1 : a1.size ≤ 140737488351) (hA : ¬ a0.size = 0) (hB : ¬ a1.size = 0)
   (ta2 : a0.toList.isEmpty = false) (tb2 : a1.toList.isEmpty = false) (HRL : Aside0 (rhL (a0.size + a1.size + 1) (By.bl a0) (By.bl a1) = r)) (ta : (a0.toList = []) = False) (tb : (a1.toList = []) = False) :
    Calls Tryd.prog 38 #[.string a0, .string a1] w fun e w' => e = .returned (.int .i64 r) ∧ Below w.heap.size w w' := by
  go_enter Tryd.func38, Tryd.ntmps38
  go_wp2
  go_loopw [5, 6] (fun v5 v6 wr => RhO a0 a1 w r v5 v6 wr) (fun v5 v6 wr => a0.size - rhN v5 + (a1.size - rhN v6))
  case atStart => exact RhO.mk 0 0 (a0.size + a1.size + 1) rfl rfl ⟨Below.refl _ _⟩ HRL.out (by omega) (by omega) (by omega)
  case round =>
    obtain ⟨i0, j0, n, rfl, rfl, HB0, HV0, hi0, hj0, hn⟩ := hrel
    obtain ⟨n, rfl⟩ : ∃ m, n = m + 1 := ⟨n - 1, by omega⟩
    have HV : Aside0 (rhHd n (rhSkip ((By.bl a0).drop i0)) (rhSkip ((By.bl a1).drop j0)) = r) := ⟨by rw [← HV0.out, rhL_hd]⟩
    clear HV0 HRL
    go_wp2
    go_loopw [5] (fun v5 wi => RhI a0 w.heap.size w i0 v5 wi) (fun v5 wi => a0.size - rhN v5)
    case atStart => exact RhI.mk i0 rfl HB0 rfl (Nat.le_refl _) hi0
    case round =>
      obtain ⟨i, rfl, HB1, HV1, hi1, hi2⟩ := hrel
      clear HB0
      by_cases hi : i < a0.size
      · have hid : decide ((i : Int) < (a0.size : Int)) = true := decide_eq_true (by omega)
        obtain ⟨b, hb⟩ : ∃ b, b = rhTrim a0[i] := ⟨_, rfl⟩
        have HT : Aside0 (∀ W, Calls Tryd.prog 45 #[.int .i32 (a0[i].toNat : Int)] W fun e w' => e = .returned (.bool b) ∧ W = w') := ⟨fun W => by rw [hb]; exact (rh_trim _ W).mono fun e w' ⟨h1, h2⟩ => ⟨h1, h2.symm⟩⟩
        cases b with
        | true =>
          have hsk := Aside0.mk (rh_go (By.bl a0) i (by rw [By.bl_length]; exact hi) hb.symm)
          clear hb
          go_wp2_with (go_at_call 45; (with_reducible refine (HT.out _).mono ?_); rintro e w' ⟨rfl, rfl⟩)
          go_roundw
          case rel => exact RhI.mk (i + 1) rfl HB1 (by rw [← HV1.out, hsk.out]) (by omega) (by omega)
          case measure =>
            show a0.size - rhN _ < a0.size - rhN _
            simp only [rhN]
            omega
        | false =>
          have HA : Aside0 (rhSkip ((By.bl a0).drop i0) = a0[i] :: (By.bl a0).drop (i + 1)) := ⟨HV1.out.symm.trans (rh_stop (By.bl a0) i (by rw [By.bl_length]; exact hi) hb.symm)⟩
          have HAt : Aside0 (rhTrim a0[i] = false) := ⟨hb.symm⟩
          clear hb HV1
          go_wp2_with (go_at_call 45; (with_reducible refine (HT.out _).mono ?_); rintro e w' ⟨rfl, rfl⟩)
          clear HT
          go_loopw [6] (fun v6 wi => RhI a1 w.heap.size w j0 v6 wi) (fun v6 wi => a1.size - rhN v6)
          case atStart => exact RhI.mk j0 rfl HB1 rfl (Nat.le_refl _) hj0
          case round =>
            obtain ⟨j, rfl, HB3, HV3, hj1, hj2⟩ := hrel
            clear HB1
            by_cases hj : j < a1.size
            · have hjd : decide ((j : Int) < (a1.size : Int)) = true := decide_eq_true (by omega)
              obtain ⟨b, hb⟩ : ∃ b, b = rhTrim a1[j] := ⟨_, rfl⟩
              have HT : Aside0 (∀ W, Calls Tryd.prog 45 #[.int .i32 (a1[j].toNat : Int)] W fun e w' => e = .returned (.bool b) ∧ W = w') := ⟨fun W => by rw [hb]; exact (rh_trim _ W).mono fun e w' ⟨h1, h2⟩ => ⟨h1, h2.symm⟩⟩
              cases b with
              | true =>
                have hsk := Aside0.mk (rh_go (By.bl a1) j (by rw [By.bl_length]; exact hj) hb.symm)
                clear hb
                go_wp2_with (go_at_call 45; (with_reducible refine (HT.out _).mono ?_); rintro e w' ⟨rfl, rfl⟩)
                go_roundw
                case rel => exact RhI.mk (j + 1) rfl HB3 (by rw [← HV3.out, hsk.out]) (by omega) (by omega)
                case measure =>
                  show a1.size - rhN _ < a1.size - rhN _
                  simp only [rhN]
                  omega
              | false =>
                have HQ : Aside0 (rhSkip ((By.bl a1).drop j0) = a1[j] :: (By.bl a1).drop (j + 1)) := ⟨HV3.out.symm.trans (rh_stop (By.bl a1) j (by rw [By.bl_length]; exact hj) hb.symm)⟩
                have HQt : Aside0 (rhTrim a1[j] = false) := ⟨hb.symm⟩
                clear hb HV3
                have HTQ := HT
                clear HT
                have hca := t126 a0[i]
                have hca2 := t94 a0[i]
                have hcb := t126 a1[j]
                have hcb2 := t94 a1[j]
                have hia : ((i : Int) == (a0.size : Int)) = false := beq_eq_false_iff_ne.2 (by omega)
                have hib : (i == a0.size) = false := beq_eq_false_iff_ne.2 (by omega)
                have hja : ((j : Int) == (a1.size : Int)) = false := beq_eq_false_iff_ne.2 (by omega)
                have hjb : (j == a1.size) = false := beq_eq_false_iff_ne.2 (by omega)
                by_cases k1 : a0[i] = 126
                · rw [decide_eq_true k1] at hca
                  by_cases k2 : a1[j] = 126
                  · rw [decide_eq_true k2] at hcb
                    have hr : Aside0 (rhL n ((By.bl a0).drop (i + 1)) ((By.bl a1).drop (j + 1)) = r) := ⟨by rw [← HV.out, HA.out, HQ.out]; simp only [rhHd, if_pos k1, if_pos k2]⟩
                    clear k1 k2
                    go_wp2_with (go_at_call 45; (with_reducible refine (HTQ.out _).mono ?_); rintro e w' ⟨rfl, rfl⟩)
                    go_roundw
                    case rel => exact RhO.mk (i + 1) (j + 1) n rfl rfl HB3 hr.out (by omega) (by omega) (by omega)
                    case measure =>
                      show a0.size - rhN _ + (a1.size - rhN _) < a0.size - rhN _ + (a1.size - rhN _)
                      simp only [rhN]
                      omega
                  · rw [decide_eq_false k2] at hcb
                    have hr : Aside0 (r = -1) := ⟨by rw [← HV.out, HA.out, HQ.out]; simp only [rhHd, if_pos k1, if_neg k2]⟩
                    clear k1 k2
                    go_wp2_with (go_at_call 45; (with_reducible refine (HTQ.out _).mono ?_); rintro e w' ⟨rfl, rfl⟩)
                    go_ret
                    exact ⟨by rw [hr.out]; first | rfl | trivial, HB3.out⟩
                · rw [decide_eq_false k1] at hca
                  by_cases k2 : a1[j] = 126
                  · rw [decide_eq_true k2] at hcb
                    have hr : Aside0 (r = 1) := ⟨by rw [← HV.out, HA.out, HQ.out]; simp only [rhHd, if_neg k1, if_pos k2]⟩
                    clear k1 k2
                    go_wp2_with (go_at_call 45; (with_reducible refine (HTQ.out _).mono ?_); rintro e w' ⟨rfl, rfl⟩)
                    go_ret
                    exact ⟨by rw [hr.out]; first | rfl | trivial, HB3.out⟩
                  · rw [decide_eq_false k2] at hcb
                    by_cases k3 : a0[i] = 94
                    · rw [decide_eq_true k3] at hca2
                      by_cases k4 : a1[j] = 94
                      · rw [decide_eq_true k4] at hcb2
                        have hr : Aside0 (rhL n ((By.bl a0).drop (i + 1)) ((By.bl a1).drop (j + 1)) = r) := ⟨by rw [← HV.out, HA.out, HQ.out]; simp only [rhHd, if_neg k1, if_neg k2, if_pos k3, if_pos k4]⟩
                        clear k1 k2 k3 k4
                        go_wp2_with (go_at_call 45; (with_reducible refine (HTQ.out _).mono ?_); rintro e w' ⟨rfl, rfl⟩)
                        go_roundw
                        case rel => exact RhO.mk (i + 1) (j + 1) n rfl rfl HB3 hr.out (by omega) (by omega) (by omega)
                        case measure =>
                          show a0.size - rhN _ + (a1.size - rhN _) < a0.size - rhN _ + (a1.size - rhN _)
                          simp only [rhN]
                          omega
                      · rw [decide_eq_false k4] at hcb2
                        have hr : Aside0 (r = -1) := ⟨by rw [← HV.out, HA.out, HQ.out]; simp only [rhHd, if_neg k1, if_neg k2, if_pos k3, if_neg k4]⟩
                        clear k1 k2 k3 k4
                        go_wp2_with (go_at_call 45; (with_reducible refine (HTQ.out _).mono ?_); rintro e w' ⟨rfl, rfl⟩)
                        go_ret
                        exact ⟨by rw [hr.out]; first | rfl | trivial, HB3.out⟩
                    · rw [decide_eq_false k3] at hca2
                      by_cases k4 : a1[j] = 94
                      · rw [decide_eq_true k4] at hcb2
                        have hr : Aside0 (r = 1) := ⟨by rw [← HV.out, HA.out, HQ.out]; simp only [rhHd, if_neg k1, if_neg k2, if_neg k3, if_pos k4]⟩
                        clear k1 k2 k3 k4
                        go_wp2_with (go_at_call 45; (with_reducible refine (HTQ.out _).mono ?_); rintro e w' ⟨rfl, rfl⟩)
                        go_ret
                        exact ⟨by rw [hr.out]; first | rfl | trivial, HB3.out⟩
                      · rw [decide_eq_false k4] at hcb2
                        cases hd : By.dg a0[i] with
                        | true =>
                          have HD : Aside0 (∀ W, Calls Tryd.prog 44 #[.int .i32 (a0[i].toNat : Int)] W fun e w' => e = .returned (.bool true) ∧ W = w') := ⟨fun W => (rh_isDig (a0[i].toNat : Int) W).mono fun e w' ⟨h1, h2⟩ => ⟨by rw [h1, rDig_b, hd], h2.symm⟩⟩
                          have ex : a0[i] :: (By.bl a0).drop (i + 1) = (By.bl a0).drop i := (List.drop_eq_getElem_cons _).symm
                          have ey : a1[j] :: (By.bl a1).drop (j + 1) = (By.bl a1).drop j := (List.drop_eq_getElem_cons _).symm
                          have HRUN : Aside0 ((if (((By.bl a1).drop j).takeWhile (rhCls true)).length = 0 then (if true = true then 1 else -1) else if rhRuns true (((By.bl a0).drop i).takeWhile (rhCls true)) (((By.bl a1).drop j).takeWhile (rhCls true)) ≠ 0 then rhRuns true (((By.bl a0).drop i).takeWhile (rhCls true)) (((By.bl a1).drop j).takeWhile (rhCls true)) else rhL n (((By.bl a0).drop i).dropWhile (rhCls true)) (((By.bl a1).drop j).dropWhile (rhCls true))) = r) := ⟨by
                            rw [← HV.out, HA.out, HQ.out]
                            simp only [rhHd, if_neg k1, if_neg k2, if_neg k3, if_neg k4, hd]
                            rw [ex, ey]⟩
                          have HC : Aside0 (rhCls true a0[i] = true) := ⟨by
                            have := HAt.out
                            unfold rhTrim at this
                            simp only [hd] at this
                            unfold rhCls
                            revert this
                            cases hl : By.lt a0[i] <;> simp [hd, k1, k3]⟩
                          have HF : Aside0 (∀ c W, Calls Tryd.prog 44 #[.int .i32 c] W fun e w' => e = .returned (.bool (rDig c)) ∧ W = w') := ⟨fun c W => (rh_isDig c W).mono fun e w' ⟨h1, h2⟩ => ⟨h1, h2.symm⟩⟩
                          clear ex ey k1 k2 k3 k4 hd HV HA HQ HAt HQt
                          obtain ⟨WS, hWS⟩ : ∃ WS : World, WS = ((wr.alloc (.cells #[.pointer none, .slice none 0 0] 71)).alloc (.cells #[.pointer none, .slice none 0 0] 71)).iter (a0.extract i a0.size) 0 := ⟨_, rfl⟩
                          have HWS := Aside0.mk hWS
                          have HSF := Aside0.mk (ws_facts w.heap.size w wr WS _ HB3.out HB3.out.size hWS)
                          clear hWS
                          go_upto_block 6 with (first | (go_at_call 45; (with_reducible refine (HTQ.out _).mono ?_); rintro e w' ⟨rfl, rfl⟩) | (go_at_call 44; (with_reducible refine (HD.out _).mono ?_); rintro e w' ⟨rfl, rfl⟩))
                          rw [← HWS.out]
                          have HBW : Aside0 (w.heap.size ≤ wr.heap.size) := ⟨HB3.out.size⟩
                          clear HWS HD HTQ HB3
                          obtain ⟨b, hb⟩ : ∃ b, b = wr.heap.size := ⟨_, rfl⟩
                          rw [← hb]
                          rw [← hb] at HSF HBW
                          clear hb
                          go_cut [5] (fun v5 wc => RunE a0 i (rhCls true) w.heap.size w b (b + 2) (b + 3) WS v5 wc)
                          case first =>
                            go_wp2_with fail
                            go_loopw [5] (fun v5 wi => RunI a0 i (rhCls true) w.heap.size w b (b + 2) (b + 3) WS v5 wi) (fun v5 wi => a0.size - rhN v5)
                            case atStart => exact ⟨0, rfl, by omega, ⟨rfl⟩, ⟨HSF.out.2.2.1⟩, ⟨HSF.out.1⟩, ⟨HSF.out.2.2.2.1⟩, ⟨fun _ _ _ _ => rfl⟩, ⟨by rw [HSF.out.2.2.2.2]; exact Nat.le_refl _⟩⟩
                            case round =>
                              obtain ⟨t, rfl, ht, G1, G2, G3, G4, G5, G6⟩ := hrel
                              by_cases hlt : i + t < a0.size
                              · cases hq : rhCls true a0[i + t] with
                                | true =>
                                  have hlow : a0[i + t].toNat < 128 := dg_low hq
                                  have hnx := rh_nextA a0 i t hlt hlow wr (b + 2) G2.out
                                  have HFC : Aside0 (∀ W, Calls Tryd.prog 44 #[.int .i32 (a0[i + t].toNat : Int)] W fun e w' => e = .returned (.bool true) ∧ W = w') := ⟨fun W => by have := HF.out (a0[i + t].toNat : Int) W; rw [rDig_b, show By.dg a0[i + t] = true from hq] at this; exact this⟩
                                  have J2 : Aside0 (RItAt (wr.iterAt (b + 2) (a0.extract i a0.size) (t + 1)) (b + 2) (a0.extract i a0.size) (t + 1)) := ⟨Lib.iterAt_heap wr (b + 2) _ t _ G2.out⟩
                                  have J3 : Aside0 (BX b (b + 3) (Lib.byteCells (((By.bl a0).drop i).take t)) (wr.iterAt (b + 2) (a0.extract i a0.size) (t + 1))) := ⟨G3.out.iterAt G2.out (by omega) _⟩
                                  have J4 : Aside0 (Below w.heap.size w (wr.iterAt (b + 2) (a0.extract i a0.size) (t + 1))) := ⟨Lib.below_iterAt G4.out (by have := HBW.out; omega) _ _⟩
                                  have J5 : Aside0 (FrR b (b + 2) (b + 3) WS (wr.iterAt (b + 2) (a0.extract i a0.size) (t + 1))) := ⟨fun k e1 e2 e3 => (Lib.iterAt_other wr (b + 2) k _ _ e3).trans (G5.out k e1 e2 e3)⟩
                                  have J6 : Aside0 (b + 3 ≤ (wr.iterAt (b + 2) (a0.extract i a0.size) (t + 1)).heap.size) := ⟨by rw [Lib.iterAt_size]; exact G6.out⟩
                                  have HW := Aside0.mk (writeRune2 b (b + 3) (Lib.byteCells (((By.bl a0).drop i).take t)) a0[i + t].toNat hlow _ J3.out (by rw [Lib.byteCells_length, List.length_take, List.length_drop, By.bl_length]; omega) J6.out)
                                  have HQ2 := Aside0.mk hq
                                  clear hq hlow G2 G3 G4 G5 G6
                                  go_wp2_with (first | (go_at_call 44; (with_reducible refine (HFC.out _).mono ?_); rintro e w' ⟨rfl, rfl⟩) | (go_at_call 47; (with_reducible refine HW.out.mono ?_)))
                                  rintro e w2 ⟨rfl, hbx, hbl, hfr⟩
                                  have HR := Aside0.mk (RunI.step (v := .int .i64 ((i + (t + 1) : Nat) : Int)) t (fun _ => trivial) hlt G1 HQ2.out rfl J2.out hbx J4.out hbl HBW.out J5.out hfr (by omega) (by omega) J6.out)
                                  clear hbx hbl hfr HW J2 J3 J4 J5 J6 HFC hnx
                                  go_wp2_with fail
                                  go_roundw
                                  case rel => exact HR.out
                                  case measure =>
                                    show a0.size - rhN _ < a0.size - rhN _
                                    simp only [rhN]
                                    omega
                                | false =>
                                  have hcq : rDig (a0[i + t].toNat : Int) = false := by rw [rDig_b]; exact hq
                                  obtain ⟨c, pos', hcc, hnx⟩ := rh_nextN rDig rDig_high a0 i t hlt hcq wr (b + 2) G2.out
                                  have HFC : Aside0 (∀ W, Calls Tryd.prog 44 #[.int .i32 c] W fun e w' => e = .returned (.bool false) ∧ W = w') := ⟨fun W => by have := HF.out c W; rw [hcc] at this; exact this⟩
                                  have HR : Aside0 (RunE a0 i (rhCls true) w.heap.size w b (b + 2) (b + 3) WS (.int .i64 ((i + t : Nat) : Int)) (wr.iterAt (b + 2) (a0.extract i a0.size) pos')) := ⟨RunI.done t rfl ht G1 (.inr ⟨hlt, hq⟩) ⟨G3.out.iterAt G2.out (by omega) _⟩ ⟨Lib.below_iterAt G4.out (by have := HBW.out; omega) _ _⟩ ⟨fun k e1 e2 e3 => (Lib.iterAt_other wr (b + 2) k _ _ e3).trans (G5.out k e1 e2 e3)⟩ ⟨by rw [Lib.iterAt_size]; exact G6.out⟩⟩
                                  clear hq hcq hcc G2 G3 G4 G5 G6
                                  go_wp2_with (go_at_call 44; (with_reducible refine (HFC.out _).mono ?_); rintro e w' ⟨rfl, rfl⟩)
                                  go_meet
                                  exact HR.out
                              · have hnx := rh_nextZ a0 i t (by omega) wr (b + 2) G2.out
                                have HR : Aside0 (RunE a0 i (rhCls true) w.heap.size w b (b + 2) (b + 3) WS (.int .i64 ((i + t : Nat) : Int)) wr) := ⟨RunI.done t rfl ht G1 (.inl (by omega)) G3 G4 G5 G6⟩
                                clear G2 G3 G4 G5 G6
                                go_wp2_with fail
                                go_meet
                                exact HR.out
                          case rest =>
                            obtain ⟨t, rfl, ht, HX, G3, G4, G5, G6⟩ := hcut
                            obtain ⟨wA, rfl⟩ : ∃ wA : World, wA = wc := ⟨_, rfl⟩
                            obtain ⟨iT, hiT⟩ : ∃ m, m = i + t := ⟨_, rfl⟩
                            rw [← hiT]
                            have q1 : iT ≤ i + t := by omega
                            have q2 : i + t ≤ iT := by omega
                            have HIT := Aside0.mk hiT
                            clear hiT
                            obtain ⟨WT, hWT⟩ : ∃ WT : World, WT = wA.iter (a1.extract j a1.size) 0 := ⟨_, rfl⟩
                            have HWT := Aside0.mk hWT
                            have HTF := Aside0.mk (ws_iter w.heap.size w wA WT _ G4.out G4.out.size hWT)
                            have hbc : b + 3 ≤ wA.heap.size := G6.out
                            have H14 : Aside0 (wA.heap[b + 1]? = some (.cells #[.pointer none, .slice none 0 0] 71 (0, 0))) := ⟨(G5.out (b + 1) (by omega) (by omega) (by omega)).trans HSF.out.2.1⟩
                            clear hWT
                            go_upto_block 8 with fail
                            rw [← HWT.out]
                            clear HWT HSF G5 G6
                            obtain ⟨c, hc⟩ : ∃ c, c = wA.heap.size := ⟨_, rfl⟩
                            rw [← hc]
                            rw [← hc] at hbc HTF
                            have HCZ := Aside0.mk hc
                            clear hc
                            go_cut [6] (fun v6 wd => RunE a1 j (rhCls true) w.heap.size w (b + 1) c (c + 1) WT v6 wd)
                            case first =>
                              go_wp2_with fail
                              go_loopw [6] (fun v6 wi => RunI a1 j (rhCls true) w.heap.size w (b + 1) c (c + 1) WT v6 wi) (fun v6 wi => a1.size - rhN v6)
                              case atStart => exact ⟨0, rfl, by omega, ⟨rfl⟩, ⟨HTF.out.1⟩, ⟨⟨.pointer none, .slice none 0 0, .inl rfl, (HTF.out.2.2.2 (b + 1) (by omega)).trans H14.out, World.ownsRowF_nil _ _ _ _, by omega⟩⟩, ⟨HTF.out.2.1⟩, ⟨fun _ _ _ _ => rfl⟩, ⟨by rw [HTF.out.2.2.1]; exact Nat.le_refl _⟩⟩
                              case round =>
                                clear G3 G4
                                obtain ⟨t', rfl, ht', G1, G2, G3, G4, G5, G6⟩ := hrel
                                by_cases hlt : j + t' < a1.size
                                · cases hq : rhCls true a1[j + t'] with
                                  | true =>
                                    have hlow : a1[j + t'].toNat < 128 := dg_low hq
                                    have hnx := rh_nextA a1 j t' hlt hlow wr c G2.out
                                    have HFC : Aside0 (∀ W, Calls Tryd.prog 44 #[.int .i32 (a1[j + t'].toNat : Int)] W fun e w' => e = .returned (.bool true) ∧ W = w') := ⟨fun W => by have := HF.out (a1[j + t'].toNat : Int) W; rw [rDig_b, show By.dg a1[j + t'] = true from hq] at this; exact this⟩
                                    have J2 : Aside0 (RItAt (wr.iterAt c (a1.extract j a1.size) (t' + 1)) c (a1.extract j a1.size) (t' + 1)) := ⟨Lib.iterAt_heap wr c _ t' _ G2.out⟩
                                    have J3 : Aside0 (BX (b + 1) (c + 1) (Lib.byteCells (((By.bl a1).drop j).take t')) (wr.iterAt c (a1.extract j a1.size) (t' + 1))) := ⟨G3.out.iterAt G2.out (by omega) _⟩
                                    have J4 : Aside0 (Below w.heap.size w (wr.iterAt c (a1.extract j a1.size) (t' + 1))) := ⟨Lib.below_iterAt G4.out (by have := HBW.out; omega) _ _⟩
                                    have J5 : Aside0 (FrR (b + 1) c (c + 1) WT (wr.iterAt c (a1.extract j a1.size) (t' + 1))) := ⟨fun k e1 e2 e3 => (Lib.iterAt_other wr c k _ _ e3).trans (G5.out k e1 e2 e3)⟩
                                    have J6 : Aside0 (c + 1 ≤ (wr.iterAt c (a1.extract j a1.size) (t' + 1)).heap.size) := ⟨by rw [Lib.iterAt_size]; exact G6.out⟩
                                    have HW := Aside0.mk (writeRune2 (b + 1) (c + 1) (Lib.byteCells (((By.bl a1).drop j).take t')) a1[j + t'].toNat hlow _ J3.out (by rw [Lib.byteCells_length, List.length_take, List.length_drop, By.bl_length]; omega) J6.out)
                                    have HQ2 := Aside0.mk hq
                                    clear hq hlow G2 G3 G4 G5 G6
                                    go_wp2_with (first | (go_at_call 44; (with_reducible refine (HFC.out _).mono ?_); rintro e w' ⟨rfl, rfl⟩) | (go_at_call 47; (with_reducible refine HW.out.mono ?_)))
                                    rintro e w2 ⟨rfl, hbx, hbl, hfr⟩
                                    have HR := Aside0.mk (RunI.step (v := .int .i64 ((j + (t' + 1) : Nat) : Int)) t' (fun _ => trivial) hlt G1 HQ2.out rfl J2.out hbx J4.out hbl (by have := HBW.out; omega) J5.out hfr (by omega) (by omega) J6.out)
                                    clear hbx hbl hfr HW J2 J3 J4 J5 J6 HFC hnx
                                    go_wp2_with fail
                                    go_roundw
                                    case rel => exact HR.out
                                    case measure =>
                                      show a1.size - rhN _ < a1.size - rhN _
                                      simp only [rhN]
                                      omega
                                  | false =>
                                    have hcq : rDig (a1[j + t'].toNat : Int) = false := by rw [rDig_b]; exact hq
                                    obtain ⟨z, pos', hcc, hnx⟩ := rh_nextN rDig rDig_high a1 j t' hlt hcq wr c G2.out
                                    have HFC : Aside0 (∀ W, Calls Tryd.prog 44 #[.int .i32 z] W fun e w' => e = .returned (.bool false) ∧ W = w') := ⟨fun W => by have := HF.out z W; rw [hcc] at this; exact this⟩
                                    have HR : Aside0 (RunE a1 j (rhCls true) w.heap.size w (b + 1) c (c + 1) WT (.int .i64 ((j + t' : Nat) : Int)) (wr.iterAt c (a1.extract j a1.size) pos')) := ⟨RunI.done t' rfl ht' G1 (.inr ⟨hlt, hq⟩) ⟨G3.out.iterAt G2.out (by omega) _⟩ ⟨Lib.below_iterAt G4.out (by have := HBW.out; omega) _ _⟩ ⟨fun k e1 e2 e3 => (Lib.iterAt_other wr c k _ _ e3).trans (G5.out k e1 e2 e3)⟩ ⟨by rw [Lib.iterAt_size]; exact G6.out⟩⟩
                                    clear hq hcq hcc G2 G3 G4 G5 G6
                                    go_wp2_with (go_at_call 44; (with_reducible refine (HFC.out _).mono ?_); rintro e w' ⟨rfl, rfl⟩)
                                    go_meet
                                    exact HR.out
                                · have hnx := rh_nextZ a1 j t' (by omega) wr c G2.out
                                  have HR : Aside0 (RunE a1 j (rhCls true) w.heap.size w (b + 1) c (c + 1) WT (.int .i64 ((j + t' : Nat) : Int)) wr) := ⟨RunI.done t' rfl ht' G1 (.inl (by omega)) G3 G4 G5 G6⟩
                                  clear G2 G3 G4 G5 G6
                                  go_wp2_with fail
                                  go_meet
                                  exact HR.out
                            case rest =>
                              obtain ⟨t2, rfl, ht2, HY, K3, K4, K5, K6⟩ := hcut
                              obtain ⟨wB, rfl⟩ : ∃ wB : World, wB = wc := ⟨_, rfl⟩
                              obtain ⟨jT, hjT⟩ : ∃ m, m = j + t2 := ⟨_, rfl⟩
                              rw [← hjT]
                              have q3 : jT ≤ j + t2 := by omega
                              have q4 : j + t2 ≤ jT := by omega
                              have HJT := Aside0.mk hjT
                              clear hjT
                              have hold : Aside0 (∀ k, k < c → k ≠ b + 1 → wB.heap[k]? = wA.heap[k]?) := ⟨fun k k1 k2 => (K5.out k (by omega) k2 (by omega)).trans (HTF.out.2.2.2 k k1)⟩
                              have B13 : Aside0 (BX b (b + 3) (Lib.byteCells (((By.bl a0).drop i).take t)) wB) := ⟨G3.out.move (hold.out b (by omega) (by omega)) (fun g g1 g2 _ => hold.out g (by have := HCZ.out; omega) (by omega))⟩
                              have HN13 : Aside0 (∀ p v, wB.heap[b]? = some (.cells #[p, v] 71 (0, 0)) → ∀ g, v.ownBlock = some g → g < c) := ⟨fun p v h g hg => by
                                have := G3.out.ltg p v ((hold.out b (by omega) (by omega)).symm.trans h) g hg
                                have := HCZ.out
                                omega⟩
                              obtain ⟨hXe, hXd⟩ := HX.out
                              obtain ⟨hYe, hYd⟩ := HY.out
                              have HRUN2 := HRUN.out
                              rw [hXe, hYe, hXd, hYd, ← HIT.out, ← HJT.out] at HRUN2
                              have hX1 := run_first a0 i t hi hXe HC.out
                              have hXl := run_low (q := rhCls true) (fun c h => dg_low h) _ t hXe
                              have hYl := run_low (q := rhCls true) (fun c h => dg_low h) _ t2 hYe
                              have hXn := run_len (By.bl a0) i t (by rw [By.bl_length]; exact ht)
                              have hYn := run_len (By.bl a1) j t2 (by rw [By.bl_length]; exact ht2)
                              obtain ⟨X, hX⟩ : ∃ X, X = ((By.bl a0).drop i).take t := ⟨_, rfl⟩
                              obtain ⟨Y, hY⟩ : ∃ Y, Y = ((By.bl a1).drop j).take t2 := ⟨_, rfl⟩
                              rw [← hX] at B13 HRUN2 hX1 hXl hXn
                              rw [← hY] at K3 HRUN2 hYl hYn
                              have HXL := Aside0.mk hXl
                              have HYL := Aside0.mk hYl
                              have HXN := Aside0.mk hXn
                              have HYN := Aside0.mk hYn
                              have ht1 : 1 ≤ t := hX1.1
                              have HX0 := Aside0.mk hX1.2
                              have HR3 := Aside0.mk HRUN2
                              clear hXe hXd hYe hYd HRUN2 hX1 hXl hYl hXn hYn hX hY HX HY HRUN HC G3 G4 hold HTF H14 K5
                              have HL : Aside0 (∀ W, W = wB → Calls Tryd.prog 48 #[.pointer (some ⟨b + 1, 0, none⟩)] W fun e w' => e = .returned (.int .i64 (Y.length : Int)) ∧ W = w') := ⟨fun W hW => by
                                subst hW
                                exact (Tryd.Builder_Len_f (b + 1) (b + 1) _ W K3.out.is).mono fun e w' ⟨h1, h2⟩ => ⟨by rw [h1, Lib.byteCells_length], h2.symm⟩⟩
                              by_cases hY0 : Y.length = 0
                              · have hr : Aside0 (r = 1) := ⟨by
                                  have := HR3.out
                                  rw [if_pos hY0] at this
                                  simpa using this.symm⟩
                                rw [hY0] at HL
                                go_wp2_with (go_at_call 48; (with_reducible refine (HL.out _ rfl).mono ?_); rintro e w' ⟨rfl, rfl⟩)
                                go_ret
                                exact ⟨by rw [hr.out]; first | rfl | trivial, K4.out⟩
                              · have hyz : ((Y.length : Int) == 0) = false := beq_eq_false_iff_ne.2 (by omega)
                                have hyz2 : (Y.length == 0) = false := beq_eq_false_iff_ne.2 hY0
                                have HR4 : Aside0 ((if rhRuns true X Y ≠ 0 then rhRuns true X Y else rhL n ((By.bl a0).drop iT) ((By.bl a1).drop jT)) = r) := ⟨by
                                  have := HR3.out
                                  rwa [if_neg hY0] at this⟩
                                have HS1 : Aside0 _ := Aside0.mk (string3 b (b + 3) c X wB B13.out HX0.out HN13.out)
                                clear HR3 HX0 HN13 B13 hY0
                                go_wp2_with (first | (go_at_call 48; (with_reducible refine (HL.out _ rfl).mono ?_); rintro e w' ⟨rfl, rfl⟩) | (go_at_call 49; (with_reducible refine HS1.out.mono ?_)))
                                rintro e w5 ⟨rfl, g, g1, g2, g3, g4, g5⟩
                                have B14 : Aside0 (BX (b + 1) (c + 1) (Lib.byteCells Y) w5) := ⟨K3.out.move (g5 (b + 1) (by omega)) (fun k k1 _ _ => g5 k (by omega))⟩
                                have K4' : Aside0 (Below w.heap.size w w5) := ⟨K4.out.trans (g4.mono (by have := HBW.out; omega))⟩
                                have HS2 : Aside0 _ := Aside0.mk (string3 (b + 1) (c + 1) w5.heap.size Y w5 B14.out (fun e => by subst e; simp at hyz) B14.out.ltg)
                                clear g1 g2 g3 g4 g5 HS1 HL hyz hyz2 K3 K4
                                go_wp2_with (go_at_call 49; (with_reducible refine HS2.out.mono ?_))
                                rintro e w6 ⟨rfl, g', g1, g2, g3, g4, g5⟩
                                have K6' : Aside0 (Below w.heap.size w w6) := ⟨K4'.out.trans (g4.mono (by have := HBW.out; omega))⟩
                                clear g1 g2 g3 g4 g5 HS2 B14 K4' K6 HCZ hbc HF
                                have HT1 := Aside0.mk (fun W => rh_trimLeft X HXL.out (by have := HXN.out; omega) W)
                                have HT2 := Aside0.mk (fun W => rh_trimLeft Y HYL.out (by have := HYN.out; omega) W)
                                go_wp2_with (go_at_call 50; (with_reducible refine (HT1.out _).mono ?_))
                                rintro e w7 ⟨rfl, hb7⟩
                                have K7 : Aside0 (Below w.heap.size w w7) := ⟨K6'.out.trans (hb7.mono K6'.out.size)⟩
                                clear hb7 HT1
                                go_wp2_with (go_at_call 50; (with_reducible refine (HT2.out _).mono ?_))
                                rintro e w8 ⟨rfl, hb8⟩
                                have K8 : Aside0 (Below w.heap.size w w8) := ⟨K7.out.trans (hb8.mono K7.out.size)⟩
                                clear hb8 HT2 K7 K6'
                                obtain ⟨P, hP⟩ : ∃ P, P = rhZ X := ⟨_, rfl⟩
                                obtain ⟨Q, hQ⟩ : ∃ Q, Q = rhZ Y := ⟨_, rfl⟩
                                rw [← hP, ← hQ]
                                have HR5 : Aside0 ((if (if Q.length < P.length then (1 : Int) else if P.length < Q.length then -1 else Lib.compareBytes P Q) ≠ 0 then (if Q.length < P.length then (1 : Int) else if P.length < Q.length then -1 else Lib.compareBytes P Q) else rhL n ((By.bl a0).drop iT) ((By.bl a1).drop jT)) = r) := ⟨by
                                  have := HR4.out
                                  simp only [rhRuns, if_true, ← hP, ← hQ] at this
                                  exact this⟩
                                have sP := By.ofL_size P
                                have sQ := By.ofL_size Q
                                clear hP hQ HR4
                                by_cases hg : Q.length < P.length
                                · have f1 : decide ((By.ofL Q).size < (By.ofL P).size) = true := decide_eq_true (by omega)
                                  have f2 : decide (((By.ofL Q).size : Int) < ((By.ofL P).size : Int)) = true := decide_eq_true (by omega)
                                  have hr : Aside0 (r = 1) := ⟨by have := HR5.out; rw [if_pos hg] at this; simpa using this.symm⟩
                                  clear sP sQ hg HR5
                                  go_wp2_with (go_at_call 45; (with_reducible refine (HTQ.out _).mono ?_); rintro e w' ⟨rfl, rfl⟩)
                                  go_ret
                                  exact ⟨by rw [hr.out]; first | rfl | trivial, K8.out⟩
                                · have f1 : decide ((By.ofL Q).size < (By.ofL P).size) = false := decide_eq_false (by omega)
                                  have f2 : decide (((By.ofL Q).size : Int) < ((By.ofL P).size : Int)) = false := decide_eq_false (by omega)
                                  by_cases hg2 : P.length < Q.length
                                  · have f3 : decide ((By.ofL P).size < (By.ofL Q).size) = true := decide_eq_true (by omega)
                                    have f4 : decide (((By.ofL P).size : Int) < ((By.ofL Q).size : Int)) = true := decide_eq_true (by omega)
                                    have hr : Aside0 (r = -1) := ⟨by have := HR5.out; rw [if_neg hg, if_pos hg2] at this; simpa using this.symm⟩
                                    clear sP sQ hg hg2 HR5
                                    go_wp2_with (go_at_call 45; (with_reducible refine (HTQ.out _).mono ?_); rintro e w' ⟨rfl, rfl⟩)
                                    go_ret
                                    exact ⟨by rw [hr.out]; first | rfl | trivial, K8.out⟩
                                  · have f3 : decide ((By.ofL P).size < (By.ofL Q).size) = false := decide_eq_false (by omega)
                                    have f4 : decide (((By.ofL P).size : Int) < ((By.ofL Q).size : Int)) = false := decide_eq_false (by omega)
                                    obtain ⟨x, hx⟩ : ∃ x, x = Lib.compareBytes P Q := ⟨_, rfl⟩
                                    have HR6 : Aside0 ((if x ≠ 0 then x else rhL n ((By.bl a0).drop iT) ((By.bl a1).drop jT)) = r) := ⟨by have := HR5.out; rw [if_neg hg, if_neg hg2, ← hx] at this; exact this⟩
                                    have HCMP : Aside0 (∀ W, Calls Tryd.prog 51 #[.string (By.ofL P), .string (By.ofL Q)] W fun e w' => e = .returned (.int .i64 x) ∧ W = w') := ⟨fun W => (Tryd.strings_Compare (By.ofL P) (By.ofL Q) W).mono fun e w' ⟨h1, h2⟩ => ⟨by rw [h1, hx]; rfl, h2.symm⟩⟩
                                    clear sP sQ hg hg2 HR5 hx
                                    by_cases hx0 : x = 0
                                    · have tz : (x != 0) = false := bne_eq_false_iff_eq.2 hx0
                                      have hr : Aside0 (rhL n ((By.bl a0).drop iT) ((By.bl a1).drop jT) = r) := ⟨by have := HR6.out; rwa [if_neg (by simpa using hx0)] at this⟩
                                      clear hx0 HR6
                                      go_wp2_with (go_at_call 51; (with_reducible refine (HCMP.out _).mono ?_); rintro e w' ⟨rfl, rfl⟩)
                                      go_roundw
                                      case rel => exact RhO.mk iT jT n rfl rfl K8 hr.out (by omega) (by omega) (by omega)
                                      case measure =>
                                        show a0.size - rhN _ + (a1.size - rhN _) < a0.size - rhN _ + (a1.size - rhN _)
                                        simp only [rhN]
                                        omega
                                    · have tz : (x != 0) = true := bne_iff_ne.2 hx0
                                      have hr : Aside0 (x = r) := ⟨by have := HR6.out; rwa [if_pos hx0] at this⟩
                                      clear hx0 HR6
                                      go_wp2_with (go_at_call 51; (with_reducible refine (HCMP.out _).mono ?_); rintro e w' ⟨rfl, rfl⟩)
                                      go_ret
                                      exact ⟨by rw [hr.out]; first | rfl | trivial, K8.out⟩
                        | false =>
                          have HD : Aside0 (∀ W, Calls Tryd.prog 44 #[.int .i32 (a0[i].toNat : Int)] W fun e w' => e = .returned (.bool false) ∧ W = w') := ⟨fun W => (rh_isDig (a0[i].toNat : Int) W).mono fun e w' ⟨h1, h2⟩ => ⟨by rw [h1, rDig_b, hd], h2.symm⟩⟩
                          have ex : a0[i] :: (By.bl a0).drop (i + 1) = (By.bl a0).drop i := (List.drop_eq_getElem_cons _).symm
                          have ey : a1[j] :: (By.bl a1).drop (j + 1) = (By.bl a1).drop j := (List.drop_eq_getElem_cons _).symm
                          have HRUN : Aside0 ((if (((By.bl a1).drop j).takeWhile (rhCls false)).length = 0 then (if false = true then 1 else -1) else if rhRuns false (((By.bl a0).drop i).takeWhile (rhCls false)) (((By.bl a1).drop j).takeWhile (rhCls false)) ≠ 0 then rhRuns false (((By.bl a0).drop i).takeWhile (rhCls false)) (((By.bl a1).drop j).takeWhile (rhCls false)) else rhL n (((By.bl a0).drop i).dropWhile (rhCls false)) (((By.bl a1).drop j).dropWhile (rhCls false))) = r) := ⟨by
                            rw [← HV.out, HA.out, HQ.out]
                            simp only [rhHd, if_neg k1, if_neg k2, if_neg k3, if_neg k4, hd]
                            rw [ex, ey]⟩
                          have HC : Aside0 (rhCls false a0[i] = true) := ⟨by
                            have := HAt.out
                            unfold rhTrim at this
                            simp only [hd] at this
                            unfold rhCls
                            revert this
                            cases hl : By.lt a0[i] <;> simp [hd, k1, k3]⟩
                          have HF : Aside0 (∀ c W, Calls Tryd.prog 46 #[.int .i32 c] W fun e w' => e = .returned (.bool (rLet c)) ∧ W = w') := ⟨fun c W => (rh_isLet c W).mono fun e w' ⟨h1, h2⟩ => ⟨h1, h2.symm⟩⟩
                          clear ex ey k1 k2 k3 k4 hd HV HA HQ HAt HQt
                          obtain ⟨WS, hWS⟩ : ∃ WS : World, WS = ((wr.alloc (.cells #[.pointer none, .slice none 0 0] 71)).alloc (.cells #[.pointer none, .slice none 0 0] 71)).iter (a0.extract i a0.size) 0 := ⟨_, rfl⟩
                          have HWS := Aside0.mk hWS
                          have HSF := Aside0.mk (ws_facts w.heap.size w wr WS _ HB3.out HB3.out.size hWS)
                          clear hWS
                          go_upto_block 6 with (first | (go_at_call 45; (with_reducible refine (HTQ.out _).mono ?_); rintro e w' ⟨rfl, rfl⟩) | (go_at_call 44; (with_reducible refine (HD.out _).mono ?_); rintro e w' ⟨rfl, rfl⟩))
                          rw [← HWS.out]
                          have HBW : Aside0 (w.heap.size ≤ wr.heap.size) := ⟨HB3.out.size⟩
                          clear HWS HD HTQ HB3
                          obtain ⟨b, hb⟩ : ∃ b, b = wr.heap.size := ⟨_, rfl⟩
                          rw [← hb]
                          rw [← hb] at HSF HBW
                          clear hb
                          go_cut [5] (fun v5 wc => RunE a0 i (rhCls false) w.heap.size w b (b + 2) (b + 3) WS v5 wc)
                          case first =>
                            go_wp2_with fail
                            go_loopw [5] (fun v5 wi => RunI a0 i (rhCls false) w.heap.size w b (b + 2) (b + 3) WS v5 wi) (fun v5 wi => a0.size - rhN v5)
                            case atStart => exact ⟨0, rfl, by omega, ⟨rfl⟩, ⟨HSF.out.2.2.1⟩, ⟨HSF.out.1⟩, ⟨HSF.out.2.2.2.1⟩, ⟨fun _ _ _ _ => rfl⟩, ⟨by rw [HSF.out.2.2.2.2]; exact Nat.le_refl _⟩⟩
                            case round =>
                              obtain ⟨t, rfl, ht, G1, G2, G3, G4, G5, G6⟩ := hrel
                              by_cases hlt : i + t < a0.size
                              · cases hq : rhCls false a0[i + t] with
                                | true =>
                                  have hlow : a0[i + t].toNat < 128 := lt_low hq
                                  have hnx := rh_nextA a0 i t hlt hlow wr (b + 2) G2.out
                                  have HFC : Aside0 (∀ W, Calls Tryd.prog 46 #[.int .i32 (a0[i + t].toNat : Int)] W fun e w' => e = .returned (.bool true) ∧ W = w') := ⟨fun W => by have := HF.out (a0[i + t].toNat : Int) W; rw [rLet_b, show By.lt a0[i + t] = true from hq] at this; exact this⟩
                                  have J2 : Aside0 (RItAt (wr.iterAt (b + 2) (a0.extract i a0.size) (t + 1)) (b + 2) (a0.extract i a0.size) (t + 1)) := ⟨Lib.iterAt_heap wr (b + 2) _ t _ G2.out⟩
                                  have J3 : Aside0 (BX b (b + 3) (Lib.byteCells (((By.bl a0).drop i).take t)) (wr.iterAt (b + 2) (a0.extract i a0.size) (t + 1))) := ⟨G3.out.iterAt G2.out (by omega) _⟩
                                  have J4 : Aside0 (Below w.heap.size w (wr.iterAt (b + 2) (a0.extract i a0.size) (t + 1))) := ⟨Lib.below_iterAt G4.out (by have := HBW.out; omega) _ _⟩
                                  have J5 : Aside0 (FrR b (b + 2) (b + 3) WS (wr.iterAt (b + 2) (a0.extract i a0.size) (t + 1))) := ⟨fun k e1 e2 e3 => (Lib.iterAt_other wr (b + 2) k _ _ e3).trans (G5.out k e1 e2 e3)⟩
                                  have J6 : Aside0 (b + 3 ≤ (wr.iterAt (b + 2) (a0.extract i a0.size) (t + 1)).heap.size) := ⟨by rw [Lib.iterAt_size]; exact G6.out⟩
                                  have HW := Aside0.mk (writeRune2 b (b + 3) (Lib.byteCells (((By.bl a0).drop i).take t)) a0[i + t].toNat hlow _ J3.out (by rw [Lib.byteCells_length, List.length_take, List.length_drop, By.bl_length]; omega) J6.out)
                                  have HQ2 := Aside0.mk hq
                                  clear hq hlow G2 G3 G4 G5 G6
                                  go_wp2_with (first | (go_at_call 46; (with_reducible refine (HFC.out _).mono ?_); rintro e w' ⟨rfl, rfl⟩) | (go_at_call 47; (with_reducible refine HW.out.mono ?_)))
                                  rintro e w2 ⟨rfl, hbx, hbl, hfr⟩
                                  have HR := Aside0.mk (RunI.step (v := .int .i64 ((i + (t + 1) : Nat) : Int)) t (fun _ => trivial) hlt G1 HQ2.out rfl J2.out hbx J4.out hbl HBW.out J5.out hfr (by omega) (by omega) J6.out)
                                  clear hbx hbl hfr HW J2 J3 J4 J5 J6 HFC hnx
                                  go_wp2_with fail
                                  go_roundw
                                  case rel => exact HR.out
                                  case measure =>
                                    show a0.size - rhN _ < a0.size - rhN _
                                    simp only [rhN]
                                    omega
                                | false =>
                                  have hcq : rLet (a0[i + t].toNat : Int) = false := by rw [rLet_b]; exact hq
                                  obtain ⟨c, pos', hcc, hnx⟩ := rh_nextN rLet rLet_high a0 i t hlt hcq wr (b + 2) G2.out
                                  have HFC : Aside0 (∀ W, Calls Tryd.prog 46 #[.int .i32 c] W fun e w' => e = .returned (.bool false) ∧ W = w') := ⟨fun W => by have := HF.out c W; rw [hcc] at this; exact this⟩
                                  have HR : Aside0 (RunE a0 i (rhCls false) w.heap.size w b (b + 2) (b + 3) WS (.int .i64 ((i + t : Nat) : Int)) (wr.iterAt (b + 2) (a0.extract i a0.size) pos')) := ⟨RunI.done t rfl ht G1 (.inr ⟨hlt, hq⟩) ⟨G3.out.iterAt G2.out (by omega) _⟩ ⟨Lib.below_iterAt G4.out (by have := HBW.out; omega) _ _⟩ ⟨fun k e1 e2 e3 => (Lib.iterAt_other wr (b + 2) k _ _ e3).trans (G5.out k e1 e2 e3)⟩ ⟨by rw [Lib.iterAt_size]; exact G6.out⟩⟩
                                  clear hq hcq hcc G2 G3 G4 G5 G6
                                  go_wp2_with (go_at_call 46; (with_reducible refine (HFC.out _).mono ?_); rintro e w' ⟨rfl, rfl⟩)
                                  go_meet
                                  exact HR.out
                              · have hnx := rh_nextZ a0 i t (by omega) wr (b + 2) G2.out
                                have HR : Aside0 (RunE a0 i (rhCls false) w.heap.size w b (b + 2) (b + 3) WS (.int .i64 ((i + t : Nat) : Int)) wr) := ⟨RunI.done t rfl ht G1 (.inl (by omega)) G3 G4 G5 G6⟩
                                clear G2 G3 G4 G5 G6
                                go_wp2_with fail
                                go_meet
                                exact HR.out
                          case rest =>
                            obtain ⟨t, rfl, ht, HX, G3, G4, G5, G6⟩ := hcut
                            obtain ⟨wA, rfl⟩ : ∃ wA : World, wA = wc := ⟨_, rfl⟩
                            obtain ⟨iT, hiT⟩ : ∃ m, m = i + t := ⟨_, rfl⟩
                            rw [← hiT]
                            have q1 : iT ≤ i + t := by omega
                            have q2 : i + t ≤ iT := by omega
                            have HIT := Aside0.mk hiT
                            clear hiT
                            obtain ⟨WT, hWT⟩ : ∃ WT : World, WT = wA.iter (a1.extract j a1.size) 0 := ⟨_, rfl⟩
                            have HWT := Aside0.mk hWT
                            have HTF := Aside0.mk (ws_iter w.heap.size w wA WT _ G4.out G4.out.size hWT)
                            have hbc : b + 3 ≤ wA.heap.size := G6.out
                            have H14 : Aside0 (wA.heap[b + 1]? = some (.cells #[.pointer none, .slice none 0 0] 71 (0, 0))) := ⟨(G5.out (b + 1) (by omega) (by omega) (by omega)).trans HSF.out.2.1⟩
                            clear hWT
                            go_upto_block 8 with fail
                            rw [← HWT.out]
                            clear HWT HSF G5 G6
                            obtain ⟨c, hc⟩ : ∃ c, c = wA.heap.size := ⟨_, rfl⟩
                            rw [← hc]
                            rw [← hc] at hbc HTF
                            have HCZ := Aside0.mk hc
                            clear hc
                            go_cut [6] (fun v6 wd => RunE a1 j (rhCls false) w.heap.size w (b + 1) c (c + 1) WT v6 wd)
                            case first =>
                              go_wp2_with fail
                              go_loopw [6] (fun v6 wi => RunI a1 j (rhCls false) w.heap.size w (b + 1) c (c + 1) WT v6 wi) (fun v6 wi => a1.size - rhN v6)
                              case atStart => exact ⟨0, rfl, by omega, ⟨rfl⟩, ⟨HTF.out.1⟩, ⟨⟨.pointer none, .slice none 0 0, .inl rfl, (HTF.out.2.2.2 (b + 1) (by omega)).trans H14.out, World.ownsRowF_nil _ _ _ _, by omega⟩⟩, ⟨HTF.out.2.1⟩, ⟨fun _ _ _ _ => rfl⟩, ⟨by rw [HTF.out.2.2.1]; exact Nat.le_refl _⟩⟩
                              case round =>
                                clear G3 G4
                                obtain ⟨t', rfl, ht', G1, G2, G3, G4, G5, G6⟩ := hrel
                                by_cases hlt : j + t' < a1.size
                                · cases hq : rhCls false a1[j + t'] with
                                  | true =>
                                    have hlow : a1[j + t'].toNat < 128 := lt_low hq
                                    have hnx := rh_nextA a1 j t' hlt hlow wr c G2.out
                                    have HFC : Aside0 (∀ W, Calls Tryd.prog 46 #[.int .i32 (a1[j + t'].toNat : Int)] W fun e w' => e = .returned (.bool true) ∧ W = w') := ⟨fun W => by have := HF.out (a1[j + t'].toNat : Int) W; rw [rLet_b, show By.lt a1[j + t'] = true from hq] at this; exact this⟩
                                    have J2 : Aside0 (RItAt (wr.iterAt c (a1.extract j a1.size) (t' + 1)) c (a1.extract j a1.size) (t' + 1)) := ⟨Lib.iterAt_heap wr c _ t' _ G2.out⟩
                                    have J3 : Aside0 (BX (b + 1) (c + 1) (Lib.byteCells (((By.bl a1).drop j).take t')) (wr.iterAt c (a1.extract j a1.size) (t' + 1))) := ⟨G3.out.iterAt G2.out (by omega) _⟩
                                    have J4 : Aside0 (Below w.heap.size w (wr.iterAt c (a1.extract j a1.size) (t' + 1))) := ⟨Lib.below_iterAt G4.out (by have := HBW.out; omega) _ _⟩
                                    have J5 : Aside0 (FrR (b + 1) c (c + 1) WT (wr.iterAt c (a1.extract j a1.size) (t' + 1))) := ⟨fun k e1 e2 e3 => (Lib.iterAt_other wr c k _ _ e3).trans (G5.out k e1 e2 e3)⟩
                                    have J6 : Aside0 (c + 1 ≤ (wr.iterAt c (a1.extract j a1.size) (t' + 1)).heap.size) := ⟨by rw [Lib.iterAt_size]; exact G6.out⟩
                                    have HW := Aside0.mk (writeRune2 (b + 1) (c + 1) (Lib.byteCells (((By.bl a1).drop j).take t')) a1[j + t'].toNat hlow _ J3.out (by rw [Lib.byteCells_length, List.length_take, List.length_drop, By.bl_length]; omega) J6.out)
                                    have HQ2 := Aside0.mk hq
                                    clear hq hlow G2 G3 G4 G5 G6
                                    go_wp2_with (first | (go_at_call 46; (with_reducible refine (HFC.out _).mono ?_); rintro e w' ⟨rfl, rfl⟩) | (go_at_call 47; (with_reducible refine HW.out.mono ?_)))
                                    rintro e w2 ⟨rfl, hbx, hbl, hfr⟩
                                    have HR := Aside0.mk (RunI.step (v := .int .i64 ((j + (t' + 1) : Nat) : Int)) t' (fun _ => trivial) hlt G1 HQ2.out rfl J2.out hbx J4.out hbl (by have := HBW.out; omega) J5.out hfr (by omega) (by omega) J6.out)
                                    clear hbx hbl hfr HW J2 J3 J4 J5 J6 HFC hnx
                                    go_wp2_with fail
                                    go_roundw
                                    case rel => exact HR.out
                                    case measure =>
                                      show a1.size - rhN _ < a1.size - rhN _
                                      simp only [rhN]
                                      omega
                                  | false =>
                                    have hcq : rLet (a1[j + t'].toNat : Int) = false := by rw [rLet_b]; exact hq
                                    obtain ⟨z, pos', hcc, hnx⟩ := rh_nextN rLet rLet_high a1 j t' hlt hcq wr c G2.out
                                    have HFC : Aside0 (∀ W, Calls Tryd.prog 46 #[.int .i32 z] W fun e w' => e = .returned (.bool false) ∧ W = w') := ⟨fun W => by have := HF.out z W; rw [hcc] at this; exact this⟩
                                    have HR : Aside0 (RunE a1 j (rhCls false) w.heap.size w (b + 1) c (c + 1) WT (.int .i64 ((j + t' : Nat) : Int)) (wr.iterAt c (a1.extract j a1.size) pos')) := ⟨RunI.done t' rfl ht' G1 (.inr ⟨hlt, hq⟩) ⟨G3.out.iterAt G2.out (by omega) _⟩ ⟨Lib.below_iterAt G4.out (by have := HBW.out; omega) _ _⟩ ⟨fun k e1 e2 e3 => (Lib.iterAt_other wr c k _ _ e3).trans (G5.out k e1 e2 e3)⟩ ⟨by rw [Lib.iterAt_size]; exact G6.out⟩⟩
                                    clear hq hcq hcc G2 G3 G4 G5 G6
                                    go_wp2_with (go_at_call 46; (with_reducible refine (HFC.out _).mono ?_); rintro e w' ⟨rfl, rfl⟩)
                                    go_meet
                                    exact HR.out
                                · have hnx := rh_nextZ a1 j t' (by omega) wr c G2.out
                                  have HR : Aside0 (RunE a1 j (rhCls false) w.heap.size w (b + 1) c (c + 1) WT (.int .i64 ((j + t' : Nat) : Int)) wr) := ⟨RunI.done t' rfl ht' G1 (.inl (by omega)) G3 G4 G5 G6⟩
                                  clear G2 G3 G4 G5 G6
                                  go_wp2_with fail
                                  go_meet
                                  exact HR.out
                            case rest =>
                              obtain ⟨t2, rfl, ht2, HY, K3, K4, K5, K6⟩ := hcut
                              obtain ⟨wB, rfl⟩ : ∃ wB : World, wB = wc := ⟨_, rfl⟩
                              obtain ⟨jT, hjT⟩ : ∃ m, m = j + t2 := ⟨_, rfl⟩
                              rw [← hjT]
                              have q3 : jT ≤ j + t2 := by omega
                              have q4 : j + t2 ≤ jT := by omega
                              have HJT := Aside0.mk hjT
                              clear hjT
                              have hold : Aside0 (∀ k, k < c → k ≠ b + 1 → wB.heap[k]? = wA.heap[k]?) := ⟨fun k k1 k2 => (K5.out k (by omega) k2 (by omega)).trans (HTF.out.2.2.2 k k1)⟩
                              have B13 : Aside0 (BX b (b + 3) (Lib.byteCells (((By.bl a0).drop i).take t)) wB) := ⟨G3.out.move (hold.out b (by omega) (by omega)) (fun g g1 g2 _ => hold.out g (by have := HCZ.out; omega) (by omega))⟩
                              have HN13 : Aside0 (∀ p v, wB.heap[b]? = some (.cells #[p, v] 71 (0, 0)) → ∀ g, v.ownBlock = some g → g < c) := ⟨fun p v h g hg => by
                                have := G3.out.ltg p v ((hold.out b (by omega) (by omega)).symm.trans h) g hg
                                have := HCZ.out
                                omega⟩
                              obtain ⟨hXe, hXd⟩ := HX.out
                              obtain ⟨hYe, hYd⟩ := HY.out
                              have HRUN2 := HRUN.out
                              rw [hXe, hYe, hXd, hYd, ← HIT.out, ← HJT.out] at HRUN2
                              have hX1 := run_first a0 i t hi hXe HC.out
                              have hXl := run_low (q := rhCls false) (fun c h => lt_low h) _ t hXe
                              have hYl := run_low (q := rhCls false) (fun c h => lt_low h) _ t2 hYe
                              have hXn := run_len (By.bl a0) i t (by rw [By.bl_length]; exact ht)
                              have hYn := run_len (By.bl a1) j t2 (by rw [By.bl_length]; exact ht2)
                              obtain ⟨X, hX⟩ : ∃ X, X = ((By.bl a0).drop i).take t := ⟨_, rfl⟩
                              obtain ⟨Y, hY⟩ : ∃ Y, Y = ((By.bl a1).drop j).take t2 := ⟨_, rfl⟩
                              rw [← hX] at B13 HRUN2 hX1 hXl hXn
                              rw [← hY] at K3 HRUN2 hYl hYn
                              have HXL := Aside0.mk hXl
                              have HYL := Aside0.mk hYl
                              have HXN := Aside0.mk hXn
                              have HYN := Aside0.mk hYn
                              have ht1 : 1 ≤ t := hX1.1
                              have HX0 := Aside0.mk hX1.2
                              have HR3 := Aside0.mk HRUN2
                              clear hXe hXd hYe hYd HRUN2 hX1 hXl hYl hXn hYn hX hY HX HY HRUN HC G3 G4 hold HTF H14 K5
                              have HL : Aside0 (∀ W, W = wB → Calls Tryd.prog 48 #[.pointer (some ⟨b + 1, 0, none⟩)] W fun e w' => e = .returned (.int .i64 (Y.length : Int)) ∧ W = w') := ⟨fun W hW => by
                                subst hW
                                exact (Tryd.Builder_Len_f (b + 1) (b + 1) _ W K3.out.is).mono fun e w' ⟨h1, h2⟩ => ⟨by rw [h1, Lib.byteCells_length], h2.symm⟩⟩
                              by_cases hY0 : Y.length = 0
                              · have hr : Aside0 (r = -1) := ⟨by
                                  have := HR3.out
                                  rw [if_pos hY0] at this
                                  simpa using this.symm⟩
                                rw [hY0] at HL
                                go_wp2_with (go_at_call 48; (with_reducible refine (HL.out _ rfl).mono ?_); rintro e w' ⟨rfl, rfl⟩)
                                go_ret
                                exact ⟨by rw [hr.out]; first | rfl | trivial, K4.out⟩
                              · have hyz : ((Y.length : Int) == 0) = false := beq_eq_false_iff_ne.2 (by omega)
                                have hyz2 : (Y.length == 0) = false := beq_eq_false_iff_ne.2 hY0
                                have HR4 : Aside0 ((if rhRuns false X Y ≠ 0 then rhRuns false X Y else rhL n ((By.bl a0).drop iT) ((By.bl a1).drop jT)) = r) := ⟨by
                                  have := HR3.out
                                  rwa [if_neg hY0] at this⟩
                                have HS1 : Aside0 _ := Aside0.mk (string3 b (b + 3) c X wB B13.out HX0.out HN13.out)
                                clear HR3 HX0 HN13 B13 hY0
                                go_wp2_with (first | (go_at_call 48; (with_reducible refine (HL.out _ rfl).mono ?_); rintro e w' ⟨rfl, rfl⟩) | (go_at_call 49; (with_reducible refine HS1.out.mono ?_)))
                                rintro e w5 ⟨rfl, g, g1, g2, g3, g4, g5⟩
                                have B14 : Aside0 (BX (b + 1) (c + 1) (Lib.byteCells Y) w5) := ⟨K3.out.move (g5 (b + 1) (by omega)) (fun k k1 _ _ => g5 k (by omega))⟩
                                have K4' : Aside0 (Below w.heap.size w w5) := ⟨K4.out.trans (g4.mono (by have := HBW.out; omega))⟩
                                have HS2 : Aside0 _ := Aside0.mk (string3 (b + 1) (c + 1) w5.heap.size Y w5 B14.out (fun e => by subst e; simp at hyz) B14.out.ltg)
                                clear g1 g2 g3 g4 g5 HS1 HL hyz hyz2 K3 K4
                                go_wp2_with (go_at_call 49; (with_reducible refine HS2.out.mono ?_))
                                rintro e w6 ⟨rfl, g', g1, g2, g3, g4, g5⟩
                                have K6' : Aside0 (Below w.heap.size w w6) := ⟨K4'.out.trans (g4.mono (by have := HBW.out; omega))⟩
                                clear g1 g2 g3 g4 g5 HS2 B14 K4' K6 HCZ hbc HF
                                have K8 := K6'
                                clear K6'
                                obtain ⟨x, hx⟩ : ∃ x, x = Lib.compareBytes X Y := ⟨_, rfl⟩
                                have HR6 : Aside0 ((if x ≠ 0 then x else rhL n ((By.bl a0).drop iT) ((By.bl a1).drop jT)) = r) := ⟨by
                                  have := HR4.out
                                  simp only [rhRuns, Bool.false_eq_true, if_false, ← hx] at this
                                  exact this⟩
                                have HCMP : Aside0 (∀ W, Calls Tryd.prog 51 #[.string (By.ofL X), .string (By.ofL Y)] W fun e w' => e = .returned (.int .i64 x) ∧ W = w') := ⟨fun W => (Tryd.strings_Compare (By.ofL X) (By.ofL Y) W).mono fun e w' ⟨h1, h2⟩ => ⟨by rw [h1, hx]; rfl, h2.symm⟩⟩
                                clear HR4 hx
                                by_cases hx0 : x = 0
                                · have tz : (x != 0) = false := bne_eq_false_iff_eq.2 hx0
                                  have hr : Aside0 (rhL n ((By.bl a0).drop iT) ((By.bl a1).drop jT) = r) := ⟨by have := HR6.out; rwa [if_neg (by simpa using hx0)] at this⟩
                                  clear hx0 HR6
                                  go_wp2_with (go_at_call 51; (with_reducible refine (HCMP.out _).mono ?_); rintro e w' ⟨rfl, rfl⟩)
                                  go_roundw
                                  case rel => exact RhO.mk iT jT n rfl rfl K8 hr.out (by omega) (by omega) (by omega)
                                  case measure =>
                                    show a0.size - rhN _ + (a1.size - rhN _) < a0.size - rhN _ + (a1.size - rhN _)
                                    simp only [rhN]
                                    omega
                                · have tz : (x != 0) = true := bne_iff_ne.2 hx0
                                  have hr : Aside0 (x = r) := ⟨by have := HR6.out; rwa [if_pos hx0] at this⟩
                                  clear hx0 HR6
                                  go_wp2_with (go_at_call 51; (with_reducible refine (HCMP.out _).mono ?_); rintro e w' ⟨rfl, rfl⟩)
                                  go_ret
                                  exact ⟨by rw [hr.out]; first | rfl | trivial, K8.out⟩
            · obtain rfl : j = a1.size := by omega
              have HQ : Aside0 (rhSkip ((By.bl a1).drop j0) = []) := ⟨by have := rh_end (By.bl a1); rw [By.bl_length] at this; exact HV3.out.symm.trans this⟩
              clear HV3
              have hca := t126 a0[i]
              have hca2 := t94 a0[i]
              have hia : ((i : Int) == (a0.size : Int)) = false := beq_eq_false_iff_ne.2 (by omega)
              have hib : (i == a0.size) = false := beq_eq_false_iff_ne.2 (by omega)
              by_cases k1 : a0[i] = 126
              · rw [decide_eq_true k1] at hca
                have hr : Aside0 (r = -1) := ⟨by rw [← HV.out, HA.out, HQ.out]; simp only [rhHd, if_pos k1]⟩
                clear k1 hca2
                go_wp2
                go_ret
                exact ⟨by rw [hr.out]; first | rfl | trivial, HB3.out⟩
              · rw [decide_eq_false k1] at hca
                by_cases k2 : a0[i] = 94
                · rw [decide_eq_true k2] at hca2
                  have hr : Aside0 (r = 1) := ⟨by rw [← HV.out, HA.out, HQ.out]; simp only [rhHd, if_neg k1, if_pos k2]⟩
                  clear k1 k2
                  go_wp2
                  go_ret
                  exact ⟨by rw [hr.out]; first | rfl | trivial, HB3.out⟩
                · rw [decide_eq_false k2] at hca2
                  have hr : Aside0 (r = 1) := ⟨by rw [← HV.out, HA.out, HQ.out]; simp only [rhHd, if_neg k1, if_neg k2]⟩
                  have hl1 : decide ((a0.size : Int) - (i : Int) < 0) = false := decide_eq_false (by omega)
                  have hl2 : decide ((0 : Int) < (a0.size : Int) - (i : Int)) = true := decide_eq_true (by omega)
                  clear k1 k2
                  go_wp2
                  go_ret
                  exact ⟨by rw [hr.out]; first | rfl | trivial, HB3.out⟩
      · obtain rfl : i = a0.size := by omega
        have HA : Aside0 (rhSkip ((By.bl a0).drop i0) = []) := ⟨by have := rh_end (By.bl a0); rw [By.bl_length] at this; exact HV1.out.symm.trans this⟩
        clear HV1
        go_wp2
        go_loopw [6] (fun v6 wi => RhI a1 w.heap.size w j0 v6 wi) (fun v6 wi => a1.size - rhN v6)
        case atStart => exact RhI.mk j0 rfl HB1 rfl (Nat.le_refl _) hj0
        case round =>
          obtain ⟨j, rfl, HB3, HV3, hj1, hj2⟩ := hrel
          clear HB1
          by_cases hj : j < a1.size
          · have hjd : decide ((j : Int) < (a1.size : Int)) = true := decide_eq_true (by omega)
            obtain ⟨b, hb⟩ : ∃ b, b = rhTrim a1[j] := ⟨_, rfl⟩
            have HT : Aside0 (∀ W, Calls Tryd.prog 45 #[.int .i32 (a1[j].toNat : Int)] W fun e w' => e = .returned (.bool b) ∧ W = w') := ⟨fun W => by rw [hb]; exact (rh_trim _ W).mono fun e w' ⟨h1, h2⟩ => ⟨h1, h2.symm⟩⟩
            cases b with
            | true =>
              have hsk := Aside0.mk (rh_go (By.bl a1) j (by rw [By.bl_length]; exact hj) hb.symm)
              clear hb
              go_wp2_with (go_at_call 45; (with_reducible refine (HT.out _).mono ?_); rintro e w' ⟨rfl, rfl⟩)
              go_roundw
              case rel => exact RhI.mk (j + 1) rfl HB3 (by rw [← HV3.out, hsk.out]) (by omega) (by omega)
              case measure =>
                show a1.size - rhN _ < a1.size - rhN _
                simp only [rhN]
                omega
            | false =>
              have HQ : Aside0 (rhSkip ((By.bl a1).drop j0) = a1[j] :: (By.bl a1).drop (j + 1)) := ⟨HV3.out.symm.trans (rh_stop (By.bl a1) j (by rw [By.bl_length]; exact hj) hb.symm)⟩
              have HQt : Aside0 (rhTrim a1[j] = false) := ⟨hb.symm⟩
              clear hb HV3
              have HTQ := HT
              clear HT
              have hcb := t126 a1[j]
              have hcb2 := t94 a1[j]
              have hja : ((j : Int) == (a1.size : Int)) = false := beq_eq_false_iff_ne.2 (by omega)
              have hjb : (j == a1.size) = false := beq_eq_false_iff_ne.2 (by omega)
              by_cases k1 : a1[j] = 126
              · rw [decide_eq_true k1] at hcb
                have hr : Aside0 (r = 1) := ⟨by rw [← HV.out, HA.out, HQ.out]; simp only [rhHd, if_pos k1]⟩
                clear k1 hcb2
                go_wp2_with (go_at_call 45; (with_reducible refine (HTQ.out _).mono ?_); rintro e w' ⟨rfl, rfl⟩)
                go_ret
                exact ⟨by rw [hr.out]; first | rfl | trivial, HB3.out⟩
              · rw [decide_eq_false k1] at hcb
                by_cases k2 : a1[j] = 94
                · rw [decide_eq_true k2] at hcb2
                  have hr : Aside0 (r = -1) := ⟨by rw [← HV.out, HA.out, HQ.out]; simp only [rhHd, if_neg k1, if_pos k2]⟩
                  clear k1 k2
                  go_wp2_with (go_at_call 45; (with_reducible refine (HTQ.out _).mono ?_); rintro e w' ⟨rfl, rfl⟩)
                  go_ret
                  exact ⟨by rw [hr.out]; first | rfl | trivial, HB3.out⟩
                · rw [decide_eq_false k2] at hcb2
                  have hr : Aside0 (r = -1) := ⟨by rw [← HV.out, HA.out, HQ.out]; simp only [rhHd, if_neg k1, if_neg k2]⟩
                  have hl1 : decide ((a1.size : Int) - (j : Int) < 0) = false := decide_eq_false (by omega)
                  have hl2 : decide ((0 : Int) < (a1.size : Int) - (j : Int)) = true := decide_eq_true (by omega)
                  clear k1 k2
                  go_wp2_with (go_at_call 45; (with_reducible refine (HTQ.out _).mono ?_); rintro e w' ⟨rfl, rfl⟩)
                  go_ret
                  exact ⟨by rw [hr.out]; first | rfl | trivial, HB3.out⟩
          · obtain rfl : j = a1.size := by omega
            have HQ : Aside0 (rhSkip ((By.bl a1).drop j0) = []) := ⟨by have := rh_end (By.bl a1); rw [By.bl_length] at this; exact HV3.out.symm.trans this⟩
            clear HV3
            have hr : Aside0 (r = 0) := ⟨by rw [← HV.out, HA.out, HQ.out]; rfl⟩
            go_wp2
            go_ret
            exact ⟨by rw [hr.out]; first | rfl | trivial, HB3.out⟩
theorem tl_empty (a : ByteArray) (h : a.size = 0) : a.toList = [] := by rw [By.toList_bl]; exact List.length_eq_zero_iff.1 ((By.bl_length a).trans h)
theorem tl_some (a : ByteArray) (h : ¬ a.size = 0) : ¬ a.toList = [] := fun e => h (by rw [← By.bl_length, ← By.toList_bl, e]; rfl)
set_option maxHeartbeats 8000000 in
set_option maxRecDepth 100000 in
theorem rh_none (a0 a1 : ByteArray) (w : World) (hA : a0.size = 0) (hB : a1.size = 0) :
    Calls Tryd.prog 38 #[.string a0, .string a1] w fun e w' => e = .returned (.int .i64 0) ∧ Below w.heap.size w w' := by
  have ta : (a0.toList = []) = True := eq_true (tl_empty a0 hA)
  have tb : (a1.toList = []) = True := eq_true (tl_empty a1 hB)
  have ta2 : a0.toList.isEmpty = true := by rw [tl_empty a0 hA]; rfl
  have tb2 : a1.toList.isEmpty = true := by rw [tl_empty a1 hB]; rfl
  go_enter Tryd.func38, Tryd.ntmps38
  go_wp2
  go_loopw [5, 6] (fun v5 v6 wr => v5 = .int .i64 0 ∧ v6 = .int .i64 0 ∧ Aside0 (Below w.heap.size w wr)) (fun v5 v6 wr => 0)
  case atStart => exact ⟨rfl, rfl, ⟨Below.refl _ _⟩⟩
  case round =>
    obtain ⟨rfl, rfl, HB⟩ := hrel
    go_wp2
    go_loopw [5] (fun v5 wi => v5 = .int .i64 0 ∧ Aside0 (Below w.heap.size w wi)) (fun v5 wi => 0)
    case atStart => exact ⟨rfl, HB⟩
    case round =>
      obtain ⟨rfl, HB1⟩ := hrel
      clear HB
      go_wp2
      go_loopw [6] (fun v6 wi => v6 = .int .i64 0 ∧ Aside0 (Below w.heap.size w wi)) (fun v6 wi => 0)
      case atStart => exact ⟨rfl, HB1⟩
      case round =>
        obtain ⟨rfl, HB2⟩ := hrel
        clear HB1
        go_wp2
        go_ret
        exact ⟨rfl, HB2.out⟩
set_option maxHeartbeats 4000000 in
set_option maxRecDepth 100000 in
theorem semantic_compareRedHatComponents.calls (a0 a1 : ByteArray) (r : Int) (w : World) (h : semantic_compareRedHatComponents.f a0 a1 = some r) :
    Calls Tryd.prog 38 #[.string a0, .string a1] w fun e w' => e = .returned (.int .i64 r) ∧ Below w.heap.size w w' := by
  obtain ⟨hs0, hs1, hr⟩ : a0.size ≤ 140737488351 ∧ a1.size ≤ 140737488351 ∧ r = rhTop (By.bl a0) (By.bl a1) := by
    unfold semantic_compareRedHatComponents.f at h
    split at h
    · rename_i hc
      simp only [Bool.and_eq_true, decide_eq_true_eq] at hc
      exact ⟨hc.1, hc.2, (Option.some.inj h).symm⟩
    · cases h
  have la := By.bl_length a0
  have lb := By.bl_length a1
  by_cases hA : a0.size = 0
  · by_cases hB : a1.size = 0
    · have e : r = 0 := by
        rw [hr, rhTop, if_neg (by omega), if_neg (by omega), List.length_eq_zero_iff.1 (la.trans hA), List.length_eq_zero_iff.1 (lb.trans hB)]
        rfl
      rw [e]
      exact rh_none a0 a1 w hA hB
    · have e : r = -1 := by rw [hr, rhTop, if_pos (by omega)]
      subst e
      have ta : (a0.toList = []) = True := eq_true (tl_empty a0 hA)
      have tb : (a1.toList = []) = False := eq_false (tl_some a1 hB)
      have ta2 : a0.toList.isEmpty = true := by rw [tl_empty a0 hA]; rfl
      have tb2 : a1.toList.isEmpty = false := by
        cases h : a1.toList.isEmpty with
        | false => rfl
        | true => exact absurd (List.isEmpty_iff.1 h) (tl_some a1 hB)
      clear h hr
      go_enter Tryd.func38, Tryd.ntmps38
      go_wp2
      go_ret
      exact ⟨rfl, Below.refl _ _⟩
  · have ta : (a0.toList = []) = False := eq_false (tl_some a0 hA)
    have ta2 : a0.toList.isEmpty = false := by
      cases h : a0.toList.isEmpty with
      | false => rfl
      | true => exact absurd (List.isEmpty_iff.1 h) (tl_some a0 hA)
    by_cases hB : a1.size = 0
    · have e : r = 1 := by rw [hr, rhTop, if_neg (by omega), if_pos (by omega)]
      subst e
      have tb : (a1.toList = []) = True := eq_true (tl_empty a1 hB)
      have tb2 : a1.toList.isEmpty = true := by rw [tl_empty a1 hB]; rfl
      clear h hr
      go_enter Tryd.func38, Tryd.ntmps38
      go_wp2
      go_ret
      exact ⟨rfl, Below.refl _ _⟩
    · have tb : (a1.toList = []) = False := eq_false (tl_some a1 hB)
      have tb2 : a1.toList.isEmpty = false := by
        cases h : a1.toList.isEmpty with
        | false => rfl
        | true => exact absurd (List.isEmpty_iff.1 h) (tl_some a1 hB)
      exact rh_main a0 a1 r w hs0 hs1 hA hB ta2 tb2 ⟨by rw [hr, rhTop, if_neg (by omega), if_neg (by omega), la, lb]⟩ ta tb

end Go.Proofs.YtciojhhncfnagaaDoor.Z
