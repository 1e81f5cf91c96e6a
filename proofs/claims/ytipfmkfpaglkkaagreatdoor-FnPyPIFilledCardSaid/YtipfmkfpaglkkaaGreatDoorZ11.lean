-- Written by a program of this session (myprint.py).
import Derived.Test.YtipfmkfpaglkkaaGreatDoorZ0
import Derived.Test.YtipfmkfpaglkkaaGreatDoorZ10
import Derived.Test.YtipfmkfpaglkkaaGreatDoorBg
import Derived.Test.YtipfmkfpaglkkaaGreatDoorBn
import Derived.Test.YtipfmkfpaglkkaaGreatDoorEv
import Derived.Lib.Builder
import Derived.LaidEqlPtr
import Derived.Test.YtipfmkfpaglkkaaGreatDoorGe
namespace Go.Proofs.YtipfmkfpaglkkaaGreatDoor.Z
open Go.Proofs.YtipfmkfpaglkkaaGreatDoor.Gw
open Go.RowKit Go.Proofs.YtipfmkfpaglkkaaGreatDoorW.PrintWords Go.Proofs.YtipfmkfpaglkkaaGreatDoorW.PrintLast Go.Proofs.YtipfmkfpaglkkaaGreatDoorW.PrintMore
attribute [local go_sem high] Go.Proofs.YtipfmkfpaglkkaaGreatDoor.Ge.gtr_str
attribute [local go_sem] max2_int min2_int max_two min_two max_three min_three max_four min_four   -- for this text's walks alone
set_option linter.unusedVariables false
set_option linter.unusedSimpArgs false

-- PLUGGED bigall_Int_Cmp: function 60 (a text of this session)
theorem bgc_rd (a : List Int) (i : Nat) (h : i < a.length) : rd a (i : Int) = a[i] := by
 rw [Evs.rd_nat, List.getD_eq_getElem?_getD, List.getElem?_eq_getElem h]
 rfl
theorem bgc_j2 (a b : List Int) (ha : Big.okW a) (hb : Big.okW b) (i : Nat) (h : i < a.length) (h' : i < b.length) (he : a.drop (i + 1) = b.drop (i + 1)) (hz : a.length = b.length) (heq : a[i] = b[i] → i = 0) : Ev (fun k => bigall_nat_cmp.j2 k a b 0 (i : Int)) (Bn.cmpZ (Big.natW a) (Big.natW b)) := by
 refine Ev.step (fun _ => by rw [bigall_nat_cmp.j2, bgc_rd a i h, bgc_rd b i h']) (Evs.ev_pos (by omega) (Evs.ev_pos (by omega) (Evs.ev_pos (by omega) ?_)))
 by_cases h1 : a[i] < b[i]
 ·have := Bn.natW_at a b ha.1 hb.1 i h h' he h1
  refine Evs.ev_pos h1 (Evs.ev_now ?_)
  rw [Bn.cmpZ, if_pos this]
 ·refine Evs.ev_neg h1 ?_
  by_cases h2 : b[i] < a[i]
  ·have := Bn.natW_at b a hb.1 ha.1 i h' h he.symm h2
   refine Evs.ev_pos h2 (Evs.ev_now ?_)
   rw [Bn.cmpZ, if_neg (by omega), if_pos this]
  ·refine Evs.ev_neg h2 (Evs.ev_now ?_)
   have e : a[i] = b[i] := by omega
   obtain rfl := heq e
   have : a = b := by
    have e1 := List.drop_eq_getElem_cons h
    have e2 := List.drop_eq_getElem_cons h'
    rw [List.drop_zero] at e1 e2
    rw [e1, e2, he, e]
   rw [this, Bn.cmpZ, if_neg (by omega), if_neg (by omega)]
theorem bgc_l0 (a b : List Int) (ha : Big.okW a) (hb : Big.okW b) (hz : a.length = b.length) (hl : a.length ≤ 9223372036854775807) : ∀ i : Nat, i < a.length → a.drop (i + 1) = b.drop (i + 1) → Ev (fun k => bigall_nat_cmp.l0 k a b 0 (i : Int)) (Bn.cmpZ (Big.natW a) (Big.natW b)) := by
 intro i
 induction i with
 | zero =>
  intro h he
  exact Ev.step (fun _ => by rw [bigall_nat_cmp.l0]) (Evs.ev_neg (by omega) (bgc_j2 a b ha hb 0 h (by omega) he hz (fun _ => rfl)))
 | succ i ih =>
  intro h he
  have h' : i + 1 < b.length := by omega
  have hw : wrap64 (((i + 1 : Nat) : Int) - 1) = (i : Int) := by rw [Evs.wrap_in (by omega) (by omega)]; omega
  refine Ev.step (fun _ => by rw [bigall_nat_cmp.l0, bgc_rd a (i + 1) h, bgc_rd b (i + 1) h', hw]) (Evs.ev_pos (by omega) (Evs.ev_pos (by omega) (Evs.ev_pos (by omega) (Evs.ev_pos (by omega) ?_))))
  by_cases e : a[i + 1] = b[i + 1]
  ·refine Evs.ev_pos e (ih (by omega) ?_)
   rw [List.drop_eq_getElem_cons h, List.drop_eq_getElem_cons h', he, e]
  ·exact Evs.ev_neg e (bgc_j2 a b ha hb (i + 1) h h' he hz (fun hh => absurd hh e))
theorem bgc_nat (a b : List Int) (ha : Big.okW a) (hb : Big.okW b) (hl : a.length ≤ 9223372036854775807) (hl' : b.length ≤ 9223372036854775807) : Ev (fun k => bigall_nat_cmp.f k a b) (Bn.cmpZ (Big.natW a) (Big.natW b)) := by
 unfold bigall_nat_cmp.f
 by_cases hz : a.length = b.length
 ·refine Evs.ev_pos (by omega) ?_
  by_cases h0 : a.length = 0
  ·have ea : a = [] := List.length_eq_zero_iff.1 h0
   have eb : b = [] := List.length_eq_zero_iff.1 (by omega)
   subst ea
   subst eb
   refine Ev.step (fun _ => by rw [bigall_nat_cmp.j0]) (Evs.ev_pos (by rfl) (Evs.ev_neg (by omega) (Evs.ev_neg (by omega) (Evs.ev_now ?_))))
   rfl
  ·have hb0 : ((a.length : Int) == 0) = false := beq_eq_false_iff_ne.2 (by omega)
   rw [hb0]
   have hw : wrap64 ((a.length : Int) - 1) = ((a.length - 1 : Nat) : Int) := by rw [Evs.wrap_in (by omega) (by omega)]; omega
   refine Ev.step (fun _ => by rw [bigall_nat_cmp.j0, hw]) (Evs.ev_neg (by decide) ?_)
   refine bgc_l0 a b ha hb hz hl (a.length - 1) (by omega) ?_
   rw [List.drop_of_length_le (by omega), List.drop_of_length_le (by omega)]
 ·refine Evs.ev_neg (by omega) (Ev.step (fun _ => by rw [bigall_nat_cmp.j0]) (Evs.ev_pos rfl ?_))
  by_cases h1 : a.length < b.length
  ·have := Bn.natW_len a b ha hb h1
   refine Evs.ev_pos (by omega) (Evs.ev_now ?_)
   rw [Bn.cmpZ, if_pos this]
  ·have := Bn.natW_len b a hb ha (by omega)
   refine Evs.ev_neg (by omega) (Evs.ev_pos (by omega) (Evs.ev_now ?_))
   rw [Bn.cmpZ, if_neg (by omega), if_pos this]
theorem bgc_calls (A : Option Addr) (c : Nat) (a : List Int) (A' : Option Addr) (c' : Nat) (b : List Int) (w : World) (hr : Kd.C (Kd.int .u64) w A a.length a) (hc : a.length ≤ c) (hr' : Kd.C (Kd.int .u64) w A' b.length b) (hc' : b.length ≤ c') (ha : Big.okW a) (hb : Big.okW b) (hl : a.length ≤ 9223372036854775807) (hl' : b.length ≤ 9223372036854775807) :
  Calls Tryz.prog 68 #[.slice A a.length c, .slice A' b.length c'] w fun e w' => e = .returned (.int .i64 (Bn.cmpZ (Big.natW a) (Big.natW b))) ∧ Drawn0 w w' := by
 obtain ⟨k, hk⟩ := bgc_nat a b ha hb hl hl'
 exact bigall_nat_cmp.calls k A c a A' c' b _ w hr hc hr' hc' (hk k (Nat.le_refl k))
theorem bgc_same (w : World) (A : Option Addr) : ∀ (n : Nat) (a b : List Int), Kd.C (Kd.int .u64) w A n a → Kd.C (Kd.int .u64) w A n b → a = b := by
 intro n a b h h'
 have e1 := Kd.C_len h
 have e2 := Kd.C_len h'
 refine List.ext_getElem (by omega) (fun i h1 h2 => ?_)
 obtain ⟨ad, e, hx⟩ := Kd.at_int h (i : Int) (by omega) (by omega)
 obtain ⟨ad', e', hx'⟩ := Kd.at_int h' (i : Int) (by omega) (by omega)
 rw [e] at e'
 obtain rfl := Option.some.inj e'
 rw [hx] at hx'
 rw [bgc_rd a i h1, bgc_rd b i h2] at hx'
 simpa using hx'
theorem bgc_infoI : (Tryz.prog.info? Big.TI).map (·.size) = some 2 := by kernel_rfl
set_option maxHeartbeats 4000000 in
theorem big_Cmp (v v' : Value) (z z' : Int) (w : World) (h : Big.At w z v) (h' : Big.At w z' v') :
  Calls Tryz.prog 60 #[v, v'] w fun e w' => e = .returned (.int .i64 (Bn.cmpZ z z')) ∧ Drawn0 w w' := by
 obtain ⟨o, A, c, neg, ws, rfl, q1, q2, q3, q4, q5, rfl⟩ := h
 obtain ⟨o', A', c', neg', ws', rfl, k1, k2, k3, k4, k5, rfl⟩ := h'
 obtain ⟨j, hj, hjs⟩ := Option.map_eq_some_iff.1 bgc_infoI
 by_cases ho : o = o'
 ·subst ho
  rw [q1] at k1
  have e := Option.some.inj k1
  have hval : Bn.cmpZ (Big.valW neg ws) (Big.valW neg' ws') = 0 := by
   simp at e
   obtain ⟨e1, e2, e3, e4⟩ := e
   subst e1
   subst e2
   rw [← e3] at k2
   rw [bgc_same w A _ _ _ q2 k2, Bn.cmpZ, if_neg (by omega), if_neg (by omega)]
  rw [hval]
  have hpe := run_eql_ptr_same (P := Tryz.prog) (w := w) ⟨o, 0, none⟩ Tryz.underlying44 hj
  clear q1 k1 hj hjs e q2 k2
  go_enter Tryz.func60, Tryz.ntmps60
  go_wp2
  go_ret
  exact ⟨rfl, Drawn0.refl _⟩
 ·have hpe := run_eql_ptr_other (P := Tryz.prog) (w := w) (a := ⟨o, 0, none⟩) (b := ⟨o', 0, none⟩) Tryz.underlying44 hj (by rw [hjs]; decide) (by intro e; exact ho (by injection e)) q1 k1
  have HN : Aside0 (∀ W, Drawn0 w W → Calls Tryz.prog 68 #[.slice A ws.length c, .slice A' ws'.length c'] W fun e w' => e = .returned (.int .i64 (Bn.cmpZ (Big.natW ws) (Big.natW ws'))) ∧ Drawn0 W w') := ⟨fun W hW => by
   obtain ⟨q, rfl⟩ := hW.out
   exact bgc_calls A c ws A' c' ws' _ (Kd.C_drewN q2 q) q3 (Kd.C_drewN k2 q) k3 q4 k4 (Kd.C_max q2) (Kd.C_max k2)⟩
  have d0 := (blk_cell q1 0).trans rfl
  have d1 := (blk_cell q1 1).trans rfl
  have e0 := (blk_cell k1 0).trans rfl
  have e1 := (blk_cell k1 1).trans rfl
  have n1 := Bn.natW_nonneg ws q4.1
  have n2 := Bn.natW_nonneg ws' k4.1
  have NP : neg = true → 1 ≤ Big.natW ws := fun h => by
   have := Bn.natW_len [] ws ⟨by simp, by simp⟩ q4 (by have := q5 h; cases ws with | nil => exact absurd rfl this | cons => simp)
   have e : Big.natW [] = 0 := rfl
   omega
  have NP' : neg' = true → 1 ≤ Big.natW ws' := fun h => by
   have := Bn.natW_len [] ws' ⟨by simp, by simp⟩ k4 (by have := k5 h; cases ws' with | nil => exact absurd rfl this | cons => simp)
   have e : Big.natW [] = 0 := rfl
   omega
  have V1 : neg = false → neg' = false → Bn.cmpZ (Big.natW ws) (Big.natW ws') = Bn.cmpZ (Big.valW neg ws) (Big.valW neg' ws') := fun h h' => by rw [h, h']; rfl
  have V2 : neg = true → neg' = true → -Bn.cmpZ (Big.natW ws) (Big.natW ws') = Bn.cmpZ (Big.valW neg ws) (Big.valW neg' ws') := fun h h' => by
   rw [h, h']
   unfold Bn.cmpZ Big.valW
   rw [if_pos rfl, if_pos rfl]
   repeat' split
   all_goals omega
  have V3 : neg = true → neg' = false → -1 = Bn.cmpZ (Big.valW neg ws) (Big.valW neg' ws') := fun h h' => by
   have := NP h
   rw [h, h']
   show -1 = Bn.cmpZ (-Big.natW ws) (Big.natW ws')
   unfold Bn.cmpZ
   rw [if_pos (by omega)]
  have V4 : neg = false → neg' = true → 1 = Bn.cmpZ (Big.valW neg ws) (Big.valW neg' ws') := fun h h' => by
   have := NP' h'
   rw [h, h']
   show 1 = Bn.cmpZ (Big.natW ws) (-Big.natW ws')
   unfold Bn.cmpZ
   rw [if_neg (by omega), if_pos (by omega)]
  have HV1 := Aside0.mk V1
  have HV2 := Aside0.mk V2
  have HV3 := Aside0.mk V3
  have HV4 := Aside0.mk V4
  obtain ⟨r, hr⟩ : ∃ r, r = Bn.cmpZ (Big.valW neg ws) (Big.valW neg' ws') := ⟨_, rfl⟩
  rw [← hr] at HV1 HV2 HV3 HV4
  rw [← hr]
  obtain ⟨x, hx⟩ : ∃ x, x = Bn.cmpZ (Big.natW ws) (Big.natW ws') := ⟨_, rfl⟩
  have hx1 : -1 ≤ x ∧ x ≤ 1 := by rw [hx]; unfold Bn.cmpZ; repeat' split <;> omega
  rw [← hx] at HV1 HV2 HN
  clear hr hx q1 q2 q3 q4 q5 k1 k2 k3 k4 k5 hj hjs n1 n2 NP NP' V1 V2 V3 V4
  cases neg with
  | false =>
   cases neg' with
   | false =>
    have HV := HV1.out rfl rfl
    subst HV
    go_enter Tryz.func60, Tryz.ntmps60
    go_wp2
    go_quiet (fail)
    try go_wp2
    go_quiet ((go_at_call 68; refine (HN.out _ (by first | exact Drawn0.refl _ | exact ⟨⟨_, rfl⟩⟩)).mono ?_; rintro e w' ⟨rfl, ⟨nd, rfl⟩⟩; (try first | exact ⟨rfl, _, World.drewN_drewN _ _ _⟩ | exact ⟨rfl, _, Eq.trans (World.drewN_drewN _ _ _) (congrArg (World.drewN _) (Nat.add_assoc _ _ _))⟩)))
    go_wp2
    go_ret
    exact ⟨rfl, ⟨⟨_, rfl⟩⟩⟩
   | true =>
    have HV := HV4.out rfl rfl
    subst HV
    go_enter Tryz.func60, Tryz.ntmps60
    go_wp2
    go_quiet (fail)
    go_wp2
    go_ret
    exact ⟨rfl, by repeat (first | exact Drawn0.refl _ | apply Drawn0.step)⟩
  | true =>
   cases neg' with
   | false =>
    have HV := HV3.out rfl rfl
    subst HV
    go_enter Tryz.func60, Tryz.ntmps60
    go_wp2
    go_quiet (fail)
    go_wp2
    go_ret
    exact ⟨rfl, by repeat (first | exact Drawn0.refl _ | apply Drawn0.step)⟩
   | true =>
    have HV := HV2.out rfl rfl
    subst HV
    go_enter Tryz.func60, Tryz.ntmps60
    go_wp2
    go_quiet (fail)
    try go_wp2
    go_quiet ((go_at_call 68; refine (HN.out _ (by first | exact Drawn0.refl _ | exact ⟨⟨_, rfl⟩⟩)).mono ?_; rintro e w' ⟨rfl, ⟨nd, rfl⟩⟩; (try first | exact ⟨rfl, _, World.drewN_drewN _ _ _⟩ | exact ⟨rfl, _, Eq.trans (World.drewN_drewN _ _ _) (congrArg (World.drewN _) (Nat.add_assoc _ _ _))⟩)))
    go_wp2
    go_ret
    exact ⟨rfl, ⟨⟨_, rfl⟩⟩⟩

end Go.Proofs.YtipfmkfpaglkkaaGreatDoor.Z
