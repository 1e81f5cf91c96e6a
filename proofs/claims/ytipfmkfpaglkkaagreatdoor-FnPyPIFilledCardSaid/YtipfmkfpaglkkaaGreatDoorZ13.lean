-- Written by a program of this session (myprint.py).
import Derived.Test.YtipfmkfpaglkkaaGreatDoorZ0
import Derived.Test.YtipfmkfpaglkkaaGreatDoorZ5
import Derived.Test.YtipfmkfpaglkkaaGreatDoorZ9
import Derived.Test.YtipfmkfpaglkkaaGreatDoorZ11
import Derived.Test.YtipfmkfpaglkkaaGreatDoorZ12
import Derived.Deep.MidRow
import Derived.Deep.CutBlock
import Derived.Deep.DeepCutAuto
import Derived.Deep.QuietTactic
import Derived.BigQuiet
import Derived.Test.YtipfmkfpaglkkaaGreatDoorSsC
import Derived.Test.YtipfmkfpaglkkaaGreatDoorShelf
import Derived.Test.YtipfmkfpaglkkaaGreatDoorBy
import Derived.Deep.RegionHeld3
import Derived.Test.YtipfmkfpaglkkaaGreatDoorBg
import Derived.Test.YtipfmkfpaglkkaaGreatDoorBn
import Derived.Test.YtipfmkfpaglkkaaGreatDoorGe
namespace Go.Proofs.YtipfmkfpaglkkaaGreatDoor.Z
open Go.Proofs.YtipfmkfpaglkkaaGreatDoor.Gw
open Go.RowKit Go.Proofs.YtipfmkfpaglkkaaGreatDoorW.PrintWords Go.Proofs.YtipfmkfpaglkkaaGreatDoorW.PrintLast Go.Proofs.YtipfmkfpaglkkaaGreatDoorW.PrintMore
attribute [local go_sem high] Go.Proofs.YtipfmkfpaglkkaaGreatDoor.Ge.gtr_str
attribute [local go_sem] max2_int min2_int max_two min_two max_three min_three max_four min_four   -- for this text's walks alone
set_option linter.unusedVariables false
set_option linter.unusedSimpArgs false

-- PLUGGED semantic_ZZPyPICompare: function 18 (a text of this session)
/-- The ten cells of a version, as a value. -/
theorem py_trick (pl ql dl : ByteArray) (eo po qo dq ra : Option Addr) (rn rc : Nat) (la ga : Option Addr) (ln lc gn gc : Nat) (w : World) :
  Calls Tryz.prog 64 #[.agg #[.pointer eo, .slice ra rn rc, .string pl, .pointer po, .string ql, .pointer qo, .string dl, .pointer dq, .slice la ln lc, .slice ga gn gc]] w fun e w' => e = .returned (.bool (po.isNone && qo.isNone && dq.isSome)) ∧ Below w.heap.size w w' := by
 obtain ⟨WA, hWA⟩ : ∃ WA : World, WA = w.alloc (.cells #[.pointer eo, .slice ra rn rc, .string pl, .pointer po, .string ql, .pointer qo, .string dl, .pointer dq, .slice la ln lc, .slice ga gn gc] 50) := ⟨_, rfl⟩
 have c1 : WA.heap[w.heap.size]? = some (.cells #[.pointer eo, .slice ra rn rc, .string pl, .pointer po, .string ql, .pointer qo, .string dl, .pointer dq, .slice la ln lc, .slice ga gn gc] 50 (0, 0)) := by rw [hWA]; exact blk_new w _
 have HB : Aside0 (Below w.heap.size w WA) := ⟨by rw [hWA]; exact (Below.refl _ w).alloc (Nat.le_refl _) _⟩
 have k3 : WA.cell? ⟨w.heap.size, 3, none⟩ = some (.pointer po) := (blk_cell c1 3).trans rfl
 have k5 : WA.cell? ⟨w.heap.size, 5, none⟩ = some (.pointer qo) := (blk_cell c1 5).trans rfl
 have k7 : WA.cell? ⟨w.heap.size, 7, none⟩ = some (.pointer dq) := (blk_cell c1 7).trans rfl
 have HWA := Aside0.mk hWA
 clear c1 hWA
 rcases po with _ | po <;> rcases qo with _ | qo <;> rcases dq with _ | dq
 all_goals
  go_enter Tryz.func64, Tryz.ntmps64
  go_upto_region 1 with fail
  rw [← HWA.out]
  go_wp2
  go_ret
  exact ⟨rfl, HB.out⟩
/-- What a version's pre-release is compared by. -/
def pyHd (s : ByteArray) : Int := ((By.bl s).headD 0).toNat
theorem b0_eq (s : ByteArray) (h : 0 < s.size) : pyHd s = ((s[0]'h).toNat : Int) := by
 have h1 : (By.bl s)[0]'(by rw [By.bl_length]; exact h) = s[0]'h := rfl
 unfold pyHd
 rw [List.headD_eq_head?_getD, List.head?_eq_getElem?, List.getElem?_eq_getElem (by rw [By.bl_length]; exact h), h1]
 rfl
def preC (po qo dq po' qo' dq' : Option Addr) (pl pl' : ByteArray) (z : Int) : Option Int :=
 if (po.isNone && qo.isNone && dq.isSome) = true then (if (po'.isNone && qo'.isNone && dq'.isSome) = true then some 0 else some (-1))
 else if (po'.isNone && qo'.isNone && dq'.isSome) = true then some 1
 else if po = none then (if po' = none then some 0 else some 1)
 else if po' = none then some (-1)
 else if pl.size = 0 ∨ pl'.size = 0 then none
 else if pyHd pl' < pyHd pl then some 1 else if pyHd pl < pyHd pl' then some (-1) else some z
set_option maxRecDepth 100000 in
set_option maxHeartbeats 4000000 in
theorem py_pre (pl ql dl : ByteArray) (eo po qo dq ra : Option Addr) (rn rc : Nat) (la ga : Option Addr) (ln lc gn gc : Nat) (pl' ql' dl' : ByteArray) (eo' po' qo' dq' ra' : Option Addr) (rn' rc' : Nat) (la' ga' : Option Addr) (ln' lc' gn' gc' : Nat) (z r : Int) (w : World)
  (hz : ∀ a a', po = some a → po' = some a' → ∀ W, Below w.heap.size w W → Calls Tryz.prog 60 #[.pointer (some a), .pointer (some a')] W fun e w' => e = .returned (.int .i64 z) ∧ Below W.heap.size W w')
  (h : preC po qo dq po' qo' dq' pl pl' z = some r) :
  Calls Tryz.prog 54 #[.agg #[.pointer eo, .slice ra rn rc, .string pl, .pointer po, .string ql, .pointer qo, .string dl, .pointer dq, .slice la ln lc, .slice ga gn gc], .agg #[.pointer eo', .slice ra' rn' rc', .string pl', .pointer po', .string ql', .pointer qo', .string dl', .pointer dq', .slice la' ln' lc', .slice ga' gn' gc']] w fun e w' => e = .returned (.int .i64 r) ∧ Below w.heap.size w w' := by
 obtain ⟨WA, hWA⟩ : ∃ WA : World, WA = (w.alloc (.cells #[.pointer eo, .slice ra rn rc, .string pl, .pointer po, .string ql, .pointer qo, .string dl, .pointer dq, .slice la ln lc, .slice ga gn gc] 50)).alloc (.cells #[.pointer eo', .slice ra' rn' rc', .string pl', .pointer po', .string ql', .pointer qo', .string dl', .pointer dq', .slice la' ln' lc', .slice ga' gn' gc'] 50) := ⟨_, rfl⟩
 have hs1 : (w.alloc (.cells #[.pointer eo, .slice ra rn rc, .string pl, .pointer po, .string ql, .pointer qo, .string dl, .pointer dq, .slice la ln lc, .slice ga gn gc] 50)).heap.size = w.heap.size + 1 := by simp
 have c1 : WA.heap[w.heap.size]? = some (.cells #[.pointer eo, .slice ra rn rc, .string pl, .pointer po, .string ql, .pointer qo, .string dl, .pointer dq, .slice la ln lc, .slice ga gn gc] 50 (0, 0)) := by rw [hWA]; exact blk_alloc (blk_new w _) _
 have c2 : WA.heap[w.heap.size + 1]? = some (.cells #[.pointer eo', .slice ra' rn' rc', .string pl', .pointer po', .string ql', .pointer qo', .string dl', .pointer dq', .slice la' ln' lc', .slice ga' gn' gc'] 50 (0, 0)) := by
  have := blk_new (w.alloc (.cells #[.pointer eo, .slice ra rn rc, .string pl, .pointer po, .string ql, .pointer qo, .string dl, .pointer dq, .slice la ln lc, .slice ga gn gc] 50)) (.cells #[.pointer eo', .slice ra' rn' rc', .string pl', .pointer po', .string ql', .pointer qo', .string dl', .pointer dq', .slice la' ln' lc', .slice ga' gn' gc'] 50)
  rw [hs1] at this
  rw [hWA]
  exact this
 have HB : Aside0 (Below w.heap.size w WA) := ⟨by rw [hWA]; exact ((Below.refl _ w).alloc (Nat.le_refl _) _).alloc (by simp) _⟩
 have hK := fun (W : World) (hB : Below WA.heap.size WA W) => And.intro (py_S10 (py_keep hB c1)) (py_S10 (py_keep hB c2))
 have HK := Aside0.mk hK
 have HWA := Aside0.mk hWA
 have HZ := Aside0.mk hz
 have HH := Aside0.mk h
 have T1 : Aside0 (∀ b, b = (po.isNone && qo.isNone && dq.isSome) → ∀ W, Calls Tryz.prog 64 #[.agg #[.pointer eo, .slice ra rn rc, .string pl, .pointer po, .string ql, .pointer qo, .string dl, .pointer dq, .slice la ln lc, .slice ga gn gc]] W fun e w' => e = .returned (.bool b) ∧ Below W.heap.size W w') := ⟨fun b hb W => by subst hb; exact py_trick pl ql dl eo po qo dq ra rn rc la ga ln lc gn gc W⟩
 have T2 : Aside0 (∀ b, b = (po'.isNone && qo'.isNone && dq'.isSome) → ∀ W, Calls Tryz.prog 64 #[.agg #[.pointer eo', .slice ra' rn' rc', .string pl', .pointer po', .string ql', .pointer qo', .string dl', .pointer dq', .slice la' ln' lc', .slice ga' gn' gc']] W fun e w' => e = .returned (.bool b) ∧ Below W.heap.size W w') := ⟨fun b hb W => by subst hb; exact py_trick pl' ql' dl' eo' po' qo' dq' ra' rn' rc' la' ga' ln' lc' gn' gc' W⟩
 clear c1 c2 hWA hs1 hz h hK
 cases hb1 : (po.isNone && qo.isNone && dq.isSome) with
 | true =>
  cases hb2 : (po'.isNone && qo'.isNone && dq'.isSome) with
  | true =>
   have HR : Aside0 (r = 0) := ⟨by have := HH.out; unfold preC at this; rw [if_pos hb1, if_pos hb2] at this; exact (Option.some.inj this).symm⟩
   have U1 := Aside0.mk (T1.out true hb1.symm)
   have U2 := Aside0.mk (T2.out true hb2.symm)
   clear T1 T2 HH HZ hb1 hb2
   go_enter Tryz.func54, Tryz.ntmps54
   go_upto_region 8 with fail
   rw [← HWA.out]
   obtain ⟨⟨k0, k1, k2, k3, k4, k5, k6, k7, k8, k9⟩, m0, m1, m2, m3, m4, m5, m6, m7, m8, m9⟩ := HK.out WA (Below.refl _ _)
   go_wp2_with (go_at_call 64; (with_reducible refine (U1.out _).mono ?_))
   rintro e W1 ⟨rfl, hB1⟩
   have B1 := Aside0.mk hB1
   clear hB1 k0 k1 k2 k3 k4 k5 k6 k7 k8 k9 m0 m1 m2 m3 m4 m5 m6 m7 m8 m9
   obtain ⟨⟨k0, k1, k2, k3, k4, k5, k6, k7, k8, k9⟩, m0, m1, m2, m3, m4, m5, m6, m7, m8, m9⟩ := HK.out W1 B1.out
   go_wp2_with (go_at_call 64; (with_reducible refine (U2.out _).mono ?_))
   rintro e W2 ⟨rfl, hB2⟩
   have B2 := Aside0.mk (py_next B1.out hB2)
   clear hB2 k0 k1 k2 k3 k4 k5 k6 k7 k8 k9 m0 m1 m2 m3 m4 m5 m6 m7 m8 m9
   go_wp2
   go_ret
   exact ⟨by rw [HR.out]; rfl, HB.out.trans (B2.out.mono HB.out.size)⟩
  | false =>
   have HR : Aside0 (r = -1) := ⟨by have := HH.out; unfold preC at this; rw [if_pos hb1, if_neg (by rw [hb2]; exact Bool.false_ne_true)] at this; exact (Option.some.inj this).symm⟩
   have U1 := Aside0.mk (T1.out true hb1.symm)
   have U2 := Aside0.mk (T2.out false hb2.symm)
   clear T1 T2 HH HZ hb1 hb2
   go_enter Tryz.func54, Tryz.ntmps54
   go_upto_region 8 with fail
   rw [← HWA.out]
   obtain ⟨⟨k0, k1, k2, k3, k4, k5, k6, k7, k8, k9⟩, m0, m1, m2, m3, m4, m5, m6, m7, m8, m9⟩ := HK.out WA (Below.refl _ _)
   go_wp2_with (go_at_call 64; (with_reducible refine (U1.out _).mono ?_))
   rintro e W1 ⟨rfl, hB1⟩
   have B1 := Aside0.mk hB1
   clear hB1 k0 k1 k2 k3 k4 k5 k6 k7 k8 k9 m0 m1 m2 m3 m4 m5 m6 m7 m8 m9
   obtain ⟨⟨k0, k1, k2, k3, k4, k5, k6, k7, k8, k9⟩, m0, m1, m2, m3, m4, m5, m6, m7, m8, m9⟩ := HK.out W1 B1.out
   go_wp2_with (go_at_call 64; (with_reducible refine (U2.out _).mono ?_))
   rintro e W2 ⟨rfl, hB2⟩
   have B2 := Aside0.mk (py_next B1.out hB2)
   clear hB2 k0 k1 k2 k3 k4 k5 k6 k7 k8 k9 m0 m1 m2 m3 m4 m5 m6 m7 m8 m9
   obtain ⟨⟨k0, k1, k2, k3, k4, k5, k6, k7, k8, k9⟩, m0, m1, m2, m3, m4, m5, m6, m7, m8, m9⟩ := HK.out W2 B2.out
   go_wp2_with (go_at_call 64; (with_reducible refine (U1.out _).mono ?_))
   rintro e W3 ⟨rfl, hB3⟩
   have B3 := Aside0.mk (py_next B2.out hB3)
   clear hB3 k0 k1 k2 k3 k4 k5 k6 k7 k8 k9 m0 m1 m2 m3 m4 m5 m6 m7 m8 m9
   go_wp2
   go_ret
   exact ⟨by rw [HR.out]; rfl, HB.out.trans (B3.out.mono HB.out.size)⟩
 | false =>
  cases hb2 : (po'.isNone && qo'.isNone && dq'.isSome) with
  | true =>
   have HR : Aside0 (r = 1) := ⟨by have := HH.out; unfold preC at this; rw [if_neg (by rw [hb1]; exact Bool.false_ne_true), if_pos hb2] at this; exact (Option.some.inj this).symm⟩
   have U1 := Aside0.mk (T1.out false hb1.symm)
   have U2 := Aside0.mk (T2.out true hb2.symm)
   clear T1 T2 HH HZ hb1 hb2
   go_enter Tryz.func54, Tryz.ntmps54
   go_upto_region 8 with fail
   rw [← HWA.out]
   obtain ⟨⟨k0, k1, k2, k3, k4, k5, k6, k7, k8, k9⟩, m0, m1, m2, m3, m4, m5, m6, m7, m8, m9⟩ := HK.out WA (Below.refl _ _)
   go_wp2_with (go_at_call 64; (with_reducible refine (U1.out _).mono ?_))
   rintro e W1 ⟨rfl, hB1⟩
   have B1 := Aside0.mk hB1
   clear hB1 k0 k1 k2 k3 k4 k5 k6 k7 k8 k9 m0 m1 m2 m3 m4 m5 m6 m7 m8 m9
   obtain ⟨⟨k0, k1, k2, k3, k4, k5, k6, k7, k8, k9⟩, m0, m1, m2, m3, m4, m5, m6, m7, m8, m9⟩ := HK.out W1 B1.out
   go_wp2_with (go_at_call 64; (with_reducible refine (U1.out _).mono ?_))
   rintro e W2 ⟨rfl, hB2⟩
   have B2 := Aside0.mk (py_next B1.out hB2)
   clear hB2 k0 k1 k2 k3 k4 k5 k6 k7 k8 k9 m0 m1 m2 m3 m4 m5 m6 m7 m8 m9
   obtain ⟨⟨k0, k1, k2, k3, k4, k5, k6, k7, k8, k9⟩, m0, m1, m2, m3, m4, m5, m6, m7, m8, m9⟩ := HK.out W2 B2.out
   go_wp2_with (go_at_call 64; (with_reducible refine (U2.out _).mono ?_))
   rintro e W3 ⟨rfl, hB3⟩
   have B3 := Aside0.mk (py_next B2.out hB3)
   clear hB3 k0 k1 k2 k3 k4 k5 k6 k7 k8 k9 m0 m1 m2 m3 m4 m5 m6 m7 m8 m9
   go_wp2
   go_ret
   exact ⟨by rw [HR.out]; rfl, HB.out.trans (B3.out.mono HB.out.size)⟩
  | false =>
   have U1 := Aside0.mk (T1.out false hb1.symm)
   have U2 := Aside0.mk (T2.out false hb2.symm)
   have HB1 := Aside0.mk hb1
   have HB2 := Aside0.mk hb2
   clear T1 T2 hb1 hb2
   rcases po with _ | pa <;> rcases po' with _ | pa'
   ·have HR : Aside0 (r = 0) := ⟨by have := HH.out; unfold preC at this; rw [if_neg (by rw [HB1.out]; exact Bool.false_ne_true), if_neg (by rw [HB2.out]; exact Bool.false_ne_true), if_pos rfl, if_pos rfl] at this; exact (Option.some.inj this).symm⟩
    clear HH HZ HB1 HB2
    go_enter Tryz.func54, Tryz.ntmps54
    go_upto_region 8 with fail
    rw [← HWA.out]
    obtain ⟨⟨k0, k1, k2, k3, k4, k5, k6, k7, k8, k9⟩, m0, m1, m2, m3, m4, m5, m6, m7, m8, m9⟩ := HK.out WA (Below.refl _ _)
    go_wp2_with (go_at_call 64; (with_reducible refine (U1.out _).mono ?_))
    rintro e W1 ⟨rfl, hB1⟩
    have B1 := Aside0.mk hB1
    clear hB1 k0 k1 k2 k3 k4 k5 k6 k7 k8 k9 m0 m1 m2 m3 m4 m5 m6 m7 m8 m9
    obtain ⟨⟨k0, k1, k2, k3, k4, k5, k6, k7, k8, k9⟩, m0, m1, m2, m3, m4, m5, m6, m7, m8, m9⟩ := HK.out W1 B1.out
    go_wp2_with (go_at_call 64; (with_reducible refine (U1.out _).mono ?_))
    rintro e W2 ⟨rfl, hB2⟩
    have B2 := Aside0.mk (py_next B1.out hB2)
    clear hB2 k0 k1 k2 k3 k4 k5 k6 k7 k8 k9 m0 m1 m2 m3 m4 m5 m6 m7 m8 m9
    obtain ⟨⟨k0, k1, k2, k3, k4, k5, k6, k7, k8, k9⟩, m0, m1, m2, m3, m4, m5, m6, m7, m8, m9⟩ := HK.out W2 B2.out
    go_wp2_with (go_at_call 64; (with_reducible refine (U2.out _).mono ?_))
    rintro e W3 ⟨rfl, hB3⟩
    have B3 := Aside0.mk (py_next B2.out hB3)
    clear hB3 k0 k1 k2 k3 k4 k5 k6 k7 k8 k9 m0 m1 m2 m3 m4 m5 m6 m7 m8 m9
    obtain ⟨⟨k0, k1, k2, k3, k4, k5, k6, k7, k8, k9⟩, m0, m1, m2, m3, m4, m5, m6, m7, m8, m9⟩ := HK.out W3 B3.out
    go_wp2
    go_ret
    exact ⟨by rw [HR.out]; rfl, HB.out.trans (B3.out.mono HB.out.size)⟩
   ·have HR : Aside0 (r = 1) := ⟨by have := HH.out; unfold preC at this; rw [if_neg (by rw [HB1.out]; exact Bool.false_ne_true), if_neg (by rw [HB2.out]; exact Bool.false_ne_true), if_pos rfl, if_neg (by simp)] at this; exact (Option.some.inj this).symm⟩
    clear HH HZ HB1 HB2
    go_enter Tryz.func54, Tryz.ntmps54
    go_upto_region 8 with fail
    rw [← HWA.out]
    obtain ⟨⟨k0, k1, k2, k3, k4, k5, k6, k7, k8, k9⟩, m0, m1, m2, m3, m4, m5, m6, m7, m8, m9⟩ := HK.out WA (Below.refl _ _)
    go_wp2_with (go_at_call 64; (with_reducible refine (U1.out _).mono ?_))
    rintro e W1 ⟨rfl, hB1⟩
    have B1 := Aside0.mk hB1
    clear hB1 k0 k1 k2 k3 k4 k5 k6 k7 k8 k9 m0 m1 m2 m3 m4 m5 m6 m7 m8 m9
    obtain ⟨⟨k0, k1, k2, k3, k4, k5, k6, k7, k8, k9⟩, m0, m1, m2, m3, m4, m5, m6, m7, m8, m9⟩ := HK.out W1 B1.out
    go_wp2_with (go_at_call 64; (with_reducible refine (U1.out _).mono ?_))
    rintro e W2 ⟨rfl, hB2⟩
    have B2 := Aside0.mk (py_next B1.out hB2)
    clear hB2 k0 k1 k2 k3 k4 k5 k6 k7 k8 k9 m0 m1 m2 m3 m4 m5 m6 m7 m8 m9
    obtain ⟨⟨k0, k1, k2, k3, k4, k5, k6, k7, k8, k9⟩, m0, m1, m2, m3, m4, m5, m6, m7, m8, m9⟩ := HK.out W2 B2.out
    go_wp2_with (go_at_call 64; (with_reducible refine (U2.out _).mono ?_))
    rintro e W3 ⟨rfl, hB3⟩
    have B3 := Aside0.mk (py_next B2.out hB3)
    clear hB3 k0 k1 k2 k3 k4 k5 k6 k7 k8 k9 m0 m1 m2 m3 m4 m5 m6 m7 m8 m9
    obtain ⟨⟨k0, k1, k2, k3, k4, k5, k6, k7, k8, k9⟩, m0, m1, m2, m3, m4, m5, m6, m7, m8, m9⟩ := HK.out W3 B3.out
    go_wp2
    go_ret
    exact ⟨by rw [HR.out]; rfl, HB.out.trans (B3.out.mono HB.out.size)⟩
   ·have HR : Aside0 (r = -1) := ⟨by have := HH.out; unfold preC at this; rw [if_neg (by rw [HB1.out]; exact Bool.false_ne_true), if_neg (by rw [HB2.out]; exact Bool.false_ne_true), if_neg (by simp), if_pos rfl] at this; exact (Option.some.inj this).symm⟩
    clear HH HZ HB1 HB2
    go_enter Tryz.func54, Tryz.ntmps54
    go_upto_region 8 with fail
    rw [← HWA.out]
    obtain ⟨⟨k0, k1, k2, k3, k4, k5, k6, k7, k8, k9⟩, m0, m1, m2, m3, m4, m5, m6, m7, m8, m9⟩ := HK.out WA (Below.refl _ _)
    go_wp2_with (go_at_call 64; (with_reducible refine (U1.out _).mono ?_))
    rintro e W1 ⟨rfl, hB1⟩
    have B1 := Aside0.mk hB1
    clear hB1 k0 k1 k2 k3 k4 k5 k6 k7 k8 k9 m0 m1 m2 m3 m4 m5 m6 m7 m8 m9
    obtain ⟨⟨k0, k1, k2, k3, k4, k5, k6, k7, k8, k9⟩, m0, m1, m2, m3, m4, m5, m6, m7, m8, m9⟩ := HK.out W1 B1.out
    go_wp2_with (go_at_call 64; (with_reducible refine (U1.out _).mono ?_))
    rintro e W2 ⟨rfl, hB2⟩
    have B2 := Aside0.mk (py_next B1.out hB2)
    clear hB2 k0 k1 k2 k3 k4 k5 k6 k7 k8 k9 m0 m1 m2 m3 m4 m5 m6 m7 m8 m9
    obtain ⟨⟨k0, k1, k2, k3, k4, k5, k6, k7, k8, k9⟩, m0, m1, m2, m3, m4, m5, m6, m7, m8, m9⟩ := HK.out W2 B2.out
    go_wp2_with (go_at_call 64; (with_reducible refine (U2.out _).mono ?_))
    rintro e W3 ⟨rfl, hB3⟩
    have B3 := Aside0.mk (py_next B2.out hB3)
    clear hB3 k0 k1 k2 k3 k4 k5 k6 k7 k8 k9 m0 m1 m2 m3 m4 m5 m6 m7 m8 m9
    obtain ⟨⟨k0, k1, k2, k3, k4, k5, k6, k7, k8, k9⟩, m0, m1, m2, m3, m4, m5, m6, m7, m8, m9⟩ := HK.out W3 B3.out
    go_wp2
    go_ret
    exact ⟨by rw [HR.out]; rfl, HB.out.trans (B3.out.mono HB.out.size)⟩
   ·have hh := HH.out
    unfold preC at hh
    rw [if_neg (by rw [HB1.out]; exact Bool.false_ne_true), if_neg (by rw [HB2.out]; exact Bool.false_ne_true), if_neg (by simp), if_neg (by simp)] at hh
    have HZ1 := Aside0.mk (HZ.out pa pa' rfl rfl)
    clear HH HZ HB1 HB2
    by_cases hsz : pl.size = 0 ∨ pl'.size = 0
    ·rw [if_pos hsz] at hh; cases hh
    ·rw [if_neg hsz] at hh
     have hs1 : 0 < pl.size := by omega
     have hs2 : 0 < pl'.size := by omega
     go_enter Tryz.func54, Tryz.ntmps54
     go_upto_region 8 with fail
     rw [← HWA.out]
     obtain ⟨⟨k0, k1, k2, k3, k4, k5, k6, k7, k8, k9⟩, m0, m1, m2, m3, m4, m5, m6, m7, m8, m9⟩ := HK.out WA (Below.refl _ _)
     go_wp2_with (go_at_call 64; (with_reducible refine (U1.out _).mono ?_))
     rintro e W1 ⟨rfl, hB1⟩
     have B1 := Aside0.mk hB1
     clear hB1 k0 k1 k2 k3 k4 k5 k6 k7 k8 k9 m0 m1 m2 m3 m4 m5 m6 m7 m8 m9
     obtain ⟨⟨k0, k1, k2, k3, k4, k5, k6, k7, k8, k9⟩, m0, m1, m2, m3, m4, m5, m6, m7, m8, m9⟩ := HK.out W1 B1.out
     go_wp2_with (go_at_call 64; (with_reducible refine (U1.out _).mono ?_))
     rintro e W2 ⟨rfl, hB2⟩
     have B2 := Aside0.mk (py_next B1.out hB2)
     clear hB2 k0 k1 k2 k3 k4 k5 k6 k7 k8 k9 m0 m1 m2 m3 m4 m5 m6 m7 m8 m9
     obtain ⟨⟨k0, k1, k2, k3, k4, k5, k6, k7, k8, k9⟩, m0, m1, m2, m3, m4, m5, m6, m7, m8, m9⟩ := HK.out W2 B2.out
     go_wp2_with (go_at_call 64; (with_reducible refine (U2.out _).mono ?_))
     rintro e W3 ⟨rfl, hB3⟩
     have B3 := Aside0.mk (py_next B2.out hB3)
     clear hB3 k0 k1 k2 k3 k4 k5 k6 k7 k8 k9 m0 m1 m2 m3 m4 m5 m6 m7 m8 m9
     obtain ⟨⟨k0, k1, k2, k3, k4, k5, k6, k7, k8, k9⟩, m0, m1, m2, m3, m4, m5, m6, m7, m8, m9⟩ := HK.out W3 B3.out
     go_upto_region 3 with fail
     generalize hx : pl[0].toNat = x
     generalize hy : pl'[0].toNat = y
     have e1 : pyHd pl = (x : Int) := by rw [b0_eq pl hs1, hx]
     have e2 : pyHd pl' = (y : Int) := by rw [b0_eq pl' hs2, hy]
     rw [e1, e2] at hh
     have HZ2 := Aside0.mk (HZ1.out W3 (HB.out.trans (B3.out.mono HB.out.size)))
     clear e1 e2 hx hy hs1 hs2 hsz HZ1 U1 U2 HK HWA B1 B2
     rcases Nat.lt_trichotomy x y with hl | hl | hl
     ·rw [if_neg (by omega), if_pos (by omega)] at hh
      have HR := Aside0.mk (Option.some.inj hh)
      have d1 : decide (y < x) = false := decide_eq_false (by omega)
      have d2 : decide (x < y) = true := decide_eq_true hl
      have d3 : decide ((y : Int) < (x : Int)) = false := decide_eq_false (by omega)
      have d4 : decide ((x : Int) < (y : Int)) = true := decide_eq_true (by omega)
      clear hh hl HZ2
      go_wp2
      go_ret
      exact ⟨by rw [← HR.out]; rfl, HB.out.trans (B3.out.mono HB.out.size)⟩
     ·subst hl
      rw [if_neg (by omega), if_neg (by omega)] at hh
      have HR := Aside0.mk (Option.some.inj hh)
      have d1 : decide (x < x) = false := decide_eq_false (by omega)
      have d3 : decide ((x : Int) < (x : Int)) = false := decide_eq_false (by omega)
      clear hh
      go_wp2_with (go_at_call 60; (with_reducible refine (HZ2.out).mono ?_))
      rintro e W4 ⟨rfl, hB4⟩
      have B4 := Aside0.mk (py_next B3.out hB4)
      clear hB4 k0 k1 k2 k3 k4 k5 k6 k7 k8 k9 m0 m1 m2 m3 m4 m5 m6 m7 m8 m9
      go_wp2
      go_ret
      exact ⟨by rw [← HR.out]; rfl, HB.out.trans (B4.out.mono HB.out.size)⟩
     ·rw [if_pos (by omega)] at hh
      have HR := Aside0.mk (Option.some.inj hh)
      have d1 : decide (y < x) = true := decide_eq_true hl
      have d3 : decide ((y : Int) < (x : Int)) = true := decide_eq_true (by omega)
      clear hh hl HZ2
      go_wp2
      go_ret
      exact ⟨by rw [← HR.out]; rfl, HB.out.trans (B3.out.mono HB.out.size)⟩
theorem py_none {W : World} {z : Option Int} {po : Option Addr} (h : PtrAt W z po) : (po = none ↔ z = none) ∧ po.isNone = z.isNone ∧ po.isSome = z.isSome := by
 cases z with
 | none =>
  have e : po = none := h
  subst e
  exact ⟨⟨fun _ => rfl, fun _ => rfl⟩, rfl, rfl⟩
 | some z =>
  obtain ⟨o, e, _⟩ := PtrAt.some h
  subst e
  exact ⟨⟨(fun h => by cases h), (fun h => by cases h)⟩, rfl, rfl⟩
def trickM (m : PV) : Bool := m.pn.isNone && m.qn.isNone && m.dn.isSome
/-- How the pre-releases compare. -/
def preM (m m' : PV) : Option Int :=
 if trickM m = true then (if trickM m' = true then some 0 else some (-1)) else if trickM m' = true then some 1
 else if m.pn = none then (if m'.pn = none then some 0 else some 1) else if m'.pn = none then some (-1)
 else if m.pl.size = 0 ∨ m'.pl.size = 0 then none
 else if pyHd m'.pl < pyHd m.pl then some 1 else if pyHd m.pl < pyHd m'.pl then some (-1) else some (Bn.cmpZ (m.pn.getD 0) (m'.pn.getD 0))
set_option maxHeartbeats 1000000 in
theorem py_cpre (m m' : PV) (r : Int) (hr : preM m m' = some r) (eo po qo dq ra : Option Addr) (rn rc : Nat) (la ga : Option Addr) (ln lc gn gc : Nat) (eo' po' qo' dq' ra' : Option Addr) (rn' rc' : Nat) (la' ga' : Option Addr) (ln' lc' gn' gc' : Nat) (w : World)
  (hp : PtrAt w m.pn po) (hq : PtrAt w m.qn qo) (hd : PtrAt w m.dn dq) (hp' : PtrAt w m'.pn po') (hq' : PtrAt w m'.qn qo') (hd' : PtrAt w m'.dn dq') :
  Calls Tryz.prog 54 #[.agg #[.pointer eo, .slice ra rn rc, .string m.pl, .pointer po, .string m.ql, .pointer qo, .string m.dl, .pointer dq, .slice la ln lc, .slice ga gn gc], .agg #[.pointer eo', .slice ra' rn' rc', .string m'.pl, .pointer po', .string m'.ql, .pointer qo', .string m'.dl, .pointer dq', .slice la' ln' lc', .slice ga' gn' gc']] w fun e w' => e = .returned (.int .i64 r) ∧ Below w.heap.size w w' := by
 refine py_pre m.pl m.ql m.dl eo po qo dq ra rn rc la ga ln lc gn gc m'.pl m'.ql m'.dl eo' po' qo' dq' ra' rn' rc' la' ga' ln' lc' gn' gc' (Bn.cmpZ (m.pn.getD 0) (m'.pn.getD 0)) r w ?_ ?_
 ·intro a a' ha ha' W hB
  subst ha ha'
  cases hm : m.pn with
  | none => rw [hm] at hp; cases (PtrAt.none hp)
  | some z =>
   cases hm' : m'.pn with
   | none => rw [hm'] at hp'; cases (PtrAt.none hp')
   | some z' =>
    rw [hm] at hp
    rw [hm'] at hp'
    have h1 : Big.At w z (.pointer (some a)) := hp
    have h2 : Big.At w z' (.pointer (some a')) := hp'
    exact (big_Cmp _ _ z z' W (h1.below hB) (h2.below hB)).mono fun e w' h => ⟨h.1, py_drawn h.2⟩
 ·have e1 := py_none hp
  have e2 := py_none hq
  have e3 := py_none hd
  have f1 := py_none hp'
  have f2 := py_none hq'
  have f3 := py_none hd'
  unfold preM trickM at hr
  unfold preC
  rw [e1.2.1, e2.2.1, e3.2.2, f1.2.1, f2.2.1, f3.2.2]
  simp only [e1.1, f1.1]
  exact hr
set_option maxRecDepth 100000 in
set_option maxHeartbeats 4000000 in
theorem py_epoch (pl ql dl : ByteArray) (eo po qo dq ra : Option Addr) (rn rc : Nat) (la ga : Option Addr) (ln lc gn gc : Nat) (pl' ql' dl' : ByteArray) (eo' po' qo' dq' ra' : Option Addr) (rn' rc' : Nat) (la' ga' : Option Addr) (ln' lc' gn' gc' : Nat) (z z' : Int) (w : World) (h : Big.At w z (.pointer eo)) (h' : Big.At w z' (.pointer eo')) :
  Calls Tryz.prog 52 #[.agg #[.pointer eo, .slice ra rn rc, .string pl, .pointer po, .string ql, .pointer qo, .string dl, .pointer dq, .slice la ln lc, .slice ga gn gc], .agg #[.pointer eo', .slice ra' rn' rc', .string pl', .pointer po', .string ql', .pointer qo', .string dl', .pointer dq', .slice la' ln' lc', .slice ga' gn' gc']] w fun e w' => e = .returned (.int .i64 (Bn.cmpZ z z')) ∧ Below w.heap.size w w' := by
 obtain ⟨WA, hWA⟩ : ∃ WA : World, WA = (w.alloc (.cells #[.pointer eo, .slice ra rn rc, .string pl, .pointer po, .string ql, .pointer qo, .string dl, .pointer dq, .slice la ln lc, .slice ga gn gc] 50)).alloc (.cells #[.pointer eo', .slice ra' rn' rc', .string pl', .pointer po', .string ql', .pointer qo', .string dl', .pointer dq', .slice la' ln' lc', .slice ga' gn' gc'] 50) := ⟨_, rfl⟩
 have hs1 : (w.alloc (.cells #[.pointer eo, .slice ra rn rc, .string pl, .pointer po, .string ql, .pointer qo, .string dl, .pointer dq, .slice la ln lc, .slice ga gn gc] 50)).heap.size = w.heap.size + 1 := by simp
 have c1 : WA.heap[w.heap.size]? = some (.cells #[.pointer eo, .slice ra rn rc, .string pl, .pointer po, .string ql, .pointer qo, .string dl, .pointer dq, .slice la ln lc, .slice ga gn gc] 50 (0, 0)) := by rw [hWA]; exact blk_alloc (blk_new w _) _
 have c2 : WA.heap[w.heap.size + 1]? = some (.cells #[.pointer eo', .slice ra' rn' rc', .string pl', .pointer po', .string ql', .pointer qo', .string dl', .pointer dq', .slice la' ln' lc', .slice ga' gn' gc'] 50 (0, 0)) := by
  have := blk_new (w.alloc (.cells #[.pointer eo, .slice ra rn rc, .string pl, .pointer po, .string ql, .pointer qo, .string dl, .pointer dq, .slice la ln lc, .slice ga gn gc] 50)) (.cells #[.pointer eo', .slice ra' rn' rc', .string pl', .pointer po', .string ql', .pointer qo', .string dl', .pointer dq', .slice la' ln' lc', .slice ga' gn' gc'] 50)
  rw [hs1] at this
  rw [hWA]
  exact this
 have hB : Below w.heap.size w WA := by rw [hWA]; exact ((Below.refl _ w).alloc (Nat.le_refl _) _).alloc (by simp) _
 have HB := Aside0.mk hB
 have HWA := Aside0.mk hWA
 have HK := Aside0.mk (fun (W : World) (hB : Below WA.heap.size WA W) => And.intro (py_S10 (py_keep hB c1)) (py_S10 (py_keep hB c2)))
 obtain ⟨o1, e1⟩ := py_at h
 cases e1
 obtain ⟨o2, e2⟩ := py_at h'
 cases e2
 have HC : Aside0 (Calls Tryz.prog 60 #[.pointer (some ⟨o1, 0, none⟩), .pointer (some ⟨o2, 0, none⟩)] WA fun e w' => e = .returned (.int .i64 (Bn.cmpZ z z')) ∧ Below WA.heap.size WA w') := ⟨(big_Cmp _ _ z z' WA (h.below hB) (h'.below hB)).mono fun e w' h => ⟨h.1, py_drawn h.2⟩⟩
 clear c1 c2 hWA hs1 hB h h'
 go_enter Tryz.func52, Tryz.ntmps52
 go_upto_region 1 with fail
 rw [← HWA.out]
 obtain ⟨⟨k0, k1, k2, k3, k4, k5, k6, k7, k8, k9⟩, m0, m1, m2, m3, m4, m5, m6, m7, m8, m9⟩ := HK.out WA (Below.refl _ _)
 clear HWA HK
 go_wp2_with (go_at_call 60; (with_reducible refine (HC.out).mono ?_))
 rintro e W1 ⟨rfl, hB1⟩
 have HB1 := Aside0.mk (py_next HB.out hB1)
 clear hB1 HC HB k0 k1 k2 k3 k4 k5 k6 k7 k8 k9 m0 m1 m2 m3 m4 m5 m6 m7 m8 m9
 go_wp2
 go_ret
 exact ⟨rfl, HB1.out⟩
set_option maxRecDepth 100000 in
set_option maxHeartbeats 4000000 in
theorem py_release (pl ql dl : ByteArray) (eo po qo dq ra : Option Addr) (rn rc : Nat) (la ga : Option Addr) (ln lc gn gc : Nat) (pl' ql' dl' : ByteArray) (eo' po' qo' dq' ra' : Option Addr) (rn' rc' : Nat) (la' ga' : Option Addr) (ln' lc' gn' gc' : Nat) (a b : List Int) (w : World) (h : Kd.C Big.kd w ra a.length a) (hc : a.length ≤ rc) (h' : Kd.C Big.kd w ra' b.length b) (hc' : b.length ≤ rc') (hn : rn = a.length) (hn' : rn' = b.length) :
  Calls Tryz.prog 53 #[.agg #[.pointer eo, .slice ra rn rc, .string pl, .pointer po, .string ql, .pointer qo, .string dl, .pointer dq, .slice la ln lc, .slice ga gn gc], .agg #[.pointer eo', .slice ra' rn' rc', .string pl', .pointer po', .string ql', .pointer qo', .string dl', .pointer dq', .slice la' ln' lc', .slice ga' gn' gc']] w fun e w' => e = .returned (.int .i64 (cmpLists a b)) ∧ Below w.heap.size w w' := by
 obtain ⟨WA, hWA⟩ : ∃ WA : World, WA = (w.alloc (.cells #[.pointer eo, .slice ra rn rc, .string pl, .pointer po, .string ql, .pointer qo, .string dl, .pointer dq, .slice la ln lc, .slice ga gn gc] 50)).alloc (.cells #[.pointer eo', .slice ra' rn' rc', .string pl', .pointer po', .string ql', .pointer qo', .string dl', .pointer dq', .slice la' ln' lc', .slice ga' gn' gc'] 50) := ⟨_, rfl⟩
 have hs1 : (w.alloc (.cells #[.pointer eo, .slice ra rn rc, .string pl, .pointer po, .string ql, .pointer qo, .string dl, .pointer dq, .slice la ln lc, .slice ga gn gc] 50)).heap.size = w.heap.size + 1 := by simp
 have c1 : WA.heap[w.heap.size]? = some (.cells #[.pointer eo, .slice ra rn rc, .string pl, .pointer po, .string ql, .pointer qo, .string dl, .pointer dq, .slice la ln lc, .slice ga gn gc] 50 (0, 0)) := by rw [hWA]; exact blk_alloc (blk_new w _) _
 have c2 : WA.heap[w.heap.size + 1]? = some (.cells #[.pointer eo', .slice ra' rn' rc', .string pl', .pointer po', .string ql', .pointer qo', .string dl', .pointer dq', .slice la' ln' lc', .slice ga' gn' gc'] 50 (0, 0)) := by
  have := blk_new (w.alloc (.cells #[.pointer eo, .slice ra rn rc, .string pl, .pointer po, .string ql, .pointer qo, .string dl, .pointer dq, .slice la ln lc, .slice ga gn gc] 50)) (.cells #[.pointer eo', .slice ra' rn' rc', .string pl', .pointer po', .string ql', .pointer qo', .string dl', .pointer dq', .slice la' ln' lc', .slice ga' gn' gc'] 50)
  rw [hs1] at this
  rw [hWA]
  exact this
 have hB : Below w.heap.size w WA := by rw [hWA]; exact ((Below.refl _ w).alloc (Nat.le_refl _) _).alloc (by simp) _
 have HB := Aside0.mk hB
 have HWA := Aside0.mk hWA
 have HK := Aside0.mk (fun (W : World) (hB : Below WA.heap.size WA W) => And.intro (py_S10 (py_keep hB c1)) (py_S10 (py_keep hB c2)))
 have hk1 : WA.cell? ⟨w.heap.size, 1, none⟩ = some (.slice ra a.length rc) := by rw [← hn]; exact (blk_cell c1 1).trans rfl
 have hC := big_CompsCmp w.heap.size 1 ra rc a ra' rc' b WA hk1 (Kd.C_below h hB) hc (Kd.C_below h' hB) hc'
 rw [← hn'] at hC
 have HC := Aside0.mk hC
 clear hk1 hC c1 c2 hWA hs1 hB h h' hn hn' hc hc'
 go_enter Tryz.func53, Tryz.ntmps53
 go_upto_region 1 with fail
 rw [← HWA.out]
 obtain ⟨⟨k0, k1, k2, k3, k4, k5, k6, k7, k8, k9⟩, m0, m1, m2, m3, m4, m5, m6, m7, m8, m9⟩ := HK.out WA (Below.refl _ _)
 clear HWA HK
 go_wp2_with (go_at_call 63; (with_reducible refine (HC.out).mono ?_))
 rintro e W1 ⟨rfl, hB1⟩
 have HB1 := Aside0.mk (py_next HB.out hB1)
 clear hB1 HC HB k0 k1 k2 k3 k4 k5 k6 k7 k8 k9 m0 m1 m2 m3 m4 m5 m6 m7 m8 m9
 go_wp2
 go_ret
 exact ⟨rfl, HB1.out⟩
def pyPostC (z z' : Option Int) : Int := match z, z' with
 | none, none => 0
 | none, some _ => -1
 | some _, none => 1
 | some a, some b => Bn.cmpZ a b
set_option maxRecDepth 100000 in
set_option maxHeartbeats 4000000 in
theorem py_post (pl ql dl : ByteArray) (eo po qo dq ra : Option Addr) (rn rc : Nat) (la ga : Option Addr) (ln lc gn gc : Nat) (pl' ql' dl' : ByteArray) (eo' po' qo' dq' ra' : Option Addr) (rn' rc' : Nat) (la' ga' : Option Addr) (ln' lc' gn' gc' : Nat) (z z' : Option Int) (w : World) (h : PtrAt w z qo) (h' : PtrAt w z' qo') :
  Calls Tryz.prog 55 #[.agg #[.pointer eo, .slice ra rn rc, .string pl, .pointer po, .string ql, .pointer qo, .string dl, .pointer dq, .slice la ln lc, .slice ga gn gc], .agg #[.pointer eo', .slice ra' rn' rc', .string pl', .pointer po', .string ql', .pointer qo', .string dl', .pointer dq', .slice la' ln' lc', .slice ga' gn' gc']] w fun e w' => e = .returned (.int .i64 (pyPostC z z')) ∧ Below w.heap.size w w' := by
 obtain ⟨WA, hWA⟩ : ∃ WA : World, WA = (w.alloc (.cells #[.pointer eo, .slice ra rn rc, .string pl, .pointer po, .string ql, .pointer qo, .string dl, .pointer dq, .slice la ln lc, .slice ga gn gc] 50)).alloc (.cells #[.pointer eo', .slice ra' rn' rc', .string pl', .pointer po', .string ql', .pointer qo', .string dl', .pointer dq', .slice la' ln' lc', .slice ga' gn' gc'] 50) := ⟨_, rfl⟩
 have hs1 : (w.alloc (.cells #[.pointer eo, .slice ra rn rc, .string pl, .pointer po, .string ql, .pointer qo, .string dl, .pointer dq, .slice la ln lc, .slice ga gn gc] 50)).heap.size = w.heap.size + 1 := by simp
 have c1 : WA.heap[w.heap.size]? = some (.cells #[.pointer eo, .slice ra rn rc, .string pl, .pointer po, .string ql, .pointer qo, .string dl, .pointer dq, .slice la ln lc, .slice ga gn gc] 50 (0, 0)) := by rw [hWA]; exact blk_alloc (blk_new w _) _
 have c2 : WA.heap[w.heap.size + 1]? = some (.cells #[.pointer eo', .slice ra' rn' rc', .string pl', .pointer po', .string ql', .pointer qo', .string dl', .pointer dq', .slice la' ln' lc', .slice ga' gn' gc'] 50 (0, 0)) := by
  have := blk_new (w.alloc (.cells #[.pointer eo, .slice ra rn rc, .string pl, .pointer po, .string ql, .pointer qo, .string dl, .pointer dq, .slice la ln lc, .slice ga gn gc] 50)) (.cells #[.pointer eo', .slice ra' rn' rc', .string pl', .pointer po', .string ql', .pointer qo', .string dl', .pointer dq', .slice la' ln' lc', .slice ga' gn' gc'] 50)
  rw [hs1] at this
  rw [hWA]
  exact this
 have hB : Below w.heap.size w WA := by rw [hWA]; exact ((Below.refl _ w).alloc (Nat.le_refl _) _).alloc (by simp) _
 have HB := Aside0.mk hB
 have HWA := Aside0.mk hWA
 have HK := Aside0.mk (fun (W : World) (hB : Below WA.heap.size WA W) => And.intro (py_S10 (py_keep hB c1)) (py_S10 (py_keep hB c2)))
 have hp := h.below hB
 have hp' := h'.below hB
 clear c1 c2 hWA hs1 hB h h'
 cases z with
 | none =>
  cases (PtrAt.none hp)
  cases z' with
  | none =>
   cases (PtrAt.none hp')
   clear hp hp'
   go_enter Tryz.func55, Tryz.ntmps55
   go_upto_region 2 with fail
   rw [← HWA.out]
   obtain ⟨⟨k0, k1, k2, k3, k4, k5, k6, k7, k8, k9⟩, m0, m1, m2, m3, m4, m5, m6, m7, m8, m9⟩ := HK.out WA (Below.refl _ _)
   clear HWA HK
   go_wp2
   go_ret
   exact ⟨rfl, HB.out⟩
  | some b =>
   obtain ⟨o2, e2, _⟩ := PtrAt.some hp'
   cases e2
   clear hp hp'
   go_enter Tryz.func55, Tryz.ntmps55
   go_upto_region 2 with fail
   rw [← HWA.out]
   obtain ⟨⟨k0, k1, k2, k3, k4, k5, k6, k7, k8, k9⟩, m0, m1, m2, m3, m4, m5, m6, m7, m8, m9⟩ := HK.out WA (Below.refl _ _)
   clear HWA HK
   go_wp2
   go_ret
   exact ⟨rfl, HB.out⟩
 | some a =>
  obtain ⟨o1, e1, t1⟩ := PtrAt.some hp
  cases e1
  cases z' with
  | none =>
   cases (PtrAt.none hp')
   clear hp hp' t1
   go_enter Tryz.func55, Tryz.ntmps55
   go_upto_region 2 with fail
   rw [← HWA.out]
   obtain ⟨⟨k0, k1, k2, k3, k4, k5, k6, k7, k8, k9⟩, m0, m1, m2, m3, m4, m5, m6, m7, m8, m9⟩ := HK.out WA (Below.refl _ _)
   clear HWA HK
   go_wp2
   go_ret
   exact ⟨rfl, HB.out⟩
  | some b =>
   obtain ⟨o2, e2, t2⟩ := PtrAt.some hp'
   cases e2
   have HC : Aside0 (Calls Tryz.prog 60 #[.pointer (some ⟨o1, 0, none⟩), .pointer (some ⟨o2, 0, none⟩)] WA fun e w' => e = .returned (.int .i64 (Bn.cmpZ a b)) ∧ Below WA.heap.size WA w') := ⟨(big_Cmp _ _ a b WA t1 t2).mono fun e w' h => ⟨h.1, py_drawn h.2⟩⟩
   clear hp hp' t1 t2
   go_enter Tryz.func55, Tryz.ntmps55
   go_upto_region 2 with fail
   rw [← HWA.out]
   obtain ⟨⟨k0, k1, k2, k3, k4, k5, k6, k7, k8, k9⟩, m0, m1, m2, m3, m4, m5, m6, m7, m8, m9⟩ := HK.out WA (Below.refl _ _)
   clear HWA HK
   go_wp2_with (go_at_call 60; (with_reducible refine (HC.out).mono ?_))
   rintro e W1 ⟨rfl, hB1⟩
   have HB1 := Aside0.mk (py_next HB.out hB1)
   clear hB1 HC HB k0 k1 k2 k3 k4 k5 k6 k7 k8 k9 m0 m1 m2 m3 m4 m5 m6 m7 m8 m9
   go_wp2
   go_ret
   exact ⟨rfl, HB1.out⟩
def pyDevC (z z' : Option Int) : Int := match z, z' with
 | none, none => 0
 | none, some _ => 1
 | some _, none => -1
 | some a, some b => Bn.cmpZ a b
set_option maxRecDepth 100000 in
set_option maxHeartbeats 4000000 in
theorem py_dev (pl ql dl : ByteArray) (eo po qo dq ra : Option Addr) (rn rc : Nat) (la ga : Option Addr) (ln lc gn gc : Nat) (pl' ql' dl' : ByteArray) (eo' po' qo' dq' ra' : Option Addr) (rn' rc' : Nat) (la' ga' : Option Addr) (ln' lc' gn' gc' : Nat) (z z' : Option Int) (w : World) (h : PtrAt w z dq) (h' : PtrAt w z' dq') :
  Calls Tryz.prog 56 #[.agg #[.pointer eo, .slice ra rn rc, .string pl, .pointer po, .string ql, .pointer qo, .string dl, .pointer dq, .slice la ln lc, .slice ga gn gc], .agg #[.pointer eo', .slice ra' rn' rc', .string pl', .pointer po', .string ql', .pointer qo', .string dl', .pointer dq', .slice la' ln' lc', .slice ga' gn' gc']] w fun e w' => e = .returned (.int .i64 (pyDevC z z')) ∧ Below w.heap.size w w' := by
 obtain ⟨WA, hWA⟩ : ∃ WA : World, WA = (w.alloc (.cells #[.pointer eo, .slice ra rn rc, .string pl, .pointer po, .string ql, .pointer qo, .string dl, .pointer dq, .slice la ln lc, .slice ga gn gc] 50)).alloc (.cells #[.pointer eo', .slice ra' rn' rc', .string pl', .pointer po', .string ql', .pointer qo', .string dl', .pointer dq', .slice la' ln' lc', .slice ga' gn' gc'] 50) := ⟨_, rfl⟩
 have hs1 : (w.alloc (.cells #[.pointer eo, .slice ra rn rc, .string pl, .pointer po, .string ql, .pointer qo, .string dl, .pointer dq, .slice la ln lc, .slice ga gn gc] 50)).heap.size = w.heap.size + 1 := by simp
 have c1 : WA.heap[w.heap.size]? = some (.cells #[.pointer eo, .slice ra rn rc, .string pl, .pointer po, .string ql, .pointer qo, .string dl, .pointer dq, .slice la ln lc, .slice ga gn gc] 50 (0, 0)) := by rw [hWA]; exact blk_alloc (blk_new w _) _
 have c2 : WA.heap[w.heap.size + 1]? = some (.cells #[.pointer eo', .slice ra' rn' rc', .string pl', .pointer po', .string ql', .pointer qo', .string dl', .pointer dq', .slice la' ln' lc', .slice ga' gn' gc'] 50 (0, 0)) := by
  have := blk_new (w.alloc (.cells #[.pointer eo, .slice ra rn rc, .string pl, .pointer po, .string ql, .pointer qo, .string dl, .pointer dq, .slice la ln lc, .slice ga gn gc] 50)) (.cells #[.pointer eo', .slice ra' rn' rc', .string pl', .pointer po', .string ql', .pointer qo', .string dl', .pointer dq', .slice la' ln' lc', .slice ga' gn' gc'] 50)
  rw [hs1] at this
  rw [hWA]
  exact this
 have hB : Below w.heap.size w WA := by rw [hWA]; exact ((Below.refl _ w).alloc (Nat.le_refl _) _).alloc (by simp) _
 have HB := Aside0.mk hB
 have HWA := Aside0.mk hWA
 have HK := Aside0.mk (fun (W : World) (hB : Below WA.heap.size WA W) => And.intro (py_S10 (py_keep hB c1)) (py_S10 (py_keep hB c2)))
 have hp := h.below hB
 have hp' := h'.below hB
 clear c1 c2 hWA hs1 hB h h'
 cases z with
 | none =>
  cases (PtrAt.none hp)
  cases z' with
  | none =>
   cases (PtrAt.none hp')
   clear hp hp'
   go_enter Tryz.func56, Tryz.ntmps56
   go_upto_region 2 with fail
   rw [← HWA.out]
   obtain ⟨⟨k0, k1, k2, k3, k4, k5, k6, k7, k8, k9⟩, m0, m1, m2, m3, m4, m5, m6, m7, m8, m9⟩ := HK.out WA (Below.refl _ _)
   clear HWA HK
   go_wp2
   go_ret
   exact ⟨rfl, HB.out⟩
  | some b =>
   obtain ⟨o2, e2, _⟩ := PtrAt.some hp'
   cases e2
   clear hp hp'
   go_enter Tryz.func56, Tryz.ntmps56
   go_upto_region 2 with fail
   rw [← HWA.out]
   obtain ⟨⟨k0, k1, k2, k3, k4, k5, k6, k7, k8, k9⟩, m0, m1, m2, m3, m4, m5, m6, m7, m8, m9⟩ := HK.out WA (Below.refl _ _)
   clear HWA HK
   go_wp2
   go_ret
   exact ⟨rfl, HB.out⟩
 | some a =>
  obtain ⟨o1, e1, t1⟩ := PtrAt.some hp
  cases e1
  cases z' with
  | none =>
   cases (PtrAt.none hp')
   clear hp hp' t1
   go_enter Tryz.func56, Tryz.ntmps56
   go_upto_region 2 with fail
   rw [← HWA.out]
   obtain ⟨⟨k0, k1, k2, k3, k4, k5, k6, k7, k8, k9⟩, m0, m1, m2, m3, m4, m5, m6, m7, m8, m9⟩ := HK.out WA (Below.refl _ _)
   clear HWA HK
   go_wp2
   go_ret
   exact ⟨rfl, HB.out⟩
  | some b =>
   obtain ⟨o2, e2, t2⟩ := PtrAt.some hp'
   cases e2
   have HC : Aside0 (Calls Tryz.prog 60 #[.pointer (some ⟨o1, 0, none⟩), .pointer (some ⟨o2, 0, none⟩)] WA fun e w' => e = .returned (.int .i64 (Bn.cmpZ a b)) ∧ Below WA.heap.size WA w') := ⟨(big_Cmp _ _ a b WA t1 t2).mono fun e w' h => ⟨h.1, py_drawn h.2⟩⟩
   clear hp hp' t1 t2
   go_enter Tryz.func56, Tryz.ntmps56
   go_upto_region 2 with fail
   rw [← HWA.out]
   obtain ⟨⟨k0, k1, k2, k3, k4, k5, k6, k7, k8, k9⟩, m0, m1, m2, m3, m4, m5, m6, m7, m8, m9⟩ := HK.out WA (Below.refl _ _)
   clear HWA HK
   go_wp2_with (go_at_call 60; (with_reducible refine (HC.out).mono ?_))
   rintro e W1 ⟨rfl, hB1⟩
   have HB1 := Aside0.mk (py_next HB.out hB1)
   clear hB1 HC HB k0 k1 k2 k3 k4 k5 k6 k7 k8 k9 m0 m1 m2 m3 m4 m5 m6 m7 m8 m9
   go_wp2
   go_ret
   exact ⟨rfl, HB1.out⟩
theorem py_spot {w : World} {a : Addr} {v : Value} (h : w.cell? a = some v) : a.spot = none := by
 unfold World.cell? at h
 split at h
 ·split at h
  ·cases h
  ·rename_i hs
   simpa using hs
 ·cases h
theorem py_joinAt (ad : Addr) (c : Nat) (xs : List ByteArray) (w : World) (h : ∀ (j : Nat) x, xs[j]? = some x → w.cell? (ad.add j) = some (.string x)) (hne : xs ≠ []) (hN : xs.length ≤ 140737488355328) (hc : xs.length ≤ c) (hl : (Lib.join (xs.map (·.data.toList)) []).length ≤ 140737488355328) :
  Calls Tryz.prog 62 #[.slice (some ad) xs.length c, .string ⟨#[]⟩] w fun e w' => e = .returned (.string ⟨(Lib.join (xs.map (·.data.toList)) []).toArray⟩) ∧ Below w.heap.size w w' := by
 obtain ⟨x, r, rfl⟩ : ∃ x r, xs = x :: r := by
  cases xs with
  | nil => exact absurd rfl hne
  | cons x r => exact ⟨x, r, rfl⟩
 have h0 : w.cell? ad = some (.string x) := h 0 x rfl
 obtain ⟨bk, o, sp⟩ := ad
 have hs : sp = none := py_spot h0
 subst hs
 exact Tryz.strings_Join bk o c (x :: r) ⟨#[]⟩ w (fun j y hy => by have := h j y hy; rw [Addr.add_mid] at this; exact this) (World.block_lt_of_cell? w _ h0) hN hc hl
def pyLegC (a b : List ByteArray) : Int := if a = [] then (if b = [] then 0 else 1) else if b = [] then -1 else Lib.compareBytes (Lib.join (a.map (·.data.toList)) []) (Lib.join (b.map (·.data.toList)) [])
theorem py_len {A : Option Addr} {n : Nat} {xs : List ByteArray} {w : World} (h : Kd.C Kd.string w A n xs) : n = xs.length := h.1.symm
theorem py_join (A : Option Addr) (c : Nat) (xs : List ByteArray) (w : World) (h : Kd.C Kd.string w A xs.length xs) (hc : xs.length ≤ c) (hne : xs ≠ []) (hN : xs.length ≤ 140737488355328) (hl : (Lib.join (xs.map (·.data.toList)) []).length ≤ 140737488355328) :
  Calls Tryz.prog 62 #[.slice A xs.length c, .string ⟨#[]⟩] w fun e w' => e = .returned (.string ⟨(Lib.join (xs.map (·.data.toList)) []).toArray⟩) ∧ Below w.heap.size w w' := by
 obtain ⟨ad, rfl, hcell⟩ := h.2.2 (List.length_pos_iff.2 hne)
 have cell : ∀ (j : Nat) x, xs[j]? = some x → w.cell? (ad.add j) = some (.string x) := fun j x hx => by
  obtain ⟨cs, _, hR, hi⟩ := hcell j x hx
  have e : cs = [.string x] := hR
  subst e
  have := hi 0 _ rfl
  rw [Nat.add_zero] at this
  exact (congrArg w.cell? (congrArg ad.add (Nat.mul_one j).symm)).trans this
 exact py_joinAt ad c xs w cell hne hN hc hl
set_option maxRecDepth 100000 in
set_option maxHeartbeats 4000000 in
theorem py_legacy (pl ql dl : ByteArray) (eo po qo dq ra : Option Addr) (rn rc : Nat) (la ga : Option Addr) (ln lc gn gc : Nat) (pl' ql' dl' : ByteArray) (eo' po' qo' dq' ra' : Option Addr) (rn' rc' : Nat) (la' ga' : Option Addr) (ln' lc' gn' gc' : Nat) (a b : List ByteArray) (w : World) (h : Kd.C Kd.string w ga gn a) (h' : Kd.C Kd.string w ga' gn' b) (hc : gn ≤ gc) (hc' : gn' ≤ gc') (hN : a.length ≤ 1000) (hN' : b.length ≤ 1000) (hm : (Lib.join (a.map (·.data.toList)) []).length ≤ 100000000) (hm' : (Lib.join (b.map (·.data.toList)) []).length ≤ 100000000) :
  Calls Tryz.prog 51 #[.agg #[.pointer eo, .slice ra rn rc, .string pl, .pointer po, .string ql, .pointer qo, .string dl, .pointer dq, .slice la ln lc, .slice ga gn gc], .agg #[.pointer eo', .slice ra' rn' rc', .string pl', .pointer po', .string ql', .pointer qo', .string dl', .pointer dq', .slice la' ln' lc', .slice ga' gn' gc']] w fun e w' => e = .returned (.int .i64 (pyLegC a b)) ∧ Below w.heap.size w w' := by
 obtain ⟨WA, hWA⟩ : ∃ WA : World, WA = (w.alloc (.cells #[.pointer eo, .slice ra rn rc, .string pl, .pointer po, .string ql, .pointer qo, .string dl, .pointer dq, .slice la ln lc, .slice ga gn gc] 50)).alloc (.cells #[.pointer eo', .slice ra' rn' rc', .string pl', .pointer po', .string ql', .pointer qo', .string dl', .pointer dq', .slice la' ln' lc', .slice ga' gn' gc'] 50) := ⟨_, rfl⟩
 have hs1 : (w.alloc (.cells #[.pointer eo, .slice ra rn rc, .string pl, .pointer po, .string ql, .pointer qo, .string dl, .pointer dq, .slice la ln lc, .slice ga gn gc] 50)).heap.size = w.heap.size + 1 := by simp
 have c1 : WA.heap[w.heap.size]? = some (.cells #[.pointer eo, .slice ra rn rc, .string pl, .pointer po, .string ql, .pointer qo, .string dl, .pointer dq, .slice la ln lc, .slice ga gn gc] 50 (0, 0)) := by rw [hWA]; exact blk_alloc (blk_new w _) _
 have c2 : WA.heap[w.heap.size + 1]? = some (.cells #[.pointer eo', .slice ra' rn' rc', .string pl', .pointer po', .string ql', .pointer qo', .string dl', .pointer dq', .slice la' ln' lc', .slice ga' gn' gc'] 50 (0, 0)) := by
  have := blk_new (w.alloc (.cells #[.pointer eo, .slice ra rn rc, .string pl, .pointer po, .string ql, .pointer qo, .string dl, .pointer dq, .slice la ln lc, .slice ga gn gc] 50)) (.cells #[.pointer eo', .slice ra' rn' rc', .string pl', .pointer po', .string ql', .pointer qo', .string dl', .pointer dq', .slice la' ln' lc', .slice ga' gn' gc'] 50)
  rw [hs1] at this
  rw [hWA]
  exact this
 have hB : Below w.heap.size w WA := by rw [hWA]; exact ((Below.refl _ w).alloc (Nat.le_refl _) _).alloc (by simp) _
 have HB := Aside0.mk hB
 have HWA := Aside0.mk hWA
 have HK := Aside0.mk (fun (W : World) (hB : Below WA.heap.size WA W) => And.intro (py_S10 (py_keep hB c1)) (py_S10 (py_keep hB c2)))
 have hl0 := py_len h
 have hl1 := py_len h'
 by_cases ea : a = []
 ·by_cases eb : b = []
  ·have n0 : gn = 0 := by rw [hl0, ea]; rfl
   have n1 : gn' = 0 := by rw [hl1, eb]; rfl
   have HR : Aside0 (pyLegC a b = 0) := ⟨by unfold pyLegC; rw [if_pos ea, if_pos eb]⟩
   clear c1 c2 hWA hs1 hB h h' hl0 hl1 ea eb
   subst n0 n1
   go_enter Tryz.func51, Tryz.ntmps51
   go_upto_region 1 with fail
   rw [← HWA.out]
   obtain ⟨⟨k0, k1, k2, k3, k4, k5, k6, k7, k8, k9⟩, m0, m1, m2, m3, m4, m5, m6, m7, m8, m9⟩ := HK.out WA (Below.refl _ _)
   clear HWA HK
   go_wp2
   go_ret
   exact ⟨by rw [HR.out]; rfl, HB.out⟩
  ·have n0 : gn = 0 := by rw [hl0, ea]; rfl
   have n1 : 0 < gn' := by rw [hl1]; exact List.length_pos_iff.2 eb
   have HR : Aside0 (pyLegC a b = 1) := ⟨by unfold pyLegC; rw [if_pos ea, if_neg eb]⟩
   have b1 : (gn' == 0) = false := beq_eq_false_iff_ne.2 (by omega)
   have b2 : ((gn' : Int) == 0) = false := beq_eq_false_iff_ne.2 (by omega)
   have d1 : ¬ gn' = 0 := by omega
   have e1 : decide (gn' = 0) = false := decide_eq_false (by omega)
   have f1 : (gn' != 0) = true := bne_iff_ne.2 (by omega)
   clear c1 c2 hWA hs1 hB h h' hl0 hl1 ea eb n1
   subst n0
   go_enter Tryz.func51, Tryz.ntmps51
   go_upto_region 1 with fail
   rw [← HWA.out]
   obtain ⟨⟨k0, k1, k2, k3, k4, k5, k6, k7, k8, k9⟩, m0, m1, m2, m3, m4, m5, m6, m7, m8, m9⟩ := HK.out WA (Below.refl _ _)
   clear HWA HK
   go_wp2
   go_ret
   exact ⟨by rw [HR.out]; rfl, HB.out⟩
 ·have n0 : 0 < gn := by rw [hl0]; exact List.length_pos_iff.2 ea
  have b3 : (gn == 0) = false := beq_eq_false_iff_ne.2 (by omega)
  have b4 : ((gn : Int) == 0) = false := beq_eq_false_iff_ne.2 (by omega)
  have d2 : ¬ gn = 0 := by omega
  have e2 : decide (gn = 0) = false := decide_eq_false (by omega)
  have f2 : (gn != 0) = true := bne_iff_ne.2 (by omega)
  by_cases eb : b = []
  ·have n1 : gn' = 0 := by rw [hl1, eb]; rfl
   have HR : Aside0 (pyLegC a b = -1) := ⟨by unfold pyLegC; rw [if_neg ea, if_pos eb]⟩
   clear c1 c2 hWA hs1 hB h h' hl0 hl1 ea eb n0
   subst n1
   go_enter Tryz.func51, Tryz.ntmps51
   go_upto_region 1 with fail
   rw [← HWA.out]
   obtain ⟨⟨k0, k1, k2, k3, k4, k5, k6, k7, k8, k9⟩, m0, m1, m2, m3, m4, m5, m6, m7, m8, m9⟩ := HK.out WA (Below.refl _ _)
   clear HWA HK
   go_wp2
   go_ret
   exact ⟨by rw [HR.out]; rfl, HB.out⟩
  ·have n1 : 0 < gn' := by rw [hl1]; exact List.length_pos_iff.2 eb
   have b1 : (gn' == 0) = false := beq_eq_false_iff_ne.2 (by omega)
   have b2 : ((gn' : Int) == 0) = false := beq_eq_false_iff_ne.2 (by omega)
   have d1 : ¬ gn' = 0 := by omega
   have e1 : decide (gn' = 0) = false := decide_eq_false (by omega)
   have f1 : (gn' != 0) = true := bne_iff_ne.2 (by omega)
   have HR : Aside0 (pyLegC a b = Lib.compareBytes (Lib.join (a.map (·.data.toList)) []) (Lib.join (b.map (·.data.toList)) [])) := ⟨by unfold pyLegC; rw [if_neg ea, if_neg eb]⟩
   obtain ⟨s, hs⟩ : ∃ s, s = Lib.join (a.map (·.data.toList)) [] := ⟨_, rfl⟩
   obtain ⟨t, ht⟩ : ∃ t, t = Lib.join (b.map (·.data.toList)) [] := ⟨_, rfl⟩
   have HJ : Aside0 (∀ W, Below w.heap.size w W → Calls Tryz.prog 62 #[.slice ga gn gc, .string ⟨#[]⟩] W fun e w' => e = .returned (.string ⟨s.toArray⟩) ∧ Below W.heap.size W w') := ⟨fun W hB => by
    rw [hl0, hs]
    exact py_join ga gc a W (by have := Kd.C_below h hB; rw [hl0] at this; exact this) (by rw [← hl0]; exact hc) ea (by omega) (by omega)⟩
   have HJ' : Aside0 (∀ W, Below w.heap.size w W → Calls Tryz.prog 62 #[.slice ga' gn' gc', .string ⟨#[]⟩] W fun e w' => e = .returned (.string ⟨t.toArray⟩) ∧ Below W.heap.size W w') := ⟨fun W hB => by
    rw [hl1, ht]
    exact py_join ga' gc' b W (by have := Kd.C_below h' hB; rw [hl1] at this; exact this) (by rw [← hl1]; exact hc') eb (by omega) (by omega)⟩
   have HC := Aside0.mk (Tryz.strings_Compare ⟨s.toArray⟩ ⟨t.toArray⟩)
   rw [← hs, ← ht] at HR
   clear c1 c2 hWA hs1 hB h h' hl0 hl1 ea eb n0 n1 hs ht hm hm' hN hN' hc hc'
   go_enter Tryz.func51, Tryz.ntmps51
   go_upto_region 1 with fail
   rw [← HWA.out]
   obtain ⟨⟨k0, k1, k2, k3, k4, k5, k6, k7, k8, k9⟩, m0, m1, m2, m3, m4, m5, m6, m7, m8, m9⟩ := HK.out WA (Below.refl _ _)
   clear HWA HK
   have c99 := HB.out
   go_upto_region 7 with fail
   clear k0 k1 k2 k3 k4 k5 k6 k7 k8 m0 m1 m2 m3 m4 m5 m6 m7 m8
   go_region_held3 (fun w' => w'.cell? ⟨w.heap.size, 9, none⟩ = some (.slice ga gn gc) ∧ w'.cell? ⟨w.heap.size + 1, 9, none⟩ = some (.slice ga' gn' gc')) (first | exact ⟨by with_reducible assumption, by with_reducible assumption⟩ | exact ⟨k9, m9⟩)
    (first
     | (go_at_call 62; (with_reducible refine (HJ.out _ ?_).mono ?_); (first | (with_reducible assumption) | exact c99 | exact below_drew c99); rintro e w1 ⟨rfl, hb1⟩; have q1 := py_hcell hb1 (a := ⟨w.heap.size, 9, none⟩) (v := .slice ga gn gc) (by first | (with_reducible assumption) | exact k9); have q2 := py_hcell hb1 (a := ⟨w.heap.size + 1, 9, none⟩) (v := .slice ga' gn' gc') (by first | (with_reducible assumption) | exact m9); have B1 : Below w.heap.size w w1 := py_next (by first | (with_reducible assumption) | exact c99 | exact below_drew c99) hb1)
     | (go_at_call 62; (with_reducible refine (HJ'.out _ ?_).mono ?_); (first | (with_reducible assumption) | exact c99 | exact below_drew c99); rintro e w2 ⟨rfl, hb2⟩; have r1 := py_hcell hb2 (a := ⟨w.heap.size, 9, none⟩) (v := .slice ga gn gc) (by first | (with_reducible assumption) | exact k9); have r2 := py_hcell hb2 (a := ⟨w.heap.size + 1, 9, none⟩) (v := .slice ga' gn' gc') (by first | (with_reducible assumption) | exact m9); have B2 : Below w.heap.size w w2 := py_next (by first | (with_reducible assumption) | exact c99 | exact below_drew c99) hb2)
     | (go_at_call 61; (with_reducible refine (HC.out _).mono ?_); rintro e w3 ⟨rfl, rfl⟩))
   go_wp2
   go_ret
   exact ⟨by rw [HR.out]; rfl, by first | exact B2 | exact pw_below_drewN B2 _⟩
/-- How two segments of local versions compare; how two lists do. -/
def pySegC (x y : ByteArray) : Int := match Ss.cvt x, Ss.cvt y with
 | some a, some b => Bn.cmpZ a b
 | none, none => Lib.compareBytes (By.bl x) (By.bl y)
 | some _, none => 1
 | none, some _ => -1
def pyLocC : List ByteArray → List ByteArray → Int
 | x :: l, y :: r => if pySegC x y = 0 then pyLocC l r else if 0 < pySegC x y then 1 else -1
 | [], [] => 0
 | _ :: _, [] => 1
 | [], _ :: _ => -1
theorem py_str {w : World} {A : Option Addr} {n : Nat} {xs : List ByteArray} (h : Kd.C Kd.string w A n xs) (i : Nat) (h1 : i < xs.length) (hn : n = xs.length) : ∃ ad, A = some ad ∧ w.cell? (ad.add i) = some (.string xs[i]) := by
 obtain ⟨ad, c, e, _, hK, hc0⟩ := Kd.C_get h xs[i] (i : Int) (by omega) (by omega)
 have hc : ∀ j u, c[j]? = some u → w.cell? (ad.add (i * 1 + j)) = some u := hc0
 have hg : xs.getD (i : Int).toNat xs[i] = xs[i] := by rw [Int.toNat_natCast, List.getD_eq_getElem?_getD, List.getElem?_eq_getElem h1]; rfl
 rw [hg] at hK
 have hcs : c = [.string xs[i]] := hK
 subst hcs
 have := hc 0 _ rfl
 rw [Nat.mul_one, Nat.add_zero] at this
 exact ⟨ad, e, this⟩
theorem pyLocC_step (l r : List ByteArray) (i : Nat) (h : i < l.length) (h' : i < r.length) : pyLocC (l.drop i) (r.drop i) = if pySegC l[i] r[i] = 0 then pyLocC (l.drop (i + 1)) (r.drop (i + 1)) else if 0 < pySegC l[i] r[i] then 1 else -1 := by
 rw [List.drop_eq_getElem_cons h, List.drop_eq_getElem_cons h', pyLocC]
theorem pyLocC_end (l r : List ByteArray) (i : Nat) (hi : i = l.length ∨ i = r.length) (h : i ≤ l.length) (h' : i ≤ r.length) : pyLocC (l.drop i) (r.drop i) = if r.length < l.length then 1 else if l.length < r.length then -1 else 0 := by
 rcases hi with rfl | rfl
 ·rw [List.drop_length, if_neg (by omega)]
  by_cases hl : l.length < r.length
  ·rw [if_pos hl, List.drop_eq_getElem_cons hl]
   rfl
  ·rw [if_neg hl, List.drop_eq_nil_of_le (by omega)]
   rfl
 ·rw [List.drop_length]
  by_cases hl : r.length < l.length
  ·rw [if_pos hl, List.drop_eq_getElem_cons hl]
   rfl
  ·rw [if_neg hl, if_neg (by omega), List.drop_eq_nil_of_le (by omega)]
   rfl
attribute [local go_sem] Ss.EV
def pyN : Value → Nat
 | .int _ n => n.toNat
 | _ => 0
set_option maxRecDepth 100000 in
set_option maxHeartbeats 8000000 in
theorem py_local (pl ql dl : ByteArray) (eo po qo dq ra : Option Addr) (rn rc : Nat) (la ga : Option Addr) (ln lc gn gc : Nat) (pl' ql' dl' : ByteArray) (eo' po' qo' dq' ra' : Option Addr) (rn' rc' : Nat) (la' ga' : Option Addr) (ln' lc' gn' gc' : Nat) (l0 l1 : List ByteArray) (r : Int) (w : World) (h : Kd.C Kd.string w la ln l0) (h' : Kd.C Kd.string w la' ln' l1) (hf : ∀ x ∈ l0, x.size ≤ 1000000) (hf' : ∀ x ∈ l1, x.size ≤ 1000000) (hG : GW w) (hr : r = pyLocC l0 l1) :
  Calls Tryz.prog 50 #[.agg #[.pointer eo, .slice ra rn rc, .string pl, .pointer po, .string ql, .pointer qo, .string dl, .pointer dq, .slice la ln lc, .slice ga gn gc], .agg #[.pointer eo', .slice ra' rn' rc', .string pl', .pointer po', .string ql', .pointer qo', .string dl', .pointer dq', .slice la' ln' lc', .slice ga' gn' gc']] w fun e w' => e = .returned (.int .i64 r) ∧ Below w.heap.size w w' := by
 obtain ⟨WA, hWA⟩ : ∃ WA : World, WA = (w.alloc (.cells #[.pointer eo, .slice ra rn rc, .string pl, .pointer po, .string ql, .pointer qo, .string dl, .pointer dq, .slice la ln lc, .slice ga gn gc] 50)).alloc (.cells #[.pointer eo', .slice ra' rn' rc', .string pl', .pointer po', .string ql', .pointer qo', .string dl', .pointer dq', .slice la' ln' lc', .slice ga' gn' gc'] 50) := ⟨_, rfl⟩
 have hs1 : (w.alloc (.cells #[.pointer eo, .slice ra rn rc, .string pl, .pointer po, .string ql, .pointer qo, .string dl, .pointer dq, .slice la ln lc, .slice ga gn gc] 50)).heap.size = w.heap.size + 1 := by simp
 have c1 : WA.heap[w.heap.size]? = some (.cells #[.pointer eo, .slice ra rn rc, .string pl, .pointer po, .string ql, .pointer qo, .string dl, .pointer dq, .slice la ln lc, .slice ga gn gc] 50 (0, 0)) := by rw [hWA]; exact blk_alloc (blk_new w _) _
 have c2 : WA.heap[w.heap.size + 1]? = some (.cells #[.pointer eo', .slice ra' rn' rc', .string pl', .pointer po', .string ql', .pointer qo', .string dl', .pointer dq', .slice la' ln' lc', .slice ga' gn' gc'] 50 (0, 0)) := by
  have := blk_new (w.alloc (.cells #[.pointer eo, .slice ra rn rc, .string pl, .pointer po, .string ql, .pointer qo, .string dl, .pointer dq, .slice la ln lc, .slice ga gn gc] 50)) (.cells #[.pointer eo', .slice ra' rn' rc', .string pl', .pointer po', .string ql', .pointer qo', .string dl', .pointer dq', .slice la' ln' lc', .slice ga' gn' gc'] 50)
  rw [hs1] at this
  rw [hWA]
  exact this
 have hB : Below w.heap.size w WA := by rw [hWA]; exact ((Below.refl _ w).alloc (Nat.le_refl _) _).alloc (by simp) _
 have HB := Aside0.mk hB
 have HWA := Aside0.mk hWA
 have HK := Aside0.mk (fun (W : World) (hB : Below WA.heap.size WA W) => And.intro (py_S10 (py_keep hB c1)) (py_S10 (py_keep hB c2)))
 have HR0 := Aside0.mk (Kd.C_below h hB)
 have HR1 := Aside0.mk (Kd.C_below h' hB)
 have HG := Aside0.mk (GW.below hG hB)
 have HF := Aside0.mk (And.intro hf hf')
 have HRES : Aside0 (r = pyLocC (l0.drop 0) (l1.drop 0)) := ⟨hr⟩
 have HN : Aside0 (ln = l0.length ∧ ln' = l1.length) := ⟨py_len h, py_len h'⟩
 have hm0 := Kd.C_max h
 have hm1 := Kd.C_max h'
 clear c1 c2 hWA hs1 hB h h' hG hf hf' hr
 go_enter Tryz.func50, Tryz.ntmps50
 go_upto_region 1 with fail
 rw [← HWA.out]
 clear HWA
 obtain ⟨⟨-, -, -, -, -, -, -, -, kc, -⟩, -, -, -, -, -, -, -, -, kd, -⟩ := HK.out WA (Below.refl _ _)
 go_upto_region 2 with fail
 go_cut [5] (fun v5 wc => Aside0 (wc = WA) ∧ ∃ m : Nat, v5 = .int .i64 (m : Int) ∧ m ≤ ln ∧ m ≤ ln' ∧ (m = ln ∨ m = ln'))
 case first =>
  rcases Nat.lt_or_ge ln' ln with hlt | hge
  ·go_wp2
   all_goals
    go_meet
    exact ⟨⟨rfl⟩, _, rfl, by omega, by omega, by omega⟩
  ·go_wp2
   all_goals
    go_meet
    exact ⟨⟨rfl⟩, _, rfl, by omega, by omega, by omega⟩
 case rest =>
  obtain ⟨⟨rfl⟩, m, rfl, hma, hmb, hmc⟩ := hcut
  clear kc kd
  go_wp2
  go_loopw [20] (fun v20 wr => ∃ i : Nat, v20 = .int .i64 (i : Int) ∧ i ≤ m ∧ Aside0 (r = pyLocC (l0.drop i) (l1.drop i)) ∧ Aside0 (Below wc.heap.size wc wr)) (fun v20 wr => m - pyN v20)
  case atStart => exact ⟨0, rfl, Nat.zero_le _, HRES, ⟨Below.refl _ _⟩⟩
  case round =>
   obtain ⟨i, rfl, him, HI, HBL⟩ := hrel
   obtain ⟨⟨-, -, -, -, -, -, -, -, kc, -⟩, -, -, -, -, -, -, -, -, kd, -⟩ := HK.out wr HBL.out
   by_cases hi : i < m
   ·have hd : decide ((i : Int) < (m : Int)) = true := decide_eq_true (by omega)
    have hd2 : decide (i < m) = true := decide_eq_true hi
    have hl0 : i < l0.length := by have := HN.out.1; omega
    have hl1 : i < l1.length := by have := HN.out.2; omega
    obtain ⟨ad0, rfl, hx0⟩ := py_str (Kd.C_below HR0.out HBL.out) i hl0 HN.out.1
    obtain ⟨ad1, rfl, hx1⟩ := py_str (Kd.C_below HR1.out HBL.out) i hl1 HN.out.2
    have hst := pyLocC_step l0 l1 i hl0 hl1
    rw [← HI.out] at hst
    have hs0 : (l0[i]).size ≤ 1000000 := HF.out.1 _ (List.getElem_mem hl0)
    have hs1 : (l1[i]).size ≤ 1000000 := HF.out.2 _ (List.getElem_mem hl1)
    generalize l0[i] = x at hx0 hst hs0
    generalize l1[i] = y at hx1 hst hs1
    have hi0 : (0 : Int) ≤ (i : Int) := by omega
    have hia : (i : Int) < (ln : Int) := by omega
    have hib : (i : Int) < (ln' : Int) := by omega
    have hC0 := Aside0.mk (Ss.ss_convert x wr hs0 (GW.below HG.out HBL.out))
    have HST := Aside0.mk hst
    have HX : Aside0 (y.size ≤ 1000000 ∧ i < m) := ⟨hs1, hi⟩
    have hcell0 : Aside0 (∀ W, Below wr.heap.size wr W → W.cell? (ad0.add i) = some (.string x) ∧ W.cell? (ad1.add i) = some (.string y) ∧ W.cell? ⟨w.heap.size, 8, none⟩ = some (.slice (some ad0) ln lc) ∧ W.cell? ⟨w.heap.size + 1, 8, none⟩ = some (.slice (some ad1) ln' lc')) := ⟨fun W h => ⟨py_hcell h hx0, py_hcell h hx1, py_hcell h kc, py_hcell h kd⟩⟩
    clear hst hs0 hs1 hl0 hl1 hi
    go_wp2_with (go_at_call 59; (with_reducible refine (hC0.out).mono ?_))
    rintro e W1 ⟨hB1, h1⟩
    obtain ⟨q0, q1, q2, q3⟩ := hcell0.out W1 hB1
    have HB1 := Aside0.mk hB1
    have hC1 := Aside0.mk (Ss.ss_convert y W1 HX.out.1 (GW.below (GW.below HG.out HBL.out) hB1))
    clear hB1 hx0 hx1 kc kd hC0
    rcases h1 with ⟨hn, a, rfl⟩ | ⟨z, o, hz, rfl, hO⟩
    ·have HC0 := Aside0.mk hn
     clear hn
     go_wp2_with (go_at_call 59; (with_reducible refine (hC1.out).mono ?_))
     rintro e W2 ⟨hB2, h2⟩
     have HBW := HB1.out.trans (hB2.mono HB1.out.size)
     obtain ⟨p0, p1, p2, p3⟩ := hcell0.out W2 HBW
     have HB2 : Aside0 (Below w.heap.size w W2) := ⟨py_next HB.out (py_next HBL.out HBW)⟩
     have HL2 : Aside0 (Below wc.heap.size wc W2) := ⟨py_next HBL.out HBW⟩
     clear HBW q0 q1 q2 q3
     rcases h2 with ⟨hn, a2, rfl⟩ | ⟨z2, o2, hz2, rfl, hO2⟩
     ·have HC1 := Aside0.mk hn
      clear hn hB2
      have hcmp := Tryz.strings_Compare x y
      have HID : Aside0 (pySegC x y = Lib.compareBytes x.data.toList y.data.toList) := ⟨by unfold pySegC; rw [HC0.out, HC1.out]; rfl⟩
      obtain ⟨v, hv⟩ : ∃ v, v = Lib.compareBytes x.data.toList y.data.toList := ⟨_, rfl⟩
      rw [← hv] at hcmp HID
      clear hv hC1
      have HCMP := Aside0.mk hcmp
      clear hcmp
      rcases Int.lt_trichotomy v 0 with hv | hv | hv
      ·have b0 : (v == 0) = false := beq_eq_false_iff_ne.2 (by omega)
       have b1 : decide (0 < v) = false := decide_eq_false (by omega)
       have HR : Aside0 (r = -1) := ⟨by rw [HST.out, HID.out, if_neg (by omega), if_neg (by omega)]⟩
       clear hv
       go_wp2
       go_quiet ((go_at_call 61; exact Calls.quiet_of_same (HCMP.out _)))
       go_wp2
       go_ret
       exact ⟨by rw [HR.out]; rfl, pw_below_drewN HB2.out _⟩
      ·have b0 : (v == 0) = true := beq_iff_eq.2 hv
       have HR : Aside0 (r = pyLocC (l0.drop (i + 1)) (l1.drop (i + 1))) := ⟨by rw [HST.out, HID.out, if_pos hv]⟩
       subst hv
       go_wp2
       go_quiet ((go_at_call 61; exact Calls.quiet_of_same (HCMP.out _)))
       go_wp2
       go_roundw
       case rel => exact ⟨i + 1, by go_num, by have := HX.out.2; omega, HR, ⟨pw_below_drewN HL2.out _⟩⟩
       case measure =>
        have := HX.out.2
        show m - pyN _ < m - pyN _
        simp only [pyN]
        omega
      ·have b0 : (v == 0) = false := beq_eq_false_iff_ne.2 (by omega)
       have b1 : decide (0 < v) = true := decide_eq_true (by omega)
       have HR : Aside0 (r = 1) := ⟨by rw [HST.out, HID.out, if_neg (by omega), if_pos (by omega)]⟩
       clear hv
       go_wp2
       go_quiet ((go_at_call 61; exact Calls.quiet_of_same (HCMP.out _)))
       go_wp2
       go_ret
       exact ⟨by rw [HR.out]; rfl, pw_below_drewN HB2.out _⟩
     ·have HC1 := Aside0.mk hz2
      clear hz2 hO2 hB2 p0 p1 p2 p3
      have HID : Aside0 (pySegC x y = -1) := ⟨by unfold pySegC; rw [HC0.out, HC1.out]⟩
      have HR : Aside0 (r = -1) := ⟨by rw [HST.out, HID.out, if_neg (by decide), if_neg (by decide)]⟩
      clear hC1
      go_wp2
      go_ret
      exact ⟨by rw [HR.out]; rfl, HB2.out⟩
    ·have HC0 := Aside0.mk hz
     have HO := Aside0.mk hO
     clear hz hO
     go_wp2_with (go_at_call 59; (with_reducible refine (hC1.out).mono ?_))
     rintro e W2 ⟨hB2, h2⟩
     have HBW := HB1.out.trans (hB2.mono HB1.out.size)
     have HB2 : Aside0 (Below w.heap.size w W2) := ⟨py_next HB.out (py_next HBL.out HBW)⟩
     have HL2 : Aside0 (Below wc.heap.size wc W2) := ⟨py_next HBL.out HBW⟩
     clear HBW q0 q1 q2 q3
     rcases h2 with ⟨hn, a2, rfl⟩ | ⟨z2, o2, hz2, rfl, hO2⟩
     ·have HC1 := Aside0.mk hn
      clear hn hB2
      have HID : Aside0 (pySegC x y = 1) := ⟨by unfold pySegC; rw [HC0.out, HC1.out]⟩
      have HR : Aside0 (r = 1) := ⟨by rw [HST.out, HID.out, if_neg (by decide), if_pos (by decide)]⟩
      clear hC1
      go_wp2
      go_ret
      exact ⟨by rw [HR.out]; rfl, HB2.out⟩
     ·have HC1 := Aside0.mk hz2
      clear hz2
      have hcmp := big_Cmp _ _ z z2 W2 (HO.out.at_.below hB2) hO2.at_
      have HID : Aside0 (pySegC x y = Bn.cmpZ z z2) := ⟨by unfold pySegC; rw [HC0.out, HC1.out]⟩
      obtain ⟨v, hv⟩ : ∃ v, v = Bn.cmpZ z z2 := ⟨_, rfl⟩
      rw [← hv] at hcmp HID
      clear hv hC1 hO2 hB2
      have HCMP := Aside0.mk hcmp
      clear hcmp
      rcases Int.lt_trichotomy v 0 with hv | hv | hv
      ·have b0 : (v == 0) = false := beq_eq_false_iff_ne.2 (by omega)
       have b1 : decide (0 < v) = false := decide_eq_false (by omega)
       have HR : Aside0 (r = -1) := ⟨by rw [HST.out, HID.out, if_neg (by omega), if_neg (by omega)]⟩
       clear hv
       go_wp2_with (go_at_call 60; (with_reducible refine (HCMP.out).mono ?_); rintro e W3 ⟨rfl, ⟨n3, rfl⟩⟩)
       go_ret
       exact ⟨by rw [HR.out]; rfl, pw_below_drewN HB2.out _⟩
      ·have b0 : (v == 0) = true := beq_iff_eq.2 hv
       have HR : Aside0 (r = pyLocC (l0.drop (i + 1)) (l1.drop (i + 1))) := ⟨by rw [HST.out, HID.out, if_pos hv]⟩
       subst hv
       go_wp2_with (go_at_call 60; (with_reducible refine (HCMP.out).mono ?_); rintro e W3 ⟨rfl, ⟨n3, rfl⟩⟩)
       go_roundw
       case rel => exact ⟨i + 1, by go_num, by have := HX.out.2; omega, HR, ⟨pw_below_drewN HL2.out _⟩⟩
       case measure =>
        have := HX.out.2
        show m - pyN _ < m - pyN _
        simp only [pyN]
        omega
      ·have b0 : (v == 0) = false := beq_eq_false_iff_ne.2 (by omega)
       have b1 : decide (0 < v) = true := decide_eq_true (by omega)
       have HR : Aside0 (r = 1) := ⟨by rw [HST.out, HID.out, if_neg (by omega), if_pos (by omega)]⟩
       clear hv
       go_wp2_with (go_at_call 60; (with_reducible refine (HCMP.out).mono ?_); rintro e W3 ⟨rfl, ⟨n3, rfl⟩⟩)
       go_ret
       exact ⟨by rw [HR.out]; rfl, pw_below_drewN HB2.out _⟩
   ·obtain rfl : i = m := by omega
    have hd : decide ((i : Int) < (i : Int)) = false := decide_eq_false (by omega)
    have HE : Aside0 (r = if l1.length < l0.length then 1 else if l0.length < l1.length then -1 else 0) := ⟨by rw [HI.out]; exact pyLocC_end l0 l1 i (by rw [← HN.out.1, ← HN.out.2]; exact hmc) (by have := HN.out.1; omega) (by have := HN.out.2; omega)⟩
    have HBE : Aside0 (Below w.heap.size w wr) := ⟨py_next HB.out HBL.out⟩
    rw [← HN.out.1, ← HN.out.2] at HE
    rcases Nat.lt_trichotomy ln ln' with hl | hl | hl
    ·have a1 : decide (ln' < ln) = false := decide_eq_false (by omega)
     have a2 : decide (ln < ln') = true := decide_eq_true hl
     have a3 : decide ((ln' : Int) < (ln : Int)) = false := decide_eq_false (by omega)
     have a4 : decide ((ln : Int) < (ln' : Int)) = true := decide_eq_true (by omega)
     have HR : Aside0 (r = -1) := ⟨by rw [HE.out, if_neg (by omega), if_pos hl]⟩
     clear hl hi
     go_wp2
     go_ret
     exact ⟨by rw [HR.out]; rfl, HBE.out⟩
    ·subst hl
     have HR : Aside0 (r = 0) := ⟨by rw [HE.out, if_neg (by omega), if_neg (by omega)]⟩
     have a1 : decide (ln < ln) = false := decide_eq_false (by omega)
     have a3 : decide ((ln : Int) < (ln : Int)) = false := decide_eq_false (by omega)
     clear hi
     go_wp2
     go_ret
     exact ⟨by rw [HR.out]; rfl, HBE.out⟩
    ·have a1 : decide (ln' < ln) = true := decide_eq_true hl
     have a3 : decide ((ln' : Int) < (ln : Int)) = true := decide_eq_true (by omega)
     have HR : Aside0 (r = 1) := ⟨by rw [HE.out, if_pos hl]⟩
     clear hl hi
     go_wp2
     go_ret
     exact ⟨by rw [HR.out]; rfl, HBE.out⟩
def pyChain : List Int → Int
 | [] => 0
 | v :: l => if v = 0 then pyChain l else v
theorem py_info10 : (Tryz.prog.info? 50).map (·.size) = some 10 := by kernel_rfl
set_option maxRecDepth 100000 in
set_option maxHeartbeats 8000000 in
theorem py_cmpv (pl ql dl : ByteArray) (eo po qo dq ra : Option Addr) (rn rc : Nat) (la ga : Option Addr) (ln lc gn gc : Nat) (pl' ql' dl' : ByteArray) (eo' po' qo' dq' ra' : Option Addr) (rn' rc' : Nat) (la' ga' : Option Addr) (ln' lc' gn' gc' : Nat) (v1 v2 v3 v4 v5 v6 v7 r : Int) (w : World) (h1 : ∀ W, Below w.heap.size w W → Calls Tryz.prog 51 #[.agg #[.pointer eo, .slice ra rn rc, .string pl, .pointer po, .string ql, .pointer qo, .string dl, .pointer dq, .slice la ln lc, .slice ga gn gc], .agg #[.pointer eo', .slice ra' rn' rc', .string pl', .pointer po', .string ql', .pointer qo', .string dl', .pointer dq', .slice la' ln' lc', .slice ga' gn' gc']] W fun e w' => e = .returned (.int .i64 v1) ∧ Below W.heap.size W w') (h2 : ∀ W, Below w.heap.size w W → Calls Tryz.prog 52 #[.agg #[.pointer eo, .slice ra rn rc, .string pl, .pointer po, .string ql, .pointer qo, .string dl, .pointer dq, .slice la ln lc, .slice ga gn gc], .agg #[.pointer eo', .slice ra' rn' rc', .string pl', .pointer po', .string ql', .pointer qo', .string dl', .pointer dq', .slice la' ln' lc', .slice ga' gn' gc']] W fun e w' => e = .returned (.int .i64 v2) ∧ Below W.heap.size W w') (h3 : ∀ W, Below w.heap.size w W → Calls Tryz.prog 53 #[.agg #[.pointer eo, .slice ra rn rc, .string pl, .pointer po, .string ql, .pointer qo, .string dl, .pointer dq, .slice la ln lc, .slice ga gn gc], .agg #[.pointer eo', .slice ra' rn' rc', .string pl', .pointer po', .string ql', .pointer qo', .string dl', .pointer dq', .slice la' ln' lc', .slice ga' gn' gc']] W fun e w' => e = .returned (.int .i64 v3) ∧ Below W.heap.size W w') (h4 : v1 = 0 → v2 = 0 → v3 = 0 → ∀ W, Below w.heap.size w W → Calls Tryz.prog 54 #[.agg #[.pointer eo, .slice ra rn rc, .string pl, .pointer po, .string ql, .pointer qo, .string dl, .pointer dq, .slice la ln lc, .slice ga gn gc], .agg #[.pointer eo', .slice ra' rn' rc', .string pl', .pointer po', .string ql', .pointer qo', .string dl', .pointer dq', .slice la' ln' lc', .slice ga' gn' gc']] W fun e w' => e = .returned (.int .i64 v4) ∧ Below W.heap.size W w') (h5 : ∀ W, Below w.heap.size w W → Calls Tryz.prog 55 #[.agg #[.pointer eo, .slice ra rn rc, .string pl, .pointer po, .string ql, .pointer qo, .string dl, .pointer dq, .slice la ln lc, .slice ga gn gc], .agg #[.pointer eo', .slice ra' rn' rc', .string pl', .pointer po', .string ql', .pointer qo', .string dl', .pointer dq', .slice la' ln' lc', .slice ga' gn' gc']] W fun e w' => e = .returned (.int .i64 v5) ∧ Below W.heap.size W w') (h6 : ∀ W, Below w.heap.size w W → Calls Tryz.prog 56 #[.agg #[.pointer eo, .slice ra rn rc, .string pl, .pointer po, .string ql, .pointer qo, .string dl, .pointer dq, .slice la ln lc, .slice ga gn gc], .agg #[.pointer eo', .slice ra' rn' rc', .string pl', .pointer po', .string ql', .pointer qo', .string dl', .pointer dq', .slice la' ln' lc', .slice ga' gn' gc']] W fun e w' => e = .returned (.int .i64 v6) ∧ Below W.heap.size W w') (h7 : ∀ W, Below w.heap.size w W → Calls Tryz.prog 50 #[.agg #[.pointer eo, .slice ra rn rc, .string pl, .pointer po, .string ql, .pointer qo, .string dl, .pointer dq, .slice la ln lc, .slice ga gn gc], .agg #[.pointer eo', .slice ra' rn' rc', .string pl', .pointer po', .string ql', .pointer qo', .string dl', .pointer dq', .slice la' ln' lc', .slice ga' gn' gc']] W fun e w' => e = .returned (.int .i64 v7) ∧ Below W.heap.size W w') (hr : r = pyChain [v1, v2, v3, v4, v5, v6, v7]) :
  Calls Tryz.prog 45 #[.agg #[.pointer eo, .slice ra rn rc, .string pl, .pointer po, .string ql, .pointer qo, .string dl, .pointer dq, .slice la ln lc, .slice ga gn gc], .agg #[.pointer eo', .slice ra' rn' rc', .string pl', .pointer po', .string ql', .pointer qo', .string dl', .pointer dq', .slice la' ln' lc', .slice ga' gn' gc']] w fun e w' => e = .returned (.int .i64 r) ∧ Below w.heap.size w w' := by
 obtain ⟨WA, hWA⟩ : ∃ WA : World, WA = (w.alloc (.cells #[.pointer eo, .slice ra rn rc, .string pl, .pointer po, .string ql, .pointer qo, .string dl, .pointer dq, .slice la ln lc, .slice ga gn gc] 50)).alloc (.cells #[.pointer eo', .slice ra' rn' rc', .string pl', .pointer po', .string ql', .pointer qo', .string dl', .pointer dq', .slice la' ln' lc', .slice ga' gn' gc'] 50) := ⟨_, rfl⟩
 have hs1 : (w.alloc (.cells #[.pointer eo, .slice ra rn rc, .string pl, .pointer po, .string ql, .pointer qo, .string dl, .pointer dq, .slice la ln lc, .slice ga gn gc] 50)).heap.size = w.heap.size + 1 := by simp
 have c1 : WA.heap[w.heap.size]? = some (.cells #[.pointer eo, .slice ra rn rc, .string pl, .pointer po, .string ql, .pointer qo, .string dl, .pointer dq, .slice la ln lc, .slice ga gn gc] 50 (0, 0)) := by rw [hWA]; exact blk_alloc (blk_new w _) _
 have c2 : WA.heap[w.heap.size + 1]? = some (.cells #[.pointer eo', .slice ra' rn' rc', .string pl', .pointer po', .string ql', .pointer qo', .string dl', .pointer dq', .slice la' ln' lc', .slice ga' gn' gc'] 50 (0, 0)) := by
  have := blk_new (w.alloc (.cells #[.pointer eo, .slice ra rn rc, .string pl, .pointer po, .string ql, .pointer qo, .string dl, .pointer dq, .slice la ln lc, .slice ga gn gc] 50)) (.cells #[.pointer eo', .slice ra' rn' rc', .string pl', .pointer po', .string ql', .pointer qo', .string dl', .pointer dq', .slice la' ln' lc', .slice ga' gn' gc'] 50)
  rw [hs1] at this
  rw [hWA]
  exact this
 have hB : Below w.heap.size w WA := by rw [hWA]; exact ((Below.refl _ w).alloc (Nat.le_refl _) _).alloc (by simp) _
 have HB := Aside0.mk hB
 have HWA := Aside0.mk hWA
 have HK := Aside0.mk (fun (W : World) (hB : Below WA.heap.size WA W) => And.intro (py_S10 (py_keep hB c1)) (py_S10 (py_keep hB c2)))
 have Q0 : Aside0 (∀ W, Below WA.heap.size WA W → ∀ j v, [.pointer eo, .slice ra rn rc, .string pl, .pointer po, .string ql, .pointer qo, .string dl, .pointer dq, .slice la ln lc, .slice ga gn gc][j]? = some v → W.cell? ((⟨w.heap.size, 0, none⟩ : Addr).add j) = some v) := ⟨fun W hB j v hv => by rw [Addr.add_mid]; exact py_rng (py_keep hB c1) j v hv⟩
 have Q1 : Aside0 (∀ W, Below WA.heap.size WA W → ∀ j v, [.pointer eo', .slice ra' rn' rc', .string pl', .pointer po', .string ql', .pointer qo', .string dl', .pointer dq', .slice la' ln' lc', .slice ga' gn' gc'][j]? = some v → W.cell? ((⟨w.heap.size + 1, 0, none⟩ : Addr).add j) = some v) := ⟨fun W hB j v hv => by rw [Addr.add_mid]; exact py_rng (py_keep hB c2) j v hv⟩
 have H1 := Aside0.mk h1
 have H2 := Aside0.mk h2
 have H3 := Aside0.mk h3
 have H4 := Aside0.mk h4
 have H5 := Aside0.mk h5
 have H6 := Aside0.mk h6
 have H7 := Aside0.mk h7
 have HR := Aside0.mk hr
 clear c1 c2 hWA hs1 hB HK hr h1 h2 h3 h4 h5 h6 h7
 have hu := Tryz.underlying50
 have E0 : Aside0 (Below WA.heap.size WA WA) := ⟨Below.refl _ _⟩
 have J1 := Aside0.mk (H1.out WA HB.out)
 go_enter Tryz.func45, Tryz.ntmps45
 go_upto_region 1 with fail
 rw [← HWA.out]
 clear HWA
 go_wp2_with (first | ((with_reducible refine gate_dst (N := 12) rfl ?_); refine py_load rfl 50 (.tmp 2) rfl ⟨w.heap.size, 0, none⟩ rfl _ _ (Q0.out _ E0.out) hu rfl py_info10 ?_) | ((with_reducible refine gate_dst (N := 13) rfl ?_); refine py_load rfl 50 (.tmp 3) rfl ⟨w.heap.size + 1, 0, none⟩ rfl _ _ (Q1.out _ E0.out) hu rfl py_info10 ?_) | (go_at_call 51; (with_reducible refine (J1.out).mono ?_)))
 rintro e W1 ⟨rfl, hb⟩
 have E1 : Aside0 (Below WA.heap.size WA W1) := ⟨py_next E0.out hb⟩
 clear hb J1 E0
 by_cases hv1 : v1 = 0
 ·have b0 : (v1 == 0) = true := beq_iff_eq.2 hv1
  have J2 := Aside0.mk (H2.out W1 (py_next HB.out E1.out))
  go_wp2_with (first | ((with_reducible refine gate_dst (N := 18) rfl ?_); refine py_load rfl 50 (.tmp 2) rfl ⟨w.heap.size, 0, none⟩ rfl _ _ (Q0.out _ E1.out) hu rfl py_info10 ?_) | ((with_reducible refine gate_dst (N := 19) rfl ?_); refine py_load rfl 50 (.tmp 3) rfl ⟨w.heap.size + 1, 0, none⟩ rfl _ _ (Q1.out _ E1.out) hu rfl py_info10 ?_) | (go_at_call 52; (with_reducible refine (J2.out).mono ?_)))
  rintro e W2 ⟨rfl, hb⟩
  have E2 : Aside0 (Below WA.heap.size WA W2) := ⟨py_next E1.out hb⟩
  clear hb J2 E1
  by_cases hv2 : v2 = 0
  ·have b0 : (v2 == 0) = true := beq_iff_eq.2 hv2
   have J3 := Aside0.mk (H3.out W2 (py_next HB.out E2.out))
   go_wp2_with (first | ((with_reducible refine gate_dst (N := 24) rfl ?_); refine py_load rfl 50 (.tmp 2) rfl ⟨w.heap.size, 0, none⟩ rfl _ _ (Q0.out _ E2.out) hu rfl py_info10 ?_) | ((with_reducible refine gate_dst (N := 25) rfl ?_); refine py_load rfl 50 (.tmp 3) rfl ⟨w.heap.size + 1, 0, none⟩ rfl _ _ (Q1.out _ E2.out) hu rfl py_info10 ?_) | (go_at_call 53; (with_reducible refine (J3.out).mono ?_)))
   rintro e W3 ⟨rfl, hb⟩
   have E3 : Aside0 (Below WA.heap.size WA W3) := ⟨py_next E2.out hb⟩
   clear hb J3 E2
   by_cases hv3 : v3 = 0
   ·have b0 : (v3 == 0) = true := beq_iff_eq.2 hv3
    have J4 := Aside0.mk (H4.out hv1 hv2 hv3 W3 (py_next HB.out E3.out))
    go_wp2_with (first | ((with_reducible refine gate_dst (N := 30) rfl ?_); refine py_load rfl 50 (.tmp 2) rfl ⟨w.heap.size, 0, none⟩ rfl _ _ (Q0.out _ E3.out) hu rfl py_info10 ?_) | ((with_reducible refine gate_dst (N := 31) rfl ?_); refine py_load rfl 50 (.tmp 3) rfl ⟨w.heap.size + 1, 0, none⟩ rfl _ _ (Q1.out _ E3.out) hu rfl py_info10 ?_) | (go_at_call 54; (with_reducible refine (J4.out).mono ?_)))
    rintro e W4 ⟨rfl, hb⟩
    have E4 : Aside0 (Below WA.heap.size WA W4) := ⟨py_next E3.out hb⟩
    clear hb J4 E3
    by_cases hv4 : v4 = 0
    ·have b0 : (v4 == 0) = true := beq_iff_eq.2 hv4
     have J5 := Aside0.mk (H5.out W4 (py_next HB.out E4.out))
     go_wp2_with (first | ((with_reducible refine gate_dst (N := 36) rfl ?_); refine py_load rfl 50 (.tmp 2) rfl ⟨w.heap.size, 0, none⟩ rfl _ _ (Q0.out _ E4.out) hu rfl py_info10 ?_) | ((with_reducible refine gate_dst (N := 37) rfl ?_); refine py_load rfl 50 (.tmp 3) rfl ⟨w.heap.size + 1, 0, none⟩ rfl _ _ (Q1.out _ E4.out) hu rfl py_info10 ?_) | (go_at_call 55; (with_reducible refine (J5.out).mono ?_)))
     rintro e W5 ⟨rfl, hb⟩
     have E5 : Aside0 (Below WA.heap.size WA W5) := ⟨py_next E4.out hb⟩
     clear hb J5 E4
     by_cases hv5 : v5 = 0
     ·have b0 : (v5 == 0) = true := beq_iff_eq.2 hv5
      have J6 := Aside0.mk (H6.out W5 (py_next HB.out E5.out))
      go_wp2_with (first | ((with_reducible refine gate_dst (N := 42) rfl ?_); refine py_load rfl 50 (.tmp 2) rfl ⟨w.heap.size, 0, none⟩ rfl _ _ (Q0.out _ E5.out) hu rfl py_info10 ?_) | ((with_reducible refine gate_dst (N := 43) rfl ?_); refine py_load rfl 50 (.tmp 3) rfl ⟨w.heap.size + 1, 0, none⟩ rfl _ _ (Q1.out _ E5.out) hu rfl py_info10 ?_) | (go_at_call 56; (with_reducible refine (J6.out).mono ?_)))
      rintro e W6 ⟨rfl, hb⟩
      have E6 : Aside0 (Below WA.heap.size WA W6) := ⟨py_next E5.out hb⟩
      clear hb J6 E5
      by_cases hv6 : v6 = 0
      ·have b0 : (v6 == 0) = true := beq_iff_eq.2 hv6
       have J7 := Aside0.mk (H7.out W6 (py_next HB.out E6.out))
       go_wp2_with (first | ((with_reducible refine gate_dst (N := 48) rfl ?_); refine py_load rfl 50 (.tmp 2) rfl ⟨w.heap.size, 0, none⟩ rfl _ _ (Q0.out _ E6.out) hu rfl py_info10 ?_) | ((with_reducible refine gate_dst (N := 49) rfl ?_); refine py_load rfl 50 (.tmp 3) rfl ⟨w.heap.size + 1, 0, none⟩ rfl _ _ (Q1.out _ E6.out) hu rfl py_info10 ?_) | (go_at_call 50; (with_reducible refine (J7.out).mono ?_)))
       rintro e W7 ⟨rfl, hb⟩
       have E7 : Aside0 (Below WA.heap.size WA W7) := ⟨py_next E6.out hb⟩
       clear hb J7 E6
       by_cases hv7 : v7 = 0
       ·have b0 : (v7 == 0) = true := beq_iff_eq.2 hv7
        have HF : Aside0 (r = 0) := ⟨by rw [HR.out]; simp only [pyChain, hv1, hv2, hv3, hv4, hv5, hv6, hv7, if_true]⟩
        have HBB : Aside0 (Below w.heap.size w W7) := ⟨py_next HB.out E7.out⟩
        clear HR HB E7 H1 H2 H3 H4 H5 H6 H7 Q0 Q1 hu
        subst hv7
        go_wp2
        go_ret
        exact ⟨by rw [HF.out]; rfl, HBB.out⟩
       ·have b0 : (v7 == 0) = false := beq_eq_false_iff_ne.2 hv7
        have HF : Aside0 (r = v7) := ⟨by rw [HR.out]; simp only [pyChain, hv1, hv2, hv3, hv4, hv5, hv6, if_true, if_neg hv7]⟩
        have HBB : Aside0 (Below w.heap.size w W7) := ⟨py_next HB.out E7.out⟩
        clear HR HB E7 H1 H2 H3 H4 H5 H6 H7 Q0 Q1 hu hv7
        go_wp2
        go_ret
        exact ⟨by rw [HF.out]; rfl, HBB.out⟩
      ·have b0 : (v6 == 0) = false := beq_eq_false_iff_ne.2 hv6
       have HF : Aside0 (r = v6) := ⟨by rw [HR.out]; simp only [pyChain, hv1, hv2, hv3, hv4, hv5, if_true, if_neg hv6]⟩
       have HBB : Aside0 (Below w.heap.size w W6) := ⟨py_next HB.out E6.out⟩
       clear HR HB E6 H1 H2 H3 H4 H5 H6 H7 Q0 Q1 hu hv6
       go_wp2
       go_ret
       exact ⟨by rw [HF.out]; rfl, HBB.out⟩
     ·have b0 : (v5 == 0) = false := beq_eq_false_iff_ne.2 hv5
      have HF : Aside0 (r = v5) := ⟨by rw [HR.out]; simp only [pyChain, hv1, hv2, hv3, hv4, if_true, if_neg hv5]⟩
      have HBB : Aside0 (Below w.heap.size w W5) := ⟨py_next HB.out E5.out⟩
      clear HR HB E5 H1 H2 H3 H4 H5 H6 H7 Q0 Q1 hu hv5
      go_wp2
      go_ret
      exact ⟨by rw [HF.out]; rfl, HBB.out⟩
    ·have b0 : (v4 == 0) = false := beq_eq_false_iff_ne.2 hv4
     have HF : Aside0 (r = v4) := ⟨by rw [HR.out]; simp only [pyChain, hv1, hv2, hv3, if_true, if_neg hv4]⟩
     have HBB : Aside0 (Below w.heap.size w W4) := ⟨py_next HB.out E4.out⟩
     clear HR HB E4 H1 H2 H3 H4 H5 H6 H7 Q0 Q1 hu hv4
     go_wp2
     go_ret
     exact ⟨by rw [HF.out]; rfl, HBB.out⟩
   ·have b0 : (v3 == 0) = false := beq_eq_false_iff_ne.2 hv3
    have HF : Aside0 (r = v3) := ⟨by rw [HR.out]; simp only [pyChain, hv1, hv2, if_true, if_neg hv3]⟩
    have HBB : Aside0 (Below w.heap.size w W3) := ⟨py_next HB.out E3.out⟩
    clear HR HB E3 H1 H2 H3 H4 H5 H6 H7 Q0 Q1 hu hv3
    go_wp2
    go_ret
    exact ⟨by rw [HF.out]; rfl, HBB.out⟩
  ·have b0 : (v2 == 0) = false := beq_eq_false_iff_ne.2 hv2
   have HF : Aside0 (r = v2) := ⟨by rw [HR.out]; simp only [pyChain, hv1, if_true, if_neg hv2]⟩
   have HBB : Aside0 (Below w.heap.size w W2) := ⟨py_next HB.out E2.out⟩
   clear HR HB E2 H1 H2 H3 H4 H5 H6 H7 Q0 Q1 hu hv2
   go_wp2
   go_ret
   exact ⟨by rw [HF.out]; rfl, HBB.out⟩
 ·have b0 : (v1 == 0) = false := beq_eq_false_iff_ne.2 hv1
  have HF : Aside0 (r = v1) := ⟨by rw [HR.out]; simp only [pyChain, if_true, if_neg hv1]⟩
  have HBB : Aside0 (Below w.heap.size w W1) := ⟨py_next HB.out E1.out⟩
  clear HR HB E1 H1 H2 H3 H4 H5 H6 H7 Q0 Q1 hu hv1
  go_wp2
  go_ret
  exact ⟨by rw [HF.out]; rfl, HBB.out⟩
set_option maxRecDepth 100000 in
set_option maxHeartbeats 8000000 in
theorem py_compare (pl ql dl : ByteArray) (eo po qo dq ra : Option Addr) (rn rc : Nat) (la ga : Option Addr) (ln lc gn gc : Nat) (pl' ql' dl' : ByteArray) (eo' po' qo' dq' ra' : Option Addr) (rn' rc' : Nat) (la' ga' : Option Addr) (ln' lc' gn' gc' : Nat) (r : Int) (w : World) (h : ∀ W, Below w.heap.size w W → Calls Tryz.prog 45 #[.agg #[.pointer eo, .slice ra rn rc, .string pl, .pointer po, .string ql, .pointer qo, .string dl, .pointer dq, .slice la ln lc, .slice ga gn gc], .agg #[.pointer eo', .slice ra' rn' rc', .string pl', .pointer po', .string ql', .pointer qo', .string dl', .pointer dq', .slice la' ln' lc', .slice ga' gn' gc']] W fun e w' => e = .returned (.int .i64 r) ∧ Below W.heap.size W w') :
  Calls Tryz.prog 34 #[.agg #[.pointer eo, .slice ra rn rc, .string pl, .pointer po, .string ql, .pointer qo, .string dl, .pointer dq, .slice la ln lc, .slice ga gn gc], .agg #[.pointer eo', .slice ra' rn' rc', .string pl', .pointer po', .string ql', .pointer qo', .string dl', .pointer dq', .slice la' ln' lc', .slice ga' gn' gc']] w fun e w' => e = .returned (.int .i64 r) ∧ Below w.heap.size w w' := by
 obtain ⟨WA, hWA⟩ : ∃ WA : World, WA = (w.alloc (.cells #[.pointer eo, .slice ra rn rc, .string pl, .pointer po, .string ql, .pointer qo, .string dl, .pointer dq, .slice la ln lc, .slice ga gn gc] 50)).alloc (.cells #[.pointer eo', .slice ra' rn' rc', .string pl', .pointer po', .string ql', .pointer qo', .string dl', .pointer dq', .slice la' ln' lc', .slice ga' gn' gc'] 50) := ⟨_, rfl⟩
 have hs1 : (w.alloc (.cells #[.pointer eo, .slice ra rn rc, .string pl, .pointer po, .string ql, .pointer qo, .string dl, .pointer dq, .slice la ln lc, .slice ga gn gc] 50)).heap.size = w.heap.size + 1 := by simp
 have c1 : WA.heap[w.heap.size]? = some (.cells #[.pointer eo, .slice ra rn rc, .string pl, .pointer po, .string ql, .pointer qo, .string dl, .pointer dq, .slice la ln lc, .slice ga gn gc] 50 (0, 0)) := by rw [hWA]; exact blk_alloc (blk_new w _) _
 have c2 : WA.heap[w.heap.size + 1]? = some (.cells #[.pointer eo', .slice ra' rn' rc', .string pl', .pointer po', .string ql', .pointer qo', .string dl', .pointer dq', .slice la' ln' lc', .slice ga' gn' gc'] 50 (0, 0)) := by
  have := blk_new (w.alloc (.cells #[.pointer eo, .slice ra rn rc, .string pl, .pointer po, .string ql, .pointer qo, .string dl, .pointer dq, .slice la ln lc, .slice ga gn gc] 50)) (.cells #[.pointer eo', .slice ra' rn' rc', .string pl', .pointer po', .string ql', .pointer qo', .string dl', .pointer dq', .slice la' ln' lc', .slice ga' gn' gc'] 50)
  rw [hs1] at this
  rw [hWA]
  exact this
 have hB : Below w.heap.size w WA := by rw [hWA]; exact ((Below.refl _ w).alloc (Nat.le_refl _) _).alloc (by simp) _
 have HB := Aside0.mk hB
 have HWA := Aside0.mk hWA
 have HK := Aside0.mk (fun (W : World) (hB : Below WA.heap.size WA W) => And.intro (py_S10 (py_keep hB c1)) (py_S10 (py_keep hB c2)))
 have Q0 : Aside0 (∀ W, Below WA.heap.size WA W → ∀ j v, [.pointer eo, .slice ra rn rc, .string pl, .pointer po, .string ql, .pointer qo, .string dl, .pointer dq, .slice la ln lc, .slice ga gn gc][j]? = some v → W.cell? ((⟨w.heap.size, 0, none⟩ : Addr).add j) = some v) := ⟨fun W hB j v hv => by rw [Addr.add_mid]; exact py_rng (py_keep hB c1) j v hv⟩
 have Q1 : Aside0 (∀ W, Below WA.heap.size WA W → ∀ j v, [.pointer eo', .slice ra' rn' rc', .string pl', .pointer po', .string ql', .pointer qo', .string dl', .pointer dq', .slice la' ln' lc', .slice ga' gn' gc'][j]? = some v → W.cell? ((⟨w.heap.size + 1, 0, none⟩ : Addr).add j) = some v) := ⟨fun W hB j v hv => by rw [Addr.add_mid]; exact py_rng (py_keep hB c2) j v hv⟩
 have J := Aside0.mk (h WA hB)
 clear c1 c2 hWA hs1 hB HK h
 have hu := Tryz.underlying50
 have E0 : Aside0 (Below WA.heap.size WA WA) := ⟨Below.refl _ _⟩
 go_enter Tryz.func34, Tryz.ntmps34
 go_upto_region 1 with fail
 rw [← HWA.out]
 clear HWA
 go_wp2_with (first | ((with_reducible refine gate_dst (N := 5) rfl ?_); refine py_load rfl 50 (.tmp 2) rfl ⟨w.heap.size, 0, none⟩ rfl _ _ (Q0.out _ E0.out) hu rfl py_info10 ?_) | ((with_reducible refine gate_dst (N := 6) rfl ?_); refine py_load rfl 50 (.tmp 3) rfl ⟨w.heap.size + 1, 0, none⟩ rfl _ _ (Q1.out _ E0.out) hu rfl py_info10 ?_) | (go_at_call 45; (with_reducible refine (J.out).mono ?_)))
 rintro e W1 ⟨rfl, hb⟩
 have HBB : Aside0 (Below w.heap.size w W1) := ⟨py_next HB.out hb⟩
 clear hb J E0 Q0 Q1 HB hu
 go_wp2
 go_ret
 exact ⟨rfl, HBB.out⟩
set_option maxRecDepth 100000 in
set_option maxHeartbeats 8000000 in
theorem py_zcompare (pl ql dl : ByteArray) (eo po qo dq ra : Option Addr) (rn rc : Nat) (la ga : Option Addr) (ln lc gn gc : Nat) (pl' ql' dl' : ByteArray) (eo' po' qo' dq' ra' : Option Addr) (rn' rc' : Nat) (la' ga' : Option Addr) (ln' lc' gn' gc' : Nat) (r : Int) (w : World) (h : ∀ W, Below w.heap.size w W → Calls Tryz.prog 34 #[.agg #[.pointer eo, .slice ra rn rc, .string pl, .pointer po, .string ql, .pointer qo, .string dl, .pointer dq, .slice la ln lc, .slice ga gn gc], .agg #[.pointer eo', .slice ra' rn' rc', .string pl', .pointer po', .string ql', .pointer qo', .string dl', .pointer dq', .slice la' ln' lc', .slice ga' gn' gc']] W fun e w' => e = .returned (.int .i64 r) ∧ Below W.heap.size W w') :
  Calls Tryz.prog 18 #[.agg #[.pointer eo, .slice ra rn rc, .string pl, .pointer po, .string ql, .pointer qo, .string dl, .pointer dq, .slice la ln lc, .slice ga gn gc], .agg #[.pointer eo', .slice ra' rn' rc', .string pl', .pointer po', .string ql', .pointer qo', .string dl', .pointer dq', .slice la' ln' lc', .slice ga' gn' gc']] w fun e w' => e = .returned (.int .i64 r) ∧ Below w.heap.size w w' := by
 obtain ⟨WA, hWA⟩ : ∃ WA : World, WA = (w.alloc (.cells #[.pointer eo, .slice ra rn rc, .string pl, .pointer po, .string ql, .pointer qo, .string dl, .pointer dq, .slice la ln lc, .slice ga gn gc] 50)).alloc (.cells #[.pointer eo', .slice ra' rn' rc', .string pl', .pointer po', .string ql', .pointer qo', .string dl', .pointer dq', .slice la' ln' lc', .slice ga' gn' gc'] 50) := ⟨_, rfl⟩
 have hs1 : (w.alloc (.cells #[.pointer eo, .slice ra rn rc, .string pl, .pointer po, .string ql, .pointer qo, .string dl, .pointer dq, .slice la ln lc, .slice ga gn gc] 50)).heap.size = w.heap.size + 1 := by simp
 have c1 : WA.heap[w.heap.size]? = some (.cells #[.pointer eo, .slice ra rn rc, .string pl, .pointer po, .string ql, .pointer qo, .string dl, .pointer dq, .slice la ln lc, .slice ga gn gc] 50 (0, 0)) := by rw [hWA]; exact blk_alloc (blk_new w _) _
 have c2 : WA.heap[w.heap.size + 1]? = some (.cells #[.pointer eo', .slice ra' rn' rc', .string pl', .pointer po', .string ql', .pointer qo', .string dl', .pointer dq', .slice la' ln' lc', .slice ga' gn' gc'] 50 (0, 0)) := by
  have := blk_new (w.alloc (.cells #[.pointer eo, .slice ra rn rc, .string pl, .pointer po, .string ql, .pointer qo, .string dl, .pointer dq, .slice la ln lc, .slice ga gn gc] 50)) (.cells #[.pointer eo', .slice ra' rn' rc', .string pl', .pointer po', .string ql', .pointer qo', .string dl', .pointer dq', .slice la' ln' lc', .slice ga' gn' gc'] 50)
  rw [hs1] at this
  rw [hWA]
  exact this
 have hB : Below w.heap.size w WA := by rw [hWA]; exact ((Below.refl _ w).alloc (Nat.le_refl _) _).alloc (by simp) _
 have HB := Aside0.mk hB
 have HWA := Aside0.mk hWA
 have HK := Aside0.mk (fun (W : World) (hB : Below WA.heap.size WA W) => And.intro (py_S10 (py_keep hB c1)) (py_S10 (py_keep hB c2)))
 have Q0 : Aside0 (∀ W, Below WA.heap.size WA W → ∀ j v, [.pointer eo, .slice ra rn rc, .string pl, .pointer po, .string ql, .pointer qo, .string dl, .pointer dq, .slice la ln lc, .slice ga gn gc][j]? = some v → W.cell? ((⟨w.heap.size, 0, none⟩ : Addr).add j) = some v) := ⟨fun W hB j v hv => by rw [Addr.add_mid]; exact py_rng (py_keep hB c1) j v hv⟩
 have Q1 : Aside0 (∀ W, Below WA.heap.size WA W → ∀ j v, [.pointer eo', .slice ra' rn' rc', .string pl', .pointer po', .string ql', .pointer qo', .string dl', .pointer dq', .slice la' ln' lc', .slice ga' gn' gc'][j]? = some v → W.cell? ((⟨w.heap.size + 1, 0, none⟩ : Addr).add j) = some v) := ⟨fun W hB j v hv => by rw [Addr.add_mid]; exact py_rng (py_keep hB c2) j v hv⟩
 have J := Aside0.mk (h WA hB)
 clear c1 c2 hWA hs1 hB HK h
 have hu := Tryz.underlying50
 have E0 : Aside0 (Below WA.heap.size WA WA) := ⟨Below.refl _ _⟩
 go_enter Tryz.func18, Tryz.ntmps18
 go_upto_region 1 with fail
 rw [← HWA.out]
 clear HWA
 go_wp2_with (first | ((with_reducible refine gate_dst (N := 5) rfl ?_); refine py_load rfl 50 (.tmp 2) rfl ⟨w.heap.size, 0, none⟩ rfl _ _ (Q0.out _ E0.out) hu rfl py_info10 ?_) | ((with_reducible refine gate_dst (N := 6) rfl ?_); refine py_load rfl 50 (.tmp 3) rfl ⟨w.heap.size + 1, 0, none⟩ rfl _ _ (Q1.out _ E0.out) hu rfl py_info10 ?_) | (go_at_call 34; (with_reducible refine (J.out).mono ?_)))
 rintro e W1 ⟨rfl, hb⟩
 have HBB : Aside0 (Below w.heap.size w W1) := ⟨py_next HB.out hb⟩
 clear hb J E0 Q0 Q1 HB hu
 go_wp2
 go_ret
 exact ⟨rfl, HBB.out⟩
def pyFitS (m : PV) : Bool := (m.loc.all fun s => decide (s.size ≤ 1000000)) && (decide (m.leg.length ≤ 1000) && decide ((Lib.join (m.leg.map (·.data.toList)) []).length ≤ 100000000))
theorem pyFitS_of {m : PV} (h : pyFitS m = true) : (∀ x ∈ m.loc, x.size ≤ 1000000) ∧ m.leg.length ≤ 1000 ∧ (Lib.join (m.leg.map (·.data.toList)) []).length ≤ 100000000 := by
 unfold pyFitS at h
 rw [Bool.and_eq_true, Bool.and_eq_true, List.all_eq_true, decide_eq_true_eq, decide_eq_true_eq] at h
 exact ⟨fun x hx => of_decide_eq_true (h.1 x hx), h.2.1, h.2.2⟩
def pyPreO (m m' : PV) : Option Int := if pyLegC m.leg m'.leg = 0 ∧ Bn.cmpZ m.ep m'.ep = 0 ∧ cmpLists m.rel m'.rel = 0 then preM m m' else some 0
/-- How two versions compare. -/
def pyM (m m' : PV) : Option Int := if (pyFitS m && pyFitS m') = true then (pyPreO m m').bind fun p => some (pyChain [pyLegC m.leg m'.leg, Bn.cmpZ m.ep m'.ep, cmpLists m.rel m'.rel, p, pyPostC m.qn m'.qn, pyDevC m.dn m'.dn, pyLocC m.loc m'.loc]) else none
theorem py_full (m m' : PV) (r : Int) (hr : pyM m m' = some r) (eo po qo dq ra la ga : Option Addr) (rc lc gc : Nat) (eo' po' qo' dq' ra' la' ga' : Option Addr) (rc' lc' gc' : Nat) (w : World) (h : PvV w m eo po qo dq ra la ga rc lc gc) (h' : PvV w m' eo' po' qo' dq' ra' la' ga' rc' lc' gc') (hG : GW w) :
  Calls Tryz.prog 18 #[.agg #[.pointer eo, .slice ra m.rel.length rc, .string m.pl, .pointer po, .string m.ql, .pointer qo, .string m.dl, .pointer dq, .slice la m.loc.length lc, .slice ga m.leg.length gc], .agg #[.pointer eo', .slice ra' m'.rel.length rc', .string m'.pl, .pointer po', .string m'.ql, .pointer qo', .string m'.dl, .pointer dq', .slice la' m'.loc.length lc', .slice ga' m'.leg.length gc']] w fun e w' => e = .returned (.int .i64 r) ∧ Below w.heap.size w w' := by
 unfold pyM at hr
 cases hf : (pyFitS m && pyFitS m') with
 | false => rw [if_neg (by rw [hf]; decide)] at hr; cases hr
 | true =>
  rw [if_pos hf] at hr
  rw [Bool.and_eq_true] at hf
  obtain ⟨f1, f2, f3⟩ := pyFitS_of hf.1
  obtain ⟨g1, g2, g3⟩ := pyFitS_of hf.2
  obtain ⟨p, hp, hr⟩ := Option.bind_eq_some_iff.1 hr
  have hr := (Option.some.inj hr).symm
  refine py_zcompare m.pl m.ql m.dl eo po qo dq ra m.rel.length rc la ga m.loc.length lc m.leg.length gc m'.pl m'.ql m'.dl eo' po' qo' dq' ra' m'.rel.length rc' la' ga' m'.loc.length lc' m'.leg.length gc' r w fun W1 b1 => py_compare m.pl m.ql m.dl eo po qo dq ra m.rel.length rc la ga m.loc.length lc m.leg.length gc m'.pl m'.ql m'.dl eo' po' qo' dq' ra' m'.rel.length rc' la' ga' m'.loc.length lc' m'.leg.length gc' r W1 fun W2 b2 => ?_
  have bb : Below w.heap.size w W2 := py_next b1 b2
  refine py_cmpv m.pl m.ql m.dl eo po qo dq ra m.rel.length rc la ga m.loc.length lc m.leg.length gc m'.pl m'.ql m'.dl eo' po' qo' dq' ra' m'.rel.length rc' la' ga' m'.loc.length lc' m'.leg.length gc' (pyLegC m.leg m'.leg) (Bn.cmpZ m.ep m'.ep) (cmpLists m.rel m'.rel) p (pyPostC m.qn m'.qn) (pyDevC m.dn m'.dn) (pyLocC m.loc m'.loc) r W2 ?_ ?_ ?_ ?_ ?_ ?_ ?_ hr
  ·intro W b3
   have v := h.below (py_next bb b3)
   have v' := h'.below (py_next bb b3)
   exact py_legacy m.pl m.ql m.dl eo po qo dq ra m.rel.length rc la ga m.loc.length lc m.leg.length gc m'.pl m'.ql m'.dl eo' po' qo' dq' ra' m'.rel.length rc' la' ga' m'.loc.length lc' m'.leg.length gc' m.leg m'.leg W v.g v'.g v.gc v'.gc f2 g2 f3 g3
  ·intro W b3
   exact py_epoch m.pl m.ql m.dl eo po qo dq ra m.rel.length rc la ga m.loc.length lc m.leg.length gc m'.pl m'.ql m'.dl eo' po' qo' dq' ra' m'.rel.length rc' la' ga' m'.loc.length lc' m'.leg.length gc' m.ep m'.ep W (h.below (py_next bb b3)).e (h'.below (py_next bb b3)).e
  ·intro W b3
   have v := h.below (py_next bb b3)
   have v' := h'.below (py_next bb b3)
   exact py_release m.pl m.ql m.dl eo po qo dq ra m.rel.length rc la ga m.loc.length lc m.leg.length gc m'.pl m'.ql m'.dl eo' po' qo' dq' ra' m'.rel.length rc' la' ga' m'.loc.length lc' m'.leg.length gc' m.rel m'.rel W v.r v.rc v'.r v'.rc rfl rfl
  ·intro z1 z2 z3 W b3
   have v := h.below (py_next bb b3)
   have v' := h'.below (py_next bb b3)
   unfold pyPreO at hp
   rw [if_pos ⟨z1, z2, z3⟩] at hp
   exact py_cpre m m' p hp eo po qo dq ra _ _ la ga _ _ _ _ eo' po' qo' dq' ra' _ _ la' ga' _ _ _ _ W v.p v.q v.d v'.p v'.q v'.d
  ·intro W b3
   exact py_post m.pl m.ql m.dl eo po qo dq ra m.rel.length rc la ga m.loc.length lc m.leg.length gc m'.pl m'.ql m'.dl eo' po' qo' dq' ra' m'.rel.length rc' la' ga' m'.loc.length lc' m'.leg.length gc' m.qn m'.qn W (h.below (py_next bb b3)).q (h'.below (py_next bb b3)).q
  ·intro W b3
   exact py_dev m.pl m.ql m.dl eo po qo dq ra m.rel.length rc la ga m.loc.length lc m.leg.length gc m'.pl m'.ql m'.dl eo' po' qo' dq' ra' m'.rel.length rc' la' ga' m'.loc.length lc' m'.leg.length gc' m.dn m'.dn W (h.below (py_next bb b3)).d (h'.below (py_next bb b3)).d
  ·intro W b3
   have v := h.below (py_next bb b3)
   have v' := h'.below (py_next bb b3)
   exact py_local m.pl m.ql m.dl eo po qo dq ra m.rel.length rc la ga m.loc.length lc m.leg.length gc m'.pl m'.ql m'.dl eo' po' qo' dq' ra' m'.rel.length rc' la' ga' m'.loc.length lc' m'.leg.length gc' m.loc m'.loc _ W v.l v'.l f1 g1 (GW.below hG (py_next bb b3)) rfl

end Go.Proofs.YtipfmkfpaglkkaaGreatDoor.Z
