-- Written by a program of this session (myprint.py).
import Derived.Test.YtipfmkfpaglkkaaZ0
import Derived.Test.YtipfmkfpaglkkaaZ6
import Derived.Test.YtipfmkfpaglkkaaZ7
import Derived.Test.YtipfmkfpaglkkaaZ8
import Derived.Test.YtipfmkfpaglkkaaZ9
import Derived.Test.YtipfmkfpaglkkaaZ11
import Derived.Deep.RegionHeld3
import Derived.Test.YtipfmkfpaglkkaaBy
import Derived.Test.YtipfmkfpaglkkaaGe
namespace Go.Proofs.Ytipfmkfpaglkkaa.Z
open Go.RowKit Go.Proofs.YtipfmkfpaglkkaaW.PrintWords Go.Proofs.YtipfmkfpaglkkaaW.PrintLast Go.Proofs.YtipfmkfpaglkkaaW.PrintMore
attribute [local go_sem high] Go.Proofs.Ytipfmkfpaglkkaa.Ge.gtr_str
attribute [local go_sem] max2_int min2_int max_two min_two max_three min_three max_four min_four   -- for this text's walks alone
set_option linter.unusedVariables false
set_option linter.unusedSimpArgs false

-- PLUGGED impl_PyPIPre: function 6 (a text of this session)
/-- The ten cells of a version, as a value. -/
theorem py_trick (pl ql dl : ByteArray) (eo po qo dq ra : Option Addr) (rn rc : Nat) (la ga : Option Addr) (ln lc gn gc : Nat) (w : World) :
    Calls Try.prog 33 #[.agg #[.pointer eo, .slice ra rn rc, .string pl, .pointer po, .string ql, .pointer qo, .string dl, .pointer dq, .slice la ln lc, .slice ga gn gc]] w fun e w' => e = .returned (.bool (po.isNone && qo.isNone && dq.isSome)) ∧ Below w.heap.size w w' := by
  obtain ⟨WA, hWA⟩ : ∃ WA : World, WA = w.alloc (.cells #[.pointer eo, .slice ra rn rc, .string pl, .pointer po, .string ql, .pointer qo, .string dl, .pointer dq, .slice la ln lc, .slice ga gn gc] 48) := ⟨_, rfl⟩
  have c1 : WA.heap[w.heap.size]? = some (.cells #[.pointer eo, .slice ra rn rc, .string pl, .pointer po, .string ql, .pointer qo, .string dl, .pointer dq, .slice la ln lc, .slice ga gn gc] 48 (0, 0)) := by rw [hWA]; exact blk_new w _
  have HB : Aside0 (Below w.heap.size w WA) := ⟨by rw [hWA]; exact (Below.refl _ w).alloc (Nat.le_refl _) _⟩
  have k3 : WA.cell? ⟨w.heap.size, 3, none⟩ = some (.pointer po) := (blk_cell c1 3).trans rfl
  have k5 : WA.cell? ⟨w.heap.size, 5, none⟩ = some (.pointer qo) := (blk_cell c1 5).trans rfl
  have k7 : WA.cell? ⟨w.heap.size, 7, none⟩ = some (.pointer dq) := (blk_cell c1 7).trans rfl
  have HWA := Aside0.mk hWA
  clear c1 hWA
  rcases po with _ | po <;> rcases qo with _ | qo <;> rcases dq with _ | dq
  all_goals
    go_enter Try.func33, Try.ntmps33
    go_upto_region 1 with fail
    rw [← HWA.out]
    go_wp2
    go_ret
    exact ⟨rfl, HB.out⟩
/-- What a version's pre-release is compared by. -/
def pyHd (s : ByteArray) : Int := ((By.bl s).headD 0).toNat
theorem b0_eq (s : ByteArray) (h : 0 < s.size) : pyHd s = ((s[0]'h).toNat : Int) := by
  have h1 : (By.bl s)[0]'(by rw [By.bl_length]; exact h) = s[0]'h := rfl
  unfold pyHd
  rw [List.headD_eq_head?_getD, List.head?_eq_getElem?, List.getElem?_eq_getElem (by rw [By.bl_length]; exact h), h1]
  rfl
def preC (po qo dq po' qo' dq' : Option Addr) (pl pl' : ByteArray) (z : Int) : Option Int :=
  if (po.isNone && qo.isNone && dq.isSome) = true then (if (po'.isNone && qo'.isNone && dq'.isSome) = true then some 0 else some (-1))
  else if (po'.isNone && qo'.isNone && dq'.isSome) = true then some 1
  else if po = none then (if po' = none then some 0 else some 1)
  else if po' = none then some (-1)
  else if pl.size = 0 ∨ pl'.size = 0 then none
  else if pyHd pl' < pyHd pl then some 1 else if pyHd pl < pyHd pl' then some (-1) else some z
set_option maxRecDepth 100000 in
set_option maxHeartbeats 4000000 in
theorem py_pre (pl ql dl : ByteArray) (eo po qo dq ra : Option Addr) (rn rc : Nat) (la ga : Option Addr) (ln lc gn gc : Nat) (pl' ql' dl' : ByteArray) (eo' po' qo' dq' ra' : Option Addr) (rn' rc' : Nat) (la' ga' : Option Addr) (ln' lc' gn' gc' : Nat) (z r : Int) (w : World)
    (hz : ∀ a a', po = some a → po' = some a' → ∀ W, Below w.heap.size w W → Calls Try.prog 34 #[.pointer (some a), .pointer (some a')] W fun e w' => e = .returned (.int .i64 z) ∧ Below W.heap.size W w')
    (h : preC po qo dq po' qo' dq' pl pl' z = some r) :
    Calls Try.prog 27 #[.agg #[.pointer eo, .slice ra rn rc, .string pl, .pointer po, .string ql, .pointer qo, .string dl, .pointer dq, .slice la ln lc, .slice ga gn gc], .agg #[.pointer eo', .slice ra' rn' rc', .string pl', .pointer po', .string ql', .pointer qo', .string dl', .pointer dq', .slice la' ln' lc', .slice ga' gn' gc']] w fun e w' => e = .returned (.int .i64 r) ∧ Below w.heap.size w w' := by
  obtain ⟨WA, hWA⟩ : ∃ WA : World, WA = (w.alloc (.cells #[.pointer eo, .slice ra rn rc, .string pl, .pointer po, .string ql, .pointer qo, .string dl, .pointer dq, .slice la ln lc, .slice ga gn gc] 48)).alloc (.cells #[.pointer eo', .slice ra' rn' rc', .string pl', .pointer po', .string ql', .pointer qo', .string dl', .pointer dq', .slice la' ln' lc', .slice ga' gn' gc'] 48) := ⟨_, rfl⟩
  have hs1 : (w.alloc (.cells #[.pointer eo, .slice ra rn rc, .string pl, .pointer po, .string ql, .pointer qo, .string dl, .pointer dq, .slice la ln lc, .slice ga gn gc] 48)).heap.size = w.heap.size + 1 := by simp
  have c1 : WA.heap[w.heap.size]? = some (.cells #[.pointer eo, .slice ra rn rc, .string pl, .pointer po, .string ql, .pointer qo, .string dl, .pointer dq, .slice la ln lc, .slice ga gn gc] 48 (0, 0)) := by rw [hWA]; exact blk_alloc (blk_new w _) _
  have c2 : WA.heap[w.heap.size + 1]? = some (.cells #[.pointer eo', .slice ra' rn' rc', .string pl', .pointer po', .string ql', .pointer qo', .string dl', .pointer dq', .slice la' ln' lc', .slice ga' gn' gc'] 48 (0, 0)) := by
    have := blk_new (w.alloc (.cells #[.pointer eo, .slice ra rn rc, .string pl, .pointer po, .string ql, .pointer qo, .string dl, .pointer dq, .slice la ln lc, .slice ga gn gc] 48)) (.cells #[.pointer eo', .slice ra' rn' rc', .string pl', .pointer po', .string ql', .pointer qo', .string dl', .pointer dq', .slice la' ln' lc', .slice ga' gn' gc'] 48)
    rw [hs1] at this
    rw [hWA]
    exact this
  have HB : Aside0 (Below w.heap.size w WA) := ⟨by rw [hWA]; exact ((Below.refl _ w).alloc (Nat.le_refl _) _).alloc (by simp) _⟩
  have hK := fun (W : World) (hB : Below WA.heap.size WA W) => And.intro (py_S10 (py_keep hB c1)) (py_S10 (py_keep hB c2))
  have HK := Aside0.mk hK
  have HWA := Aside0.mk hWA
  have HZ := Aside0.mk hz
  have HH := Aside0.mk h
  have T1 : Aside0 (∀ b, b = (po.isNone && qo.isNone && dq.isSome) → ∀ W, Calls Try.prog 33 #[.agg #[.pointer eo, .slice ra rn rc, .string pl, .pointer po, .string ql, .pointer qo, .string dl, .pointer dq, .slice la ln lc, .slice ga gn gc]] W fun e w' => e = .returned (.bool b) ∧ Below W.heap.size W w') := ⟨fun b hb W => by subst hb; exact py_trick pl ql dl eo po qo dq ra rn rc la ga ln lc gn gc W⟩
  have T2 : Aside0 (∀ b, b = (po'.isNone && qo'.isNone && dq'.isSome) → ∀ W, Calls Try.prog 33 #[.agg #[.pointer eo', .slice ra' rn' rc', .string pl', .pointer po', .string ql', .pointer qo', .string dl', .pointer dq', .slice la' ln' lc', .slice ga' gn' gc']] W fun e w' => e = .returned (.bool b) ∧ Below W.heap.size W w') := ⟨fun b hb W => by subst hb; exact py_trick pl' ql' dl' eo' po' qo' dq' ra' rn' rc' la' ga' ln' lc' gn' gc' W⟩
  clear c1 c2 hWA hs1 hz h hK
  cases hb1 : (po.isNone && qo.isNone && dq.isSome) with
  | true =>
    cases hb2 : (po'.isNone && qo'.isNone && dq'.isSome) with
    | true =>
      have HR : Aside0 (r = 0) := ⟨by have := HH.out; unfold preC at this; rw [if_pos hb1, if_pos hb2] at this; exact (Option.some.inj this).symm⟩
      have U1 := Aside0.mk (T1.out true hb1.symm)
      have U2 := Aside0.mk (T2.out true hb2.symm)
      clear T1 T2 HH HZ hb1 hb2
      go_enter Try.func27, Try.ntmps27
      go_upto_region 8 with fail
      rw [← HWA.out]
      obtain ⟨⟨k0, k1, k2, k3, k4, k5, k6, k7, k8, k9⟩, m0, m1, m2, m3, m4, m5, m6, m7, m8, m9⟩ := HK.out WA (Below.refl _ _)
      go_wp2_with (go_at_call 33; (with_reducible refine (U1.out _).mono ?_))
      rintro e W1 ⟨rfl, hB1⟩
      have B1 := Aside0.mk hB1
      clear hB1 k0 k1 k2 k3 k4 k5 k6 k7 k8 k9 m0 m1 m2 m3 m4 m5 m6 m7 m8 m9
      obtain ⟨⟨k0, k1, k2, k3, k4, k5, k6, k7, k8, k9⟩, m0, m1, m2, m3, m4, m5, m6, m7, m8, m9⟩ := HK.out W1 B1.out
      go_wp2_with (go_at_call 33; (with_reducible refine (U2.out _).mono ?_))
      rintro e W2 ⟨rfl, hB2⟩
      have B2 := Aside0.mk (py_next B1.out hB2)
      clear hB2 k0 k1 k2 k3 k4 k5 k6 k7 k8 k9 m0 m1 m2 m3 m4 m5 m6 m7 m8 m9
      go_wp2
      go_ret
      exact ⟨by rw [HR.out]; rfl, HB.out.trans (B2.out.mono HB.out.size)⟩
    | false =>
      have HR : Aside0 (r = -1) := ⟨by have := HH.out; unfold preC at this; rw [if_pos hb1, if_neg (by rw [hb2]; exact Bool.false_ne_true)] at this; exact (Option.some.inj this).symm⟩
      have U1 := Aside0.mk (T1.out true hb1.symm)
      have U2 := Aside0.mk (T2.out false hb2.symm)
      clear T1 T2 HH HZ hb1 hb2
      go_enter Try.func27, Try.ntmps27
      go_upto_region 8 with fail
      rw [← HWA.out]
      obtain ⟨⟨k0, k1, k2, k3, k4, k5, k6, k7, k8, k9⟩, m0, m1, m2, m3, m4, m5, m6, m7, m8, m9⟩ := HK.out WA (Below.refl _ _)
      go_wp2_with (go_at_call 33; (with_reducible refine (U1.out _).mono ?_))
      rintro e W1 ⟨rfl, hB1⟩
      have B1 := Aside0.mk hB1
      clear hB1 k0 k1 k2 k3 k4 k5 k6 k7 k8 k9 m0 m1 m2 m3 m4 m5 m6 m7 m8 m9
      obtain ⟨⟨k0, k1, k2, k3, k4, k5, k6, k7, k8, k9⟩, m0, m1, m2, m3, m4, m5, m6, m7, m8, m9⟩ := HK.out W1 B1.out
      go_wp2_with (go_at_call 33; (with_reducible refine (U2.out _).mono ?_))
      rintro e W2 ⟨rfl, hB2⟩
      have B2 := Aside0.mk (py_next B1.out hB2)
      clear hB2 k0 k1 k2 k3 k4 k5 k6 k7 k8 k9 m0 m1 m2 m3 m4 m5 m6 m7 m8 m9
      obtain ⟨⟨k0, k1, k2, k3, k4, k5, k6, k7, k8, k9⟩, m0, m1, m2, m3, m4, m5, m6, m7, m8, m9⟩ := HK.out W2 B2.out
      go_wp2_with (go_at_call 33; (with_reducible refine (U1.out _).mono ?_))
      rintro e W3 ⟨rfl, hB3⟩
      have B3 := Aside0.mk (py_next B2.out hB3)
      clear hB3 k0 k1 k2 k3 k4 k5 k6 k7 k8 k9 m0 m1 m2 m3 m4 m5 m6 m7 m8 m9
      go_wp2
      go_ret
      exact ⟨by rw [HR.out]; rfl, HB.out.trans (B3.out.mono HB.out.size)⟩
  | false =>
    cases hb2 : (po'.isNone && qo'.isNone && dq'.isSome) with
    | true =>
      have HR : Aside0 (r = 1) := ⟨by have := HH.out; unfold preC at this; rw [if_neg (by rw [hb1]; exact Bool.false_ne_true), if_pos hb2] at this; exact (Option.some.inj this).symm⟩
      have U1 := Aside0.mk (T1.out false hb1.symm)
      have U2 := Aside0.mk (T2.out true hb2.symm)
      clear T1 T2 HH HZ hb1 hb2
      go_enter Try.func27, Try.ntmps27
      go_upto_region 8 with fail
      rw [← HWA.out]
      obtain ⟨⟨k0, k1, k2, k3, k4, k5, k6, k7, k8, k9⟩, m0, m1, m2, m3, m4, m5, m6, m7, m8, m9⟩ := HK.out WA (Below.refl _ _)
      go_wp2_with (go_at_call 33; (with_reducible refine (U1.out _).mono ?_))
      rintro e W1 ⟨rfl, hB1⟩
      have B1 := Aside0.mk hB1
      clear hB1 k0 k1 k2 k3 k4 k5 k6 k7 k8 k9 m0 m1 m2 m3 m4 m5 m6 m7 m8 m9
      obtain ⟨⟨k0, k1, k2, k3, k4, k5, k6, k7, k8, k9⟩, m0, m1, m2, m3, m4, m5, m6, m7, m8, m9⟩ := HK.out W1 B1.out
      go_wp2_with (go_at_call 33; (with_reducible refine (U1.out _).mono ?_))
      rintro e W2 ⟨rfl, hB2⟩
      have B2 := Aside0.mk (py_next B1.out hB2)
      clear hB2 k0 k1 k2 k3 k4 k5 k6 k7 k8 k9 m0 m1 m2 m3 m4 m5 m6 m7 m8 m9
      obtain ⟨⟨k0, k1, k2, k3, k4, k5, k6, k7, k8, k9⟩, m0, m1, m2, m3, m4, m5, m6, m7, m8, m9⟩ := HK.out W2 B2.out
      go_wp2_with (go_at_call 33; (with_reducible refine (U2.out _).mono ?_))
      rintro e W3 ⟨rfl, hB3⟩
      have B3 := Aside0.mk (py_next B2.out hB3)
      clear hB3 k0 k1 k2 k3 k4 k5 k6 k7 k8 k9 m0 m1 m2 m3 m4 m5 m6 m7 m8 m9
      go_wp2
      go_ret
      exact ⟨by rw [HR.out]; rfl, HB.out.trans (B3.out.mono HB.out.size)⟩
    | false =>
      have U1 := Aside0.mk (T1.out false hb1.symm)
      have U2 := Aside0.mk (T2.out false hb2.symm)
      have HB1 := Aside0.mk hb1
      have HB2 := Aside0.mk hb2
      clear T1 T2 hb1 hb2
      rcases po with _ | pa <;> rcases po' with _ | pa'
      · have HR : Aside0 (r = 0) := ⟨by have := HH.out; unfold preC at this; rw [if_neg (by rw [HB1.out]; exact Bool.false_ne_true), if_neg (by rw [HB2.out]; exact Bool.false_ne_true), if_pos rfl, if_pos rfl] at this; exact (Option.some.inj this).symm⟩
        clear HH HZ HB1 HB2
        go_enter Try.func27, Try.ntmps27
        go_upto_region 8 with fail
        rw [← HWA.out]
        obtain ⟨⟨k0, k1, k2, k3, k4, k5, k6, k7, k8, k9⟩, m0, m1, m2, m3, m4, m5, m6, m7, m8, m9⟩ := HK.out WA (Below.refl _ _)
        go_wp2_with (go_at_call 33; (with_reducible refine (U1.out _).mono ?_))
        rintro e W1 ⟨rfl, hB1⟩
        have B1 := Aside0.mk hB1
        clear hB1 k0 k1 k2 k3 k4 k5 k6 k7 k8 k9 m0 m1 m2 m3 m4 m5 m6 m7 m8 m9
        obtain ⟨⟨k0, k1, k2, k3, k4, k5, k6, k7, k8, k9⟩, m0, m1, m2, m3, m4, m5, m6, m7, m8, m9⟩ := HK.out W1 B1.out
        go_wp2_with (go_at_call 33; (with_reducible refine (U1.out _).mono ?_))
        rintro e W2 ⟨rfl, hB2⟩
        have B2 := Aside0.mk (py_next B1.out hB2)
        clear hB2 k0 k1 k2 k3 k4 k5 k6 k7 k8 k9 m0 m1 m2 m3 m4 m5 m6 m7 m8 m9
        obtain ⟨⟨k0, k1, k2, k3, k4, k5, k6, k7, k8, k9⟩, m0, m1, m2, m3, m4, m5, m6, m7, m8, m9⟩ := HK.out W2 B2.out
        go_wp2_with (go_at_call 33; (with_reducible refine (U2.out _).mono ?_))
        rintro e W3 ⟨rfl, hB3⟩
        have B3 := Aside0.mk (py_next B2.out hB3)
        clear hB3 k0 k1 k2 k3 k4 k5 k6 k7 k8 k9 m0 m1 m2 m3 m4 m5 m6 m7 m8 m9
        obtain ⟨⟨k0, k1, k2, k3, k4, k5, k6, k7, k8, k9⟩, m0, m1, m2, m3, m4, m5, m6, m7, m8, m9⟩ := HK.out W3 B3.out
        go_wp2
        go_ret
        exact ⟨by rw [HR.out]; rfl, HB.out.trans (B3.out.mono HB.out.size)⟩
      · have HR : Aside0 (r = 1) := ⟨by have := HH.out; unfold preC at this; rw [if_neg (by rw [HB1.out]; exact Bool.false_ne_true), if_neg (by rw [HB2.out]; exact Bool.false_ne_true), if_pos rfl, if_neg (by simp)] at this; exact (Option.some.inj this).symm⟩
        clear HH HZ HB1 HB2
        go_enter Try.func27, Try.ntmps27
        go_upto_region 8 with fail
        rw [← HWA.out]
        obtain ⟨⟨k0, k1, k2, k3, k4, k5, k6, k7, k8, k9⟩, m0, m1, m2, m3, m4, m5, m6, m7, m8, m9⟩ := HK.out WA (Below.refl _ _)
        go_wp2_with (go_at_call 33; (with_reducible refine (U1.out _).mono ?_))
        rintro e W1 ⟨rfl, hB1⟩
        have B1 := Aside0.mk hB1
        clear hB1 k0 k1 k2 k3 k4 k5 k6 k7 k8 k9 m0 m1 m2 m3 m4 m5 m6 m7 m8 m9
        obtain ⟨⟨k0, k1, k2, k3, k4, k5, k6, k7, k8, k9⟩, m0, m1, m2, m3, m4, m5, m6, m7, m8, m9⟩ := HK.out W1 B1.out
        go_wp2_with (go_at_call 33; (with_reducible refine (U1.out _).mono ?_))
        rintro e W2 ⟨rfl, hB2⟩
        have B2 := Aside0.mk (py_next B1.out hB2)
        clear hB2 k0 k1 k2 k3 k4 k5 k6 k7 k8 k9 m0 m1 m2 m3 m4 m5 m6 m7 m8 m9
        obtain ⟨⟨k0, k1, k2, k3, k4, k5, k6, k7, k8, k9⟩, m0, m1, m2, m3, m4, m5, m6, m7, m8, m9⟩ := HK.out W2 B2.out
        go_wp2_with (go_at_call 33; (with_reducible refine (U2.out _).mono ?_))
        rintro e W3 ⟨rfl, hB3⟩
        have B3 := Aside0.mk (py_next B2.out hB3)
        clear hB3 k0 k1 k2 k3 k4 k5 k6 k7 k8 k9 m0 m1 m2 m3 m4 m5 m6 m7 m8 m9
        obtain ⟨⟨k0, k1, k2, k3, k4, k5, k6, k7, k8, k9⟩, m0, m1, m2, m3, m4, m5, m6, m7, m8, m9⟩ := HK.out W3 B3.out
        go_wp2
        go_ret
        exact ⟨by rw [HR.out]; rfl, HB.out.trans (B3.out.mono HB.out.size)⟩
      · have HR : Aside0 (r = -1) := ⟨by have := HH.out; unfold preC at this; rw [if_neg (by rw [HB1.out]; exact Bool.false_ne_true), if_neg (by rw [HB2.out]; exact Bool.false_ne_true), if_neg (by simp), if_pos rfl] at this; exact (Option.some.inj this).symm⟩
        clear HH HZ HB1 HB2
        go_enter Try.func27, Try.ntmps27
        go_upto_region 8 with fail
        rw [← HWA.out]
        obtain ⟨⟨k0, k1, k2, k3, k4, k5, k6, k7, k8, k9⟩, m0, m1, m2, m3, m4, m5, m6, m7, m8, m9⟩ := HK.out WA (Below.refl _ _)
        go_wp2_with (go_at_call 33; (with_reducible refine (U1.out _).mono ?_))
        rintro e W1 ⟨rfl, hB1⟩
        have B1 := Aside0.mk hB1
        clear hB1 k0 k1 k2 k3 k4 k5 k6 k7 k8 k9 m0 m1 m2 m3 m4 m5 m6 m7 m8 m9
        obtain ⟨⟨k0, k1, k2, k3, k4, k5, k6, k7, k8, k9⟩, m0, m1, m2, m3, m4, m5, m6, m7, m8, m9⟩ := HK.out W1 B1.out
        go_wp2_with (go_at_call 33; (with_reducible refine (U1.out _).mono ?_))
        rintro e W2 ⟨rfl, hB2⟩
        have B2 := Aside0.mk (py_next B1.out hB2)
        clear hB2 k0 k1 k2 k3 k4 k5 k6 k7 k8 k9 m0 m1 m2 m3 m4 m5 m6 m7 m8 m9
        obtain ⟨⟨k0, k1, k2, k3, k4, k5, k6, k7, k8, k9⟩, m0, m1, m2, m3, m4, m5, m6, m7, m8, m9⟩ := HK.out W2 B2.out
        go_wp2_with (go_at_call 33; (with_reducible refine (U2.out _).mono ?_))
        rintro e W3 ⟨rfl, hB3⟩
        have B3 := Aside0.mk (py_next B2.out hB3)
        clear hB3 k0 k1 k2 k3 k4 k5 k6 k7 k8 k9 m0 m1 m2 m3 m4 m5 m6 m7 m8 m9
        obtain ⟨⟨k0, k1, k2, k3, k4, k5, k6, k7, k8, k9⟩, m0, m1, m2, m3, m4, m5, m6, m7, m8, m9⟩ := HK.out W3 B3.out
        go_wp2
        go_ret
        exact ⟨by rw [HR.out]; rfl, HB.out.trans (B3.out.mono HB.out.size)⟩
      · have hh := HH.out
        unfold preC at hh
        rw [if_neg (by rw [HB1.out]; exact Bool.false_ne_true), if_neg (by rw [HB2.out]; exact Bool.false_ne_true), if_neg (by simp), if_neg (by simp)] at hh
        have HZ1 := Aside0.mk (HZ.out pa pa' rfl rfl)
        clear HH HZ HB1 HB2
        by_cases hsz : pl.size = 0 ∨ pl'.size = 0
        · rw [if_pos hsz] at hh; cases hh
        · rw [if_neg hsz] at hh
          have hs1 : 0 < pl.size := by omega
          have hs2 : 0 < pl'.size := by omega
          go_enter Try.func27, Try.ntmps27
          go_upto_region 8 with fail
          rw [← HWA.out]
          obtain ⟨⟨k0, k1, k2, k3, k4, k5, k6, k7, k8, k9⟩, m0, m1, m2, m3, m4, m5, m6, m7, m8, m9⟩ := HK.out WA (Below.refl _ _)
          go_wp2_with (go_at_call 33; (with_reducible refine (U1.out _).mono ?_))
          rintro e W1 ⟨rfl, hB1⟩
          have B1 := Aside0.mk hB1
          clear hB1 k0 k1 k2 k3 k4 k5 k6 k7 k8 k9 m0 m1 m2 m3 m4 m5 m6 m7 m8 m9
          obtain ⟨⟨k0, k1, k2, k3, k4, k5, k6, k7, k8, k9⟩, m0, m1, m2, m3, m4, m5, m6, m7, m8, m9⟩ := HK.out W1 B1.out
          go_wp2_with (go_at_call 33; (with_reducible refine (U1.out _).mono ?_))
          rintro e W2 ⟨rfl, hB2⟩
          have B2 := Aside0.mk (py_next B1.out hB2)
          clear hB2 k0 k1 k2 k3 k4 k5 k6 k7 k8 k9 m0 m1 m2 m3 m4 m5 m6 m7 m8 m9
          obtain ⟨⟨k0, k1, k2, k3, k4, k5, k6, k7, k8, k9⟩, m0, m1, m2, m3, m4, m5, m6, m7, m8, m9⟩ := HK.out W2 B2.out
          go_wp2_with (go_at_call 33; (with_reducible refine (U2.out _).mono ?_))
          rintro e W3 ⟨rfl, hB3⟩
          have B3 := Aside0.mk (py_next B2.out hB3)
          clear hB3 k0 k1 k2 k3 k4 k5 k6 k7 k8 k9 m0 m1 m2 m3 m4 m5 m6 m7 m8 m9
          obtain ⟨⟨k0, k1, k2, k3, k4, k5, k6, k7, k8, k9⟩, m0, m1, m2, m3, m4, m5, m6, m7, m8, m9⟩ := HK.out W3 B3.out
          go_upto_region 3 with fail
          generalize hx : pl[0].toNat = x
          generalize hy : pl'[0].toNat = y
          have e1 : pyHd pl = (x : Int) := by rw [b0_eq pl hs1, hx]
          have e2 : pyHd pl' = (y : Int) := by rw [b0_eq pl' hs2, hy]
          rw [e1, e2] at hh
          have HZ2 := Aside0.mk (HZ1.out W3 (HB.out.trans (B3.out.mono HB.out.size)))
          clear e1 e2 hx hy hs1 hs2 hsz HZ1 U1 U2 HK HWA B1 B2
          rcases Nat.lt_trichotomy x y with hl | hl | hl
          · rw [if_neg (by omega), if_pos (by omega)] at hh
            have HR := Aside0.mk (Option.some.inj hh)
            have d1 : decide (y < x) = false := decide_eq_false (by omega)
            have d2 : decide (x < y) = true := decide_eq_true hl
            have d3 : decide ((y : Int) < (x : Int)) = false := decide_eq_false (by omega)
            have d4 : decide ((x : Int) < (y : Int)) = true := decide_eq_true (by omega)
            clear hh hl HZ2
            go_wp2
            go_ret
            exact ⟨by rw [← HR.out]; rfl, HB.out.trans (B3.out.mono HB.out.size)⟩
          · subst hl
            rw [if_neg (by omega), if_neg (by omega)] at hh
            have HR := Aside0.mk (Option.some.inj hh)
            have d1 : decide (x < x) = false := decide_eq_false (by omega)
            have d3 : decide ((x : Int) < (x : Int)) = false := decide_eq_false (by omega)
            clear hh
            go_wp2_with (go_at_call 34; (with_reducible refine (HZ2.out).mono ?_))
            rintro e W4 ⟨rfl, hB4⟩
            have B4 := Aside0.mk (py_next B3.out hB4)
            clear hB4 k0 k1 k2 k3 k4 k5 k6 k7 k8 k9 m0 m1 m2 m3 m4 m5 m6 m7 m8 m9
            go_wp2
            go_ret
            exact ⟨by rw [← HR.out]; rfl, HB.out.trans (B4.out.mono HB.out.size)⟩
          · rw [if_pos (by omega)] at hh
            have HR := Aside0.mk (Option.some.inj hh)
            have d1 : decide (y < x) = true := decide_eq_true hl
            have d3 : decide ((y : Int) < (x : Int)) = true := decide_eq_true (by omega)
            clear hh hl HZ2
            go_wp2
            go_ret
            exact ⟨by rw [← HR.out]; rfl, HB.out.trans (B3.out.mono HB.out.size)⟩
theorem py_none {W : World} {z : Option Int} {po : Option Addr} (h : PtrAt W z po) : (po = none ↔ z = none) ∧ po.isNone = z.isNone ∧ po.isSome = z.isSome := by
  cases z with
  | none =>
    have e : po = none := h
    subst e
    exact ⟨⟨fun _ => rfl, fun _ => rfl⟩, rfl, rfl⟩
  | some z =>
    obtain ⟨o, e, _⟩ := PtrAt.some h
    subst e
    exact ⟨⟨(fun h => by cases h), (fun h => by cases h)⟩, rfl, rfl⟩
def trickM (m : PV) : Bool := m.pn.isNone && m.qn.isNone && m.dn.isSome
/-- How the pre-releases compare. -/
def preM (m m' : PV) : Option Int :=
  if trickM m = true then (if trickM m' = true then some 0 else some (-1)) else if trickM m' = true then some 1
  else if m.pn = none then (if m'.pn = none then some 0 else some 1) else if m'.pn = none then some (-1)
  else if m.pl.size = 0 ∨ m'.pl.size = 0 then none
  else if pyHd m'.pl < pyHd m.pl then some 1 else if pyHd m.pl < pyHd m'.pl then some (-1) else some (Bn.cmpZ (m.pn.getD 0) (m'.pn.getD 0))
set_option maxHeartbeats 1000000 in
theorem py_cpre (m m' : PV) (r : Int) (hr : preM m m' = some r) (eo po qo dq ra : Option Addr) (rn rc : Nat) (la ga : Option Addr) (ln lc gn gc : Nat) (eo' po' qo' dq' ra' : Option Addr) (rn' rc' : Nat) (la' ga' : Option Addr) (ln' lc' gn' gc' : Nat) (w : World)
    (hp : PtrAt w m.pn po) (hq : PtrAt w m.qn qo) (hd : PtrAt w m.dn dq) (hp' : PtrAt w m'.pn po') (hq' : PtrAt w m'.qn qo') (hd' : PtrAt w m'.dn dq') :
    Calls Try.prog 27 #[.agg #[.pointer eo, .slice ra rn rc, .string m.pl, .pointer po, .string m.ql, .pointer qo, .string m.dl, .pointer dq, .slice la ln lc, .slice ga gn gc], .agg #[.pointer eo', .slice ra' rn' rc', .string m'.pl, .pointer po', .string m'.ql, .pointer qo', .string m'.dl, .pointer dq', .slice la' ln' lc', .slice ga' gn' gc']] w fun e w' => e = .returned (.int .i64 r) ∧ Below w.heap.size w w' := by
  refine py_pre m.pl m.ql m.dl eo po qo dq ra rn rc la ga ln lc gn gc m'.pl m'.ql m'.dl eo' po' qo' dq' ra' rn' rc' la' ga' ln' lc' gn' gc' (Bn.cmpZ (m.pn.getD 0) (m'.pn.getD 0)) r w ?_ ?_
  · intro a a' ha ha' W hB
    subst ha ha'
    cases hm : m.pn with
    | none => rw [hm] at hp; cases (PtrAt.none hp)
    | some z =>
      cases hm' : m'.pn with
      | none => rw [hm'] at hp'; cases (PtrAt.none hp')
      | some z' =>
        rw [hm] at hp
        rw [hm'] at hp'
        have h1 : Big.At w z (.pointer (some a)) := hp
        have h2 : Big.At w z' (.pointer (some a')) := hp'
        exact (big_Cmp _ _ z z' W (h1.below hB) (h2.below hB)).mono fun e w' h => ⟨h.1, py_drawn h.2⟩
  · have e1 := py_none hp
    have e2 := py_none hq
    have e3 := py_none hd
    have f1 := py_none hp'
    have f2 := py_none hq'
    have f3 := py_none hd'
    unfold preM trickM at hr
    unfold preC
    rw [e1.2.1, e2.2.1, e3.2.2, f1.2.1, f2.2.1, f3.2.2]
    simp only [e1.1, f1.1]
    exact hr
set_option maxRecDepth 100000 in
set_option maxHeartbeats 1000000 in
theorem py_zpre (m m' : PV) (r : Int) (hr : preM m m' = some r) (eo po qo dq ra : Option Addr) (rn rc : Nat) (la ga : Option Addr) (ln lc gn gc : Nat) (eo' po' qo' dq' ra' : Option Addr) (rn' rc' : Nat) (la' ga' : Option Addr) (ln' lc' gn' gc' : Nat) (w : World)
    (hp : PtrAt w m.pn po) (hq : PtrAt w m.qn qo) (hd : PtrAt w m.dn dq) (hp' : PtrAt w m'.pn po') (hq' : PtrAt w m'.qn qo') (hd' : PtrAt w m'.dn dq') (pl ql dl pl' ql' dl' : ByteArray) (el : pl = m.pl ∧ ql = m.ql ∧ dl = m.dl ∧ pl' = m'.pl ∧ ql' = m'.ql ∧ dl' = m'.dl) :
    Calls Try.prog 16 #[.agg #[.pointer eo, .slice ra rn rc, .string pl, .pointer po, .string ql, .pointer qo, .string dl, .pointer dq, .slice la ln lc, .slice ga gn gc], .agg #[.pointer eo', .slice ra' rn' rc', .string pl', .pointer po', .string ql', .pointer qo', .string dl', .pointer dq', .slice la' ln' lc', .slice ga' gn' gc']] w fun e w' => e = .returned (.int .i64 r) ∧ Below w.heap.size w w' := by
  obtain ⟨WA, hWA⟩ : ∃ WA : World, WA = (w.alloc (.cells #[.pointer eo, .slice ra rn rc, .string pl, .pointer po, .string ql, .pointer qo, .string dl, .pointer dq, .slice la ln lc, .slice ga gn gc] 48)).alloc (.cells #[.pointer eo', .slice ra' rn' rc', .string pl', .pointer po', .string ql', .pointer qo', .string dl', .pointer dq', .slice la' ln' lc', .slice ga' gn' gc'] 48) := ⟨_, rfl⟩
  have hs1 : (w.alloc (.cells #[.pointer eo, .slice ra rn rc, .string pl, .pointer po, .string ql, .pointer qo, .string dl, .pointer dq, .slice la ln lc, .slice ga gn gc] 48)).heap.size = w.heap.size + 1 := by simp
  have c1 : WA.heap[w.heap.size]? = some (.cells #[.pointer eo, .slice ra rn rc, .string pl, .pointer po, .string ql, .pointer qo, .string dl, .pointer dq, .slice la ln lc, .slice ga gn gc] 48 (0, 0)) := by rw [hWA]; exact blk_alloc (blk_new w _) _
  have c2 : WA.heap[w.heap.size + 1]? = some (.cells #[.pointer eo', .slice ra' rn' rc', .string pl', .pointer po', .string ql', .pointer qo', .string dl', .pointer dq', .slice la' ln' lc', .slice ga' gn' gc'] 48 (0, 0)) := by
    have := blk_new (w.alloc (.cells #[.pointer eo, .slice ra rn rc, .string pl, .pointer po, .string ql, .pointer qo, .string dl, .pointer dq, .slice la ln lc, .slice ga gn gc] 48)) (.cells #[.pointer eo', .slice ra' rn' rc', .string pl', .pointer po', .string ql', .pointer qo', .string dl', .pointer dq', .slice la' ln' lc', .slice ga' gn' gc'] 48)
    rw [hs1] at this
    rw [hWA]
    exact this
  have hB : Below w.heap.size w WA := by rw [hWA]; exact ((Below.refl _ w).alloc (Nat.le_refl _) _).alloc (by simp) _
  have HC := Aside0.mk (py_cpre m m' r hr eo po qo dq ra rn rc la ga ln lc gn gc eo' po' qo' dq' ra' rn' rc' la' ga' ln' lc' gn' gc' WA (hp.below hB) (hq.below hB) (hd.below hB) (hp'.below hB) (hq'.below hB) (hd'.below hB))
  rw [← el.1, ← el.2.1, ← el.2.2.1, ← el.2.2.2.1, ← el.2.2.2.2.1, ← el.2.2.2.2.2] at HC
  have HB := Aside0.mk hB
  obtain ⟨k0, k1, k2, k3, k4, k5, k6, k7, k8, k9⟩ := py_S10 c1
  obtain ⟨m0, m1, m2, m3, m4, m5, m6, m7, m8, m9⟩ := py_S10 c2
  have HWA := Aside0.mk hWA
  clear c1 c2 hWA hs1 hB hp hq hd hp' hq' hd' hr el
  go_enter Try.func16, Try.ntmps16
  go_upto_region 1 with fail
  rw [← HWA.out]
  go_wp2_with (go_at_call 27; (with_reducible refine (HC.out).mono ?_))
  rintro e W1 ⟨rfl, hB1⟩
  have HB1 := Aside0.mk (py_next HB.out hB1)
  clear hB1 HC HB k0 k1 k2 k3 k4 k5 k6 k7 k8 k9 m0 m1 m2 m3 m4 m5 m6 m7 m8 m9
  go_wp2
  go_ret
  exact ⟨rfl, HB1.out⟩
def impl_PyPIPre.f (k : Nat) (a0_0 : Bool) (a0_1 : ByteArray) (l0_2 : List S23) (a0_3 : Bool) (a0_4 : ByteArray) (a0_5 : Bool) (a0_6 : ByteArray) (a0_7 : Bool) (a0_8 : ByteArray) (a0_9 : Bool) (a0_10 : ByteArray) (a0_11 : Bool) (a0_12 : ByteArray) (a0_13 : Bool) (a0_14 : ByteArray) (l0_15 : List ByteArray) (l0_16 : List ByteArray) (a1_0 : Bool) (a1_1 : ByteArray) (l1_2 : List S23) (a1_3 : Bool) (a1_4 : ByteArray) (a1_5 : Bool) (a1_6 : ByteArray) (a1_7 : Bool) (a1_8 : ByteArray) (a1_9 : Bool) (a1_10 : ByteArray) (a1_11 : Bool) (a1_12 : ByteArray) (a1_13 : Bool) (a1_14 : ByteArray) (l1_15 : List ByteArray) (l1_16 : List ByteArray) : Option Int := (impl_bigs.f k l0_2).bind fun p => (impl_bigs.f k l1_2).bind fun q => if (pyFit a0_1 a0_6 a0_10 a0_14 p && pyFit a1_1 a1_6 a1_10 a1_14 q) = true then preM ⟨zval a0_0 a0_1, p.map zvS, a0_4, lzO a0_3 a0_5 a0_6, a0_8, lzO a0_7 a0_9 a0_10, a0_12, lzO a0_11 a0_13 a0_14, l0_15, l0_16⟩ ⟨zval a1_0 a1_1, q.map zvS, a1_4, lzO a1_3 a1_5 a1_6, a1_8, lzO a1_7 a1_9 a1_10, a1_12, lzO a1_11 a1_13 a1_14, l1_15, l1_16⟩ else none
theorem impl_PyPIPre.mono : ∀ a0 a1 a2 a3 a4 a5 a6 a7 a8 a9 a10 a11 a12 a13 a14 a15 a16 a17 a18 a19 a20 a21 a22 a23 a24 a25 a26 a27 a28 a29 a30 a31 a32 a33 k, LeO (impl_PyPIPre.f k a0 a1 a2 a3 a4 a5 a6 a7 a8 a9 a10 a11 a12 a13 a14 a15 a16 a17 a18 a19 a20 a21 a22 a23 a24 a25 a26 a27 a28 a29 a30 a31 a32 a33) (impl_PyPIPre.f (k + 1) a0 a1 a2 a3 a4 a5 a6 a7 a8 a9 a10 a11 a12 a13 a14 a15 a16 a17 a18 a19 a20 a21 a22 a23 a24 a25 a26 a27 a28 a29 a30 a31 a32 a33) := by
  intro a0 a1 a2 a3 a4 a5 a6 a7 a8 a9 a10 a11 a12 a13 a14 a15 a16 a17 a18 a19 a20 a21 a22 a23 a24 a25 a26 a27 a28 a29 a30 a31 a32 a33 k
  unfold impl_PyPIPre.f
  exact LeO.bind (impl_bigs.mono _ _) fun _ => LeO.bind (impl_bigs.mono _ _) fun _ => LeO.refl _
set_option maxRecDepth 100000 in
set_option maxHeartbeats 8000000 in
theorem impl_PyPIPre.calls (k : Nat) (a0_0 : Bool) (a0_1 : ByteArray) (A0_2 : Option Addr) (c0_2 : Nat) (l0_2 : List S23) (a0_3 : Bool) (a0_4 : ByteArray) (a0_5 : Bool) (a0_6 : ByteArray) (a0_7 : Bool) (a0_8 : ByteArray) (a0_9 : Bool) (a0_10 : ByteArray) (a0_11 : Bool) (a0_12 : ByteArray) (a0_13 : Bool) (a0_14 : ByteArray) (A0_15 : Option Addr) (c0_15 : Nat) (l0_15 : List ByteArray) (A0_16 : Option Addr) (c0_16 : Nat) (l0_16 : List ByteArray) (a1_0 : Bool) (a1_1 : ByteArray) (A1_2 : Option Addr) (c1_2 : Nat) (l1_2 : List S23) (a1_3 : Bool) (a1_4 : ByteArray) (a1_5 : Bool) (a1_6 : ByteArray) (a1_7 : Bool) (a1_8 : ByteArray) (a1_9 : Bool) (a1_10 : ByteArray) (a1_11 : Bool) (a1_12 : ByteArray) (a1_13 : Bool) (a1_14 : ByteArray) (A1_15 : Option Addr) (c1_15 : Nat) (l1_15 : List ByteArray) (A1_16 : Option Addr) (c1_16 : Nat) (l1_16 : List ByteArray) (r : Int) (w : World) (hr0_2 : Kd.C k23 w A0_2 l0_2.length l0_2) (hc0_2 : l0_2.length ≤ c0_2) (hr0_15 : Kd.C Kd.string w A0_15 l0_15.length l0_15) (hc0_15 : l0_15.length ≤ c0_15) (hr0_16 : Kd.C Kd.string w A0_16 l0_16.length l0_16) (hc0_16 : l0_16.length ≤ c0_16) (hr1_2 : Kd.C k23 w A1_2 l1_2.length l1_2) (hc1_2 : l1_2.length ≤ c1_2) (hr1_15 : Kd.C Kd.string w A1_15 l1_15.length l1_15) (hc1_15 : l1_15.length ≤ c1_15) (hr1_16 : Kd.C Kd.string w A1_16 l1_16.length l1_16) (hc1_16 : l1_16.length ≤ c1_16) (h : impl_PyPIPre.f k a0_0 a0_1 l0_2 a0_3 a0_4 a0_5 a0_6 a0_7 a0_8 a0_9 a0_10 a0_11 a0_12 a0_13 a0_14 l0_15 l0_16 a1_0 a1_1 l1_2 a1_3 a1_4 a1_5 a1_6 a1_7 a1_8 a1_9 a1_10 a1_11 a1_12 a1_13 a1_14 l1_15 l1_16 = some r) :
    Calls Try.prog 6 #[.agg #[.bool a0_0, .string a0_1, .slice A0_2 l0_2.length c0_2, .bool a0_3, .string a0_4, .bool a0_5, .string a0_6, .bool a0_7, .string a0_8, .bool a0_9, .string a0_10, .bool a0_11, .string a0_12, .bool a0_13, .string a0_14, .slice A0_15 l0_15.length c0_15, .slice A0_16 l0_16.length c0_16], .agg #[.bool a1_0, .string a1_1, .slice A1_2 l1_2.length c1_2, .bool a1_3, .string a1_4, .bool a1_5, .string a1_6, .bool a1_7, .string a1_8, .bool a1_9, .string a1_10, .bool a1_11, .string a1_12, .bool a1_13, .string a1_14, .slice A1_15 l1_15.length c1_15, .slice A1_16 l1_16.length c1_16]] w fun e w' => e = .returned (.int .i64 r) ∧ Below w.heap.size w w' := by
  unfold impl_PyPIPre.f at h
  obtain ⟨p, hp, hh⟩ := Option.bind_eq_some_iff.1 h
  clear h
  obtain ⟨q, hq, h⟩ := Option.bind_eq_some_iff.1 hh
  clear hh
  cases hf : (pyFit a0_1 a0_6 a0_10 a0_14 p && pyFit a1_1 a1_6 a1_10 a1_14 q) with
  | false => rw [if_neg (by simp only [hf]; exact Bool.false_ne_true)] at h; cases h
  | true =>
    rw [if_pos hf] at h
    rw [Bool.and_eq_true] at hf
    obtain ⟨u1, u2, u3, u4, u5, u6⟩ := pyFit_of hf.1
    obtain ⟨v1, v2, v3, v4, v5, v6⟩ := pyFit_of hf.2
    obtain ⟨m, hm⟩ : ∃ m : PV, m = ⟨zval a0_0 a0_1, p.map zvS, a0_4, lzO a0_3 a0_5 a0_6, a0_8, lzO a0_7 a0_9 a0_10, a0_12, lzO a0_11 a0_13 a0_14, l0_15, l0_16⟩ := ⟨_, rfl⟩
    obtain ⟨m', hm'⟩ : ∃ m : PV, m = ⟨zval a1_0 a1_1, q.map zvS, a1_4, lzO a1_3 a1_5 a1_6, a1_8, lzO a1_7 a1_9 a1_10, a1_12, lzO a1_11 a1_13 a1_14, l1_15, l1_16⟩ := ⟨_, rfl⟩
    rw [← hm, ← hm'] at h
    have e0 : a0_4 = m.pl ∧ a0_8 = m.ql ∧ a0_12 = m.dl ∧ a1_4 = m'.pl ∧ a1_8 = m'.ql ∧ a1_12 = m'.dl := by rw [hm, hm']; exact ⟨rfl, rfl, rfl, rfl, rfl, rfl⟩
    have e1 : m.loc = l0_15 ∧ m.leg = l0_16 ∧ m'.loc = l1_15 ∧ m'.leg = l1_16 ∧ m.rel.length = p.length ∧ m'.rel.length = q.length := by rw [hm, hm']; exact ⟨rfl, rfl, rfl, rfl, List.length_map .., List.length_map ..⟩
    have HP : Aside0 (∀ W, Below w.heap.size w W → Calls Try.prog 17 #[.agg #[.bool a0_0, .string a0_1, .slice A0_2 l0_2.length c0_2, .bool a0_3, .string a0_4, .bool a0_5, .string a0_6, .bool a0_7, .string a0_8, .bool a0_9, .string a0_10, .bool a0_11, .string a0_12, .bool a0_13, .string a0_14, .slice A0_15 l0_15.length c0_15, .slice A0_16 l0_16.length c0_16]] W (PyO m a0_4 a0_8 a0_12 p.length (.slice A0_15 l0_15.length c0_15) (.slice A0_16 l0_16.length c0_16) W)) := ⟨fun W hB => by
      rw [hm]
      exact py_make a0_0 a0_1 A0_2 l0_2.length c0_2 p a0_3 a0_4 a0_5 a0_6 a0_7 a0_8 a0_9 a0_10 a0_11 a0_12 a0_13 a0_14 A0_15 l0_15.length c0_15 l0_15 A0_16 l0_16.length c0_16 l0_16 W (fun W2 hB2 => (impl_bigs.calls k A0_2 c0_2 l0_2 p W2 (Kd.C_below hr0_2 (py_next hB hB2)) hc0_2 hp).mono fun e w' h => py_bigs h) u6 u5 u1 u2 u3 u4⟩
    have HQ : Aside0 (∀ W, Below w.heap.size w W → Calls Try.prog 17 #[.agg #[.bool a1_0, .string a1_1, .slice A1_2 l1_2.length c1_2, .bool a1_3, .string a1_4, .bool a1_5, .string a1_6, .bool a1_7, .string a1_8, .bool a1_9, .string a1_10, .bool a1_11, .string a1_12, .bool a1_13, .string a1_14, .slice A1_15 l1_15.length c1_15, .slice A1_16 l1_16.length c1_16]] W (PyO m' a1_4 a1_8 a1_12 q.length (.slice A1_15 l1_15.length c1_15) (.slice A1_16 l1_16.length c1_16) W)) := ⟨fun W hB => by
      rw [hm']
      exact py_make a1_0 a1_1 A1_2 l1_2.length c1_2 q a1_3 a1_4 a1_5 a1_6 a1_7 a1_8 a1_9 a1_10 a1_11 a1_12 a1_13 a1_14 A1_15 l1_15.length c1_15 l1_15 A1_16 l1_16.length c1_16 l1_16 W (fun W2 hB2 => (impl_bigs.calls k A1_2 c1_2 l1_2 q W2 (Kd.C_below hr1_2 (py_next hB hB2)) hc1_2 hq).mono fun e w' h => py_bigs h) v6 v5 v1 v2 v3 v4⟩
    have HC : Aside0 (∀ eo po qo dq ra rc eo' po' qo' dq' ra' rc' W, (∃ b, PvO W b m p.length eo po qo dq ra rc) → (∃ b, PvO W b m' q.length eo' po' qo' dq' ra' rc') → Below w.heap.size w W → Calls Try.prog 16 #[.agg #[.pointer eo, .slice ra p.length rc, .string a0_4, .pointer po, .string a0_8, .pointer qo, .string a0_12, .pointer dq, .slice A0_15 l0_15.length c0_15, .slice A0_16 l0_16.length c0_16], .agg #[.pointer eo', .slice ra' q.length rc', .string a1_4, .pointer po', .string a1_8, .pointer qo', .string a1_12, .pointer dq', .slice A1_15 l1_15.length c1_15, .slice A1_16 l1_16.length c1_16]] W fun e w' => e = .returned (.int .i64 r) ∧ Below W.heap.size W w') := ⟨fun eo po qo dq ra rc eo' po' qo' dq' ra' rc' W ⟨_, o1⟩ ⟨_, o2⟩ hB => py_zpre m m' r h eo po qo dq ra _ _ _ _ _ _ _ _ eo' po' qo' dq' ra' _ _ _ _ _ _ _ _ W o1.p.at_ o1.q.at_ o1.d.at_ o2.p.at_ o2.q.at_ o2.d.at_ _ _ _ _ _ _ e0⟩
    obtain ⟨np, hnp⟩ : ∃ n, n = p.length := ⟨_, rfl⟩
    obtain ⟨nq, hnq⟩ : ∃ n, n = q.length := ⟨_, rfl⟩
    rw [← hnp] at HP HC
    rw [← hnq] at HQ HC
    obtain ⟨n0_2, hn0_2⟩ : ∃ n, n = l0_2.length := ⟨_, rfl⟩
    obtain ⟨n0_15, hn0_15⟩ : ∃ n, n = l0_15.length := ⟨_, rfl⟩
    obtain ⟨n0_16, hn0_16⟩ : ∃ n, n = l0_16.length := ⟨_, rfl⟩
    obtain ⟨n1_2, hn1_2⟩ : ∃ n, n = l1_2.length := ⟨_, rfl⟩
    obtain ⟨n1_15, hn1_15⟩ : ∃ n, n = l1_15.length := ⟨_, rfl⟩
    obtain ⟨n1_16, hn1_16⟩ : ∃ n, n = l1_16.length := ⟨_, rfl⟩
    rw [← hn0_2, ← hn0_15, ← hn0_16] at HP
    rw [← hn1_2, ← hn1_15, ← hn1_16] at HQ
    rw [← hn0_15, ← hn0_16, ← hn1_15, ← hn1_16] at HC
    rw [← hn0_2, ← hn0_15, ← hn0_16, ← hn1_2, ← hn1_15, ← hn1_16]
    clear hp hq hf u1 u2 u3 u4 u5 u6 v1 v2 v3 v4 v5 v6 h hm hm' e0 e1 hr0_2 hc0_2 hn0_2 hr0_15 hc0_15 hn0_15 hr0_16 hc0_16 hn0_16 hr1_2 hc1_2 hn1_2 hr1_15 hc1_15 hn1_15 hr1_16 hc1_16 hn1_16 hnp hnq
    obtain ⟨WA, hWA⟩ : ∃ WA : World, WA = (w.alloc (.cells #[.bool a0_0, .string a0_1, .slice A0_2 n0_2 c0_2, .bool a0_3, .string a0_4, .bool a0_5, .string a0_6, .bool a0_7, .string a0_8, .bool a0_9, .string a0_10, .bool a0_11, .string a0_12, .bool a0_13, .string a0_14, .slice A0_15 n0_15 c0_15, .slice A0_16 n0_16 c0_16] 29)).alloc (.cells #[.bool a1_0, .string a1_1, .slice A1_2 n1_2 c1_2, .bool a1_3, .string a1_4, .bool a1_5, .string a1_6, .bool a1_7, .string a1_8, .bool a1_9, .string a1_10, .bool a1_11, .string a1_12, .bool a1_13, .string a1_14, .slice A1_15 n1_15 c1_15, .slice A1_16 n1_16 c1_16] 29) := ⟨_, rfl⟩
    have hs1 : (w.alloc (.cells #[.bool a0_0, .string a0_1, .slice A0_2 n0_2 c0_2, .bool a0_3, .string a0_4, .bool a0_5, .string a0_6, .bool a0_7, .string a0_8, .bool a0_9, .string a0_10, .bool a0_11, .string a0_12, .bool a0_13, .string a0_14, .slice A0_15 n0_15 c0_15, .slice A0_16 n0_16 c0_16] 29)).heap.size = w.heap.size + 1 := by simp
    have c98 : WA.heap[w.heap.size]? = some (.cells #[.bool a0_0, .string a0_1, .slice A0_2 n0_2 c0_2, .bool a0_3, .string a0_4, .bool a0_5, .string a0_6, .bool a0_7, .string a0_8, .bool a0_9, .string a0_10, .bool a0_11, .string a0_12, .bool a0_13, .string a0_14, .slice A0_15 n0_15 c0_15, .slice A0_16 n0_16 c0_16] 29 (0, 0)) := by rw [hWA]; exact blk_alloc (blk_new w _) _
    have c97 : WA.heap[w.heap.size + 1]? = some (.cells #[.bool a1_0, .string a1_1, .slice A1_2 n1_2 c1_2, .bool a1_3, .string a1_4, .bool a1_5, .string a1_6, .bool a1_7, .string a1_8, .bool a1_9, .string a1_10, .bool a1_11, .string a1_12, .bool a1_13, .string a1_14, .slice A1_15 n1_15 c1_15, .slice A1_16 n1_16 c1_16] 29 (0, 0)) := by
      have := blk_new (w.alloc (.cells #[.bool a0_0, .string a0_1, .slice A0_2 n0_2 c0_2, .bool a0_3, .string a0_4, .bool a0_5, .string a0_6, .bool a0_7, .string a0_8, .bool a0_9, .string a0_10, .bool a0_11, .string a0_12, .bool a0_13, .string a0_14, .slice A0_15 n0_15 c0_15, .slice A0_16 n0_16 c0_16] 29)) (.cells #[.bool a1_0, .string a1_1, .slice A1_2 n1_2 c1_2, .bool a1_3, .string a1_4, .bool a1_5, .string a1_6, .bool a1_7, .string a1_8, .bool a1_9, .string a1_10, .bool a1_11, .string a1_12, .bool a1_13, .string a1_14, .slice A1_15 n1_15 c1_15, .slice A1_16 n1_16 c1_16] 29)
      rw [hs1] at this
      rw [hWA]
      exact this
    have c99 : Below w.heap.size w WA := by rw [hWA]; exact ((Below.refl _ w).alloc (Nat.le_refl _) _).alloc (by simp) _
    have c96 : WA.drew.heap[w.heap.size]? = some (.cells #[.bool a0_0, .string a0_1, .slice A0_2 n0_2 c0_2, .bool a0_3, .string a0_4, .bool a0_5, .string a0_6, .bool a0_7, .string a0_8, .bool a0_9, .string a0_10, .bool a0_11, .string a0_12, .bool a0_13, .string a0_14, .slice A0_15 n0_15 c0_15, .slice A0_16 n0_16 c0_16] 29 (0, 0)) := c98
    have c95 : WA.drew.heap[w.heap.size + 1]? = some (.cells #[.bool a1_0, .string a1_1, .slice A1_2 n1_2 c1_2, .bool a1_3, .string a1_4, .bool a1_5, .string a1_6, .bool a1_7, .string a1_8, .bool a1_9, .string a1_10, .bool a1_11, .string a1_12, .bool a1_13, .string a1_14, .slice A1_15 n1_15 c1_15, .slice A1_16 n1_16 c1_16] 29 (0, 0)) := c97
    clear hs1
    have HWA := Aside0.mk hWA
    clear hWA
    go_enter Try.func6, Try.ntmps6
    go_wp2
    rw [← HWA.out]
    clear HWA
    go_region_held3 (fun w' => (w'.cell? ⟨w.heap.size, 0, none⟩ = some (.bool a0_0) ∧ w'.cell? ⟨w.heap.size, 1, none⟩ = some (.string a0_1) ∧ w'.cell? ⟨w.heap.size, 2, none⟩ = some (.slice A0_2 n0_2 c0_2) ∧ w'.cell? ⟨w.heap.size, 3, none⟩ = some (.bool a0_3) ∧ w'.cell? ⟨w.heap.size, 4, none⟩ = some (.string a0_4) ∧ w'.cell? ⟨w.heap.size, 5, none⟩ = some (.bool a0_5) ∧ w'.cell? ⟨w.heap.size, 6, none⟩ = some (.string a0_6) ∧ w'.cell? ⟨w.heap.size, 7, none⟩ = some (.bool a0_7) ∧ w'.cell? ⟨w.heap.size, 8, none⟩ = some (.string a0_8) ∧ w'.cell? ⟨w.heap.size, 9, none⟩ = some (.bool a0_9) ∧ w'.cell? ⟨w.heap.size, 10, none⟩ = some (.string a0_10) ∧ w'.cell? ⟨w.heap.size, 11, none⟩ = some (.bool a0_11) ∧ w'.cell? ⟨w.heap.size, 12, none⟩ = some (.string a0_12) ∧ w'.cell? ⟨w.heap.size, 13, none⟩ = some (.bool a0_13) ∧ w'.cell? ⟨w.heap.size, 14, none⟩ = some (.string a0_14) ∧ w'.cell? ⟨w.heap.size, 15, none⟩ = some (.slice A0_15 n0_15 c0_15) ∧ w'.cell? ⟨w.heap.size, 16, none⟩ = some (.slice A0_16 n0_16 c0_16)) ∧ (w'.cell? ⟨w.heap.size + 1, 0, none⟩ = some (.bool a1_0) ∧ w'.cell? ⟨w.heap.size + 1, 1, none⟩ = some (.string a1_1) ∧ w'.cell? ⟨w.heap.size + 1, 2, none⟩ = some (.slice A1_2 n1_2 c1_2) ∧ w'.cell? ⟨w.heap.size + 1, 3, none⟩ = some (.bool a1_3) ∧ w'.cell? ⟨w.heap.size + 1, 4, none⟩ = some (.string a1_4) ∧ w'.cell? ⟨w.heap.size + 1, 5, none⟩ = some (.bool a1_5) ∧ w'.cell? ⟨w.heap.size + 1, 6, none⟩ = some (.string a1_6) ∧ w'.cell? ⟨w.heap.size + 1, 7, none⟩ = some (.bool a1_7) ∧ w'.cell? ⟨w.heap.size + 1, 8, none⟩ = some (.string a1_8) ∧ w'.cell? ⟨w.heap.size + 1, 9, none⟩ = some (.bool a1_9) ∧ w'.cell? ⟨w.heap.size + 1, 10, none⟩ = some (.string a1_10) ∧ w'.cell? ⟨w.heap.size + 1, 11, none⟩ = some (.bool a1_11) ∧ w'.cell? ⟨w.heap.size + 1, 12, none⟩ = some (.string a1_12) ∧ w'.cell? ⟨w.heap.size + 1, 13, none⟩ = some (.bool a1_13) ∧ w'.cell? ⟨w.heap.size + 1, 14, none⟩ = some (.string a1_14) ∧ w'.cell? ⟨w.heap.size + 1, 15, none⟩ = some (.slice A1_15 n1_15 c1_15) ∧ w'.cell? ⟨w.heap.size + 1, 16, none⟩ = some (.slice A1_16 n1_16 c1_16))) (first | (with_reducible refine ⟨py_S17 (t := 29) ?_, py_S17 (t := 29) ?_⟩ <;> with_reducible assumption))
      (first
        | (go_at_call 17; (with_reducible refine (HP.out _ ?_).mono ?_); (first | (with_reducible assumption) | exact c99 | exact below_drew c99); rintro e wP ⟨⟨eo, po, qo, dq, ra, rc, rfl, oP, bP⟩⟩; have YP := py_keep bP (g := w.heap.size) (o := .cells #[.bool a0_0, .string a0_1, .slice A0_2 n0_2 c0_2, .bool a0_3, .string a0_4, .bool a0_5, .string a0_6, .bool a0_7, .string a0_8, .bool a0_9, .string a0_10, .bool a0_11, .string a0_12, .bool a0_13, .string a0_14, .slice A0_15 n0_15 c0_15, .slice A0_16 n0_16 c0_16] 29 (0, 0)) (by first | (with_reducible assumption) | exact c98); have RP := py_keep bP (g := w.heap.size + 1) (o := .cells #[.bool a1_0, .string a1_1, .slice A1_2 n1_2 c1_2, .bool a1_3, .string a1_4, .bool a1_5, .string a1_6, .bool a1_7, .string a1_8, .bool a1_9, .string a1_10, .bool a1_11, .string a1_12, .bool a1_13, .string a1_14, .slice A1_15 n1_15 c1_15, .slice A1_16 n1_16 c1_16] 29 (0, 0)) (by first | (with_reducible assumption) | exact c97); have BP : Below w.heap.size w wP := py_next (by first | (with_reducible assumption) | exact c99 | exact below_drew c99) bP)
        | (go_at_call 17; (with_reducible refine (HQ.out _ ?_).mono ?_); (first | (with_reducible assumption) | exact c99 | exact below_drew c99); rintro e wQ ⟨⟨eo', po', qo', dq', ra', rc', rfl, oQ, bQ⟩⟩; have YQ := py_keep bQ (g := w.heap.size) (o := .cells #[.bool a0_0, .string a0_1, .slice A0_2 n0_2 c0_2, .bool a0_3, .string a0_4, .bool a0_5, .string a0_6, .bool a0_7, .string a0_8, .bool a0_9, .string a0_10, .bool a0_11, .string a0_12, .bool a0_13, .string a0_14, .slice A0_15 n0_15 c0_15, .slice A0_16 n0_16 c0_16] 29 (0, 0)) (by first | (with_reducible assumption) | exact c98); have RQ := py_keep bQ (g := w.heap.size + 1) (o := .cells #[.bool a1_0, .string a1_1, .slice A1_2 n1_2 c1_2, .bool a1_3, .string a1_4, .bool a1_5, .string a1_6, .bool a1_7, .string a1_8, .bool a1_9, .string a1_10, .bool a1_11, .string a1_12, .bool a1_13, .string a1_14, .slice A1_15 n1_15 c1_15, .slice A1_16 n1_16 c1_16] 29 (0, 0)) (by first | (with_reducible assumption) | exact c97); have BQ : Below w.heap.size w wQ := py_next (by first | (with_reducible assumption) | exact c99 | exact below_drew c99) bQ; have oP := PvO.below oP bQ)
        | (go_at_call 16; (with_reducible refine (HC.out _ _ _ _ _ _ _ _ _ _ _ _ _ ?_ ?_ ?_).mono ?_); (with_reducible exact ⟨_, oP⟩); (with_reducible exact ⟨_, oQ⟩); (with_reducible exact BQ); rintro e wC ⟨rfl, bC⟩; have YC := py_keep bC YQ; have RC := py_keep bC RQ; have BC := py_next BQ bC))
    clear HP HQ HC oP oQ YP YQ YC RP RQ RC BP BQ bP bQ bC c95 c96 c97 c98 c99
    go_wp2
    go_ret
    exact ⟨rfl, BC⟩

end Go.Proofs.Ytipfmkfpaglkkaa.Z
