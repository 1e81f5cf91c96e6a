-- Written by a program of this session (myprint.py).
import Derived.Test.YtipfmkfpaglkkaaGreatDoorZ0
import Derived.Test.YtipfmkfpaglkkaaGreatDoorZ6
import Derived.Test.YtipfmkfpaglkkaaGreatDoorZ7
import Derived.Test.YtipfmkfpaglkkaaGreatDoorZ8
import Derived.Test.YtipfmkfpaglkkaaGreatDoorZ9
import Derived.Test.YtipfmkfpaglkkaaGreatDoorZ13
import Derived.Deep.MidRow
import Derived.Deep.CutBlock
import Derived.Deep.DeepCutAuto
import Derived.Deep.QuietTactic
import Derived.BigQuiet
import Derived.Test.YtipfmkfpaglkkaaGreatDoorSsC
import Derived.Test.YtipfmkfpaglkkaaGreatDoorShelf
import Derived.Test.YtipfmkfpaglkkaaGreatDoorBy
import Derived.Deep.RegionHeld3
import Derived.Test.YtipfmkfpaglkkaaGreatDoorBg
import Derived.Test.YtipfmkfpaglkkaaGreatDoorBn
import Derived.Test.YtipfmkfpaglkkaaGreatDoorGe
namespace Go.Proofs.YtipfmkfpaglkkaaGreatDoor.Z
open Go.Proofs.YtipfmkfpaglkkaaGreatDoor.Gw
open Go.RowKit Go.Proofs.YtipfmkfpaglkkaaGreatDoorW.PrintWords Go.Proofs.YtipfmkfpaglkkaaGreatDoorW.PrintLast Go.Proofs.YtipfmkfpaglkkaaGreatDoorW.PrintMore
attribute [local go_sem high] Go.Proofs.YtipfmkfpaglkkaaGreatDoor.Ge.gtr_str
attribute [local go_sem] max2_int min2_int max_two min_two max_three min_three max_four min_four   -- for this text's walks alone
set_option linter.unusedVariables false
set_option linter.unusedSimpArgs false

-- PLUGGED impl_PyPICompare: function 7 (a text of this session)
attribute [local go_sem] Ss.EV
def impl_PyPICompare.f (k : Nat) (a0_0 : Bool) (a0_1 : ByteArray) (l0_2 : List S23) (a0_3 : Bool) (a0_4 : ByteArray) (a0_5 : Bool) (a0_6 : ByteArray) (a0_7 : Bool) (a0_8 : ByteArray) (a0_9 : Bool) (a0_10 : ByteArray) (a0_11 : Bool) (a0_12 : ByteArray) (a0_13 : Bool) (a0_14 : ByteArray) (l0_15 : List ByteArray) (l0_16 : List ByteArray) (a1_0 : Bool) (a1_1 : ByteArray) (l1_2 : List S23) (a1_3 : Bool) (a1_4 : ByteArray) (a1_5 : Bool) (a1_6 : ByteArray) (a1_7 : Bool) (a1_8 : ByteArray) (a1_9 : Bool) (a1_10 : ByteArray) (a1_11 : Bool) (a1_12 : ByteArray) (a1_13 : Bool) (a1_14 : ByteArray) (l1_15 : List ByteArray) (l1_16 : List ByteArray) : Option Int := (impl_bigs.f k l0_2).bind fun p => (impl_bigs.f k l1_2).bind fun q => if (pyFit a0_1 a0_6 a0_10 a0_14 p && pyFit a1_1 a1_6 a1_10 a1_14 q) = true then pyM ⟨zval a0_0 a0_1, p.map zvS, a0_4, lzO a0_3 a0_5 a0_6, a0_8, lzO a0_7 a0_9 a0_10, a0_12, lzO a0_11 a0_13 a0_14, l0_15, l0_16⟩ ⟨zval a1_0 a1_1, q.map zvS, a1_4, lzO a1_3 a1_5 a1_6, a1_8, lzO a1_7 a1_9 a1_10, a1_12, lzO a1_11 a1_13 a1_14, l1_15, l1_16⟩ else none
theorem impl_PyPICompare.mono : ∀ a0 a1 a2 a3 a4 a5 a6 a7 a8 a9 a10 a11 a12 a13 a14 a15 a16 a17 a18 a19 a20 a21 a22 a23 a24 a25 a26 a27 a28 a29 a30 a31 a32 a33 k, LeO (impl_PyPICompare.f k a0 a1 a2 a3 a4 a5 a6 a7 a8 a9 a10 a11 a12 a13 a14 a15 a16 a17 a18 a19 a20 a21 a22 a23 a24 a25 a26 a27 a28 a29 a30 a31 a32 a33) (impl_PyPICompare.f (k + 1) a0 a1 a2 a3 a4 a5 a6 a7 a8 a9 a10 a11 a12 a13 a14 a15 a16 a17 a18 a19 a20 a21 a22 a23 a24 a25 a26 a27 a28 a29 a30 a31 a32 a33) := by
 intro a0 a1 a2 a3 a4 a5 a6 a7 a8 a9 a10 a11 a12 a13 a14 a15 a16 a17 a18 a19 a20 a21 a22 a23 a24 a25 a26 a27 a28 a29 a30 a31 a32 a33 k
 unfold impl_PyPICompare.f
 exact LeO.bind (impl_bigs.mono _ _) fun _ => LeO.bind (impl_bigs.mono _ _) fun _ => LeO.refl _
set_option maxRecDepth 100000 in
set_option maxHeartbeats 8000000 in
theorem impl_PyPICompare.calls (k : Nat) (a0_0 : Bool) (a0_1 : ByteArray) (A0_2 : Option Addr) (c0_2 : Nat) (l0_2 : List S23) (a0_3 : Bool) (a0_4 : ByteArray) (a0_5 : Bool) (a0_6 : ByteArray) (a0_7 : Bool) (a0_8 : ByteArray) (a0_9 : Bool) (a0_10 : ByteArray) (a0_11 : Bool) (a0_12 : ByteArray) (a0_13 : Bool) (a0_14 : ByteArray) (A0_15 : Option Addr) (c0_15 : Nat) (l0_15 : List ByteArray) (A0_16 : Option Addr) (c0_16 : Nat) (l0_16 : List ByteArray) (a1_0 : Bool) (a1_1 : ByteArray) (A1_2 : Option Addr) (c1_2 : Nat) (l1_2 : List S23) (a1_3 : Bool) (a1_4 : ByteArray) (a1_5 : Bool) (a1_6 : ByteArray) (a1_7 : Bool) (a1_8 : ByteArray) (a1_9 : Bool) (a1_10 : ByteArray) (a1_11 : Bool) (a1_12 : ByteArray) (a1_13 : Bool) (a1_14 : ByteArray) (A1_15 : Option Addr) (c1_15 : Nat) (l1_15 : List ByteArray) (A1_16 : Option Addr) (c1_16 : Nat) (l1_16 : List ByteArray) (r : Int) (w : World) (hr0_2 : Kd.C k23 w A0_2 l0_2.length l0_2) (hc0_2 : l0_2.length ≤ c0_2) (hr0_15 : Kd.C Kd.string w A0_15 l0_15.length l0_15) (hc0_15 : l0_15.length ≤ c0_15) (hr0_16 : Kd.C Kd.string w A0_16 l0_16.length l0_16) (hc0_16 : l0_16.length ≤ c0_16) (hr1_2 : Kd.C k23 w A1_2 l1_2.length l1_2) (hc1_2 : l1_2.length ≤ c1_2) (hr1_15 : Kd.C Kd.string w A1_15 l1_15.length l1_15) (hc1_15 : l1_15.length ≤ c1_15) (hr1_16 : Kd.C Kd.string w A1_16 l1_16.length l1_16) (hc1_16 : l1_16.length ≤ c1_16) (hG : GW w) (h : impl_PyPICompare.f k a0_0 a0_1 l0_2 a0_3 a0_4 a0_5 a0_6 a0_7 a0_8 a0_9 a0_10 a0_11 a0_12 a0_13 a0_14 l0_15 l0_16 a1_0 a1_1 l1_2 a1_3 a1_4 a1_5 a1_6 a1_7 a1_8 a1_9 a1_10 a1_11 a1_12 a1_13 a1_14 l1_15 l1_16 = some r) :
  Calls Tryz.prog 7 #[.agg #[.bool a0_0, .string a0_1, .slice A0_2 l0_2.length c0_2, .bool a0_3, .string a0_4, .bool a0_5, .string a0_6, .bool a0_7, .string a0_8, .bool a0_9, .string a0_10, .bool a0_11, .string a0_12, .bool a0_13, .string a0_14, .slice A0_15 l0_15.length c0_15, .slice A0_16 l0_16.length c0_16], .agg #[.bool a1_0, .string a1_1, .slice A1_2 l1_2.length c1_2, .bool a1_3, .string a1_4, .bool a1_5, .string a1_6, .bool a1_7, .string a1_8, .bool a1_9, .string a1_10, .bool a1_11, .string a1_12, .bool a1_13, .string a1_14, .slice A1_15 l1_15.length c1_15, .slice A1_16 l1_16.length c1_16]] w fun e w' => e = .returned (.int .i64 r) ∧ Below w.heap.size w w' := by
 unfold impl_PyPICompare.f at h
 obtain ⟨p, hp, hh⟩ := Option.bind_eq_some_iff.1 h
 clear h
 obtain ⟨q, hq, h⟩ := Option.bind_eq_some_iff.1 hh
 clear hh
 cases hf : (pyFit a0_1 a0_6 a0_10 a0_14 p && pyFit a1_1 a1_6 a1_10 a1_14 q) with
 | false => rw [if_neg (by simp only [hf]; exact Bool.false_ne_true)] at h; cases h
 | true =>
  rw [if_pos hf] at h
  rw [Bool.and_eq_true] at hf
  obtain ⟨u1, u2, u3, u4, u5, u6⟩ := pyFit_of hf.1
  obtain ⟨v1, v2, v3, v4, v5, v6⟩ := pyFit_of hf.2
  obtain ⟨m, hm⟩ : ∃ m : PV, m = ⟨zval a0_0 a0_1, p.map zvS, a0_4, lzO a0_3 a0_5 a0_6, a0_8, lzO a0_7 a0_9 a0_10, a0_12, lzO a0_11 a0_13 a0_14, l0_15, l0_16⟩ := ⟨_, rfl⟩
  obtain ⟨m', hm'⟩ : ∃ m : PV, m = ⟨zval a1_0 a1_1, q.map zvS, a1_4, lzO a1_3 a1_5 a1_6, a1_8, lzO a1_7 a1_9 a1_10, a1_12, lzO a1_11 a1_13 a1_14, l1_15, l1_16⟩ := ⟨_, rfl⟩
  rw [← hm, ← hm'] at h
  have e0 : a0_4 = m.pl ∧ a0_8 = m.ql ∧ a0_12 = m.dl ∧ a1_4 = m'.pl ∧ a1_8 = m'.ql ∧ a1_12 = m'.dl := by rw [hm, hm']; exact ⟨rfl, rfl, rfl, rfl, rfl, rfl⟩
  have e1 : m.loc = l0_15 ∧ m.leg = l0_16 ∧ m'.loc = l1_15 ∧ m'.leg = l1_16 ∧ m.rel.length = p.length ∧ m'.rel.length = q.length := by rw [hm, hm']; exact ⟨rfl, rfl, rfl, rfl, List.length_map .., List.length_map ..⟩
  have HP : Aside0 (∀ W, Below w.heap.size w W → Calls Tryz.prog 19 #[.agg #[.bool a0_0, .string a0_1, .slice A0_2 l0_2.length c0_2, .bool a0_3, .string a0_4, .bool a0_5, .string a0_6, .bool a0_7, .string a0_8, .bool a0_9, .string a0_10, .bool a0_11, .string a0_12, .bool a0_13, .string a0_14, .slice A0_15 l0_15.length c0_15, .slice A0_16 l0_16.length c0_16]] W (PyO m a0_4 a0_8 a0_12 p.length (.slice A0_15 l0_15.length c0_15) (.slice A0_16 l0_16.length c0_16) W)) := ⟨fun W hB => by
   rw [hm]
   exact py_make a0_0 a0_1 A0_2 l0_2.length c0_2 p a0_3 a0_4 a0_5 a0_6 a0_7 a0_8 a0_9 a0_10 a0_11 a0_12 a0_13 a0_14 A0_15 l0_15.length c0_15 l0_15 A0_16 l0_16.length c0_16 l0_16 W (fun W2 hB2 => (impl_bigs.calls k A0_2 c0_2 l0_2 p W2 (Kd.C_below hr0_2 (py_next hB hB2)) hc0_2 hp).mono fun e w' h => py_bigs h) u6 u5 u1 u2 u3 u4⟩
  have HQ : Aside0 (∀ W, Below w.heap.size w W → Calls Tryz.prog 19 #[.agg #[.bool a1_0, .string a1_1, .slice A1_2 l1_2.length c1_2, .bool a1_3, .string a1_4, .bool a1_5, .string a1_6, .bool a1_7, .string a1_8, .bool a1_9, .string a1_10, .bool a1_11, .string a1_12, .bool a1_13, .string a1_14, .slice A1_15 l1_15.length c1_15, .slice A1_16 l1_16.length c1_16]] W (PyO m' a1_4 a1_8 a1_12 q.length (.slice A1_15 l1_15.length c1_15) (.slice A1_16 l1_16.length c1_16) W)) := ⟨fun W hB => by
   rw [hm']
   exact py_make a1_0 a1_1 A1_2 l1_2.length c1_2 q a1_3 a1_4 a1_5 a1_6 a1_7 a1_8 a1_9 a1_10 a1_11 a1_12 a1_13 a1_14 A1_15 l1_15.length c1_15 l1_15 A1_16 l1_16.length c1_16 l1_16 W (fun W2 hB2 => (impl_bigs.calls k A1_2 c1_2 l1_2 q W2 (Kd.C_below hr1_2 (py_next hB hB2)) hc1_2 hq).mono fun e w' h => py_bigs h) v6 v5 v1 v2 v3 v4⟩
  have HC : Aside0 (∀ eo po qo dq ra rc eo' po' qo' dq' ra' rc' W, (∃ b, PvO W b m p.length eo po qo dq ra rc) → (∃ b, PvO W b m' q.length eo' po' qo' dq' ra' rc') → Below w.heap.size w W → Calls Tryz.prog 18 #[.agg #[.pointer eo, .slice ra p.length rc, .string a0_4, .pointer po, .string a0_8, .pointer qo, .string a0_12, .pointer dq, .slice A0_15 l0_15.length c0_15, .slice A0_16 l0_16.length c0_16], .agg #[.pointer eo', .slice ra' q.length rc', .string a1_4, .pointer po', .string a1_8, .pointer qo', .string a1_12, .pointer dq', .slice A1_15 l1_15.length c1_15, .slice A1_16 l1_16.length c1_16]] W fun e w' => e = .returned (.int .i64 r) ∧ Below W.heap.size W w') := ⟨fun eo po qo dq ra rc eo' po' qo' dq' ra' rc' W ⟨_, o1⟩ ⟨_, o2⟩ hB => by
   have t := py_full m m' r h eo po qo dq ra A0_15 A0_16 rc c0_15 c0_16 eo' po' qo' dq' ra' A1_15 A1_16 rc' c1_15 c1_16 W (o1.v (by rw [e1.1]; exact Kd.C_below hr0_15 hB) (by rw [e1.1]; exact hc0_15) (by rw [e1.2.1]; exact Kd.C_below hr0_16 hB) (by rw [e1.2.1]; exact hc0_16)) (o2.v (by rw [e1.2.2.1]; exact Kd.C_below hr1_15 hB) (by rw [e1.2.2.1]; exact hc1_15) (by rw [e1.2.2.2.1]; exact Kd.C_below hr1_16 hB) (by rw [e1.2.2.2.1]; exact hc1_16)) (GW.below hG hB)
   rw [e1.2.2.2.2.1, e1.2.2.2.2.2, ← e0.1, ← e0.2.1, ← e0.2.2.1, ← e0.2.2.2.1, ← e0.2.2.2.2.1, ← e0.2.2.2.2.2, e1.1, e1.2.1, e1.2.2.1, e1.2.2.2.1] at t
   exact t⟩
  obtain ⟨np, hnp⟩ : ∃ n, n = p.length := ⟨_, rfl⟩
  obtain ⟨nq, hnq⟩ : ∃ n, n = q.length := ⟨_, rfl⟩
  rw [← hnp] at HP HC
  rw [← hnq] at HQ HC
  obtain ⟨n0_2, hn0_2⟩ : ∃ n, n = l0_2.length := ⟨_, rfl⟩
  obtain ⟨n0_15, hn0_15⟩ : ∃ n, n = l0_15.length := ⟨_, rfl⟩
  obtain ⟨n0_16, hn0_16⟩ : ∃ n, n = l0_16.length := ⟨_, rfl⟩
  obtain ⟨n1_2, hn1_2⟩ : ∃ n, n = l1_2.length := ⟨_, rfl⟩
  obtain ⟨n1_15, hn1_15⟩ : ∃ n, n = l1_15.length := ⟨_, rfl⟩
  obtain ⟨n1_16, hn1_16⟩ : ∃ n, n = l1_16.length := ⟨_, rfl⟩
  rw [← hn0_2, ← hn0_15, ← hn0_16] at HP
  rw [← hn1_2, ← hn1_15, ← hn1_16] at HQ
  rw [← hn0_15, ← hn0_16, ← hn1_15, ← hn1_16] at HC
  rw [← hn0_2, ← hn0_15, ← hn0_16, ← hn1_2, ← hn1_15, ← hn1_16]
  clear hp hq hf u1 u2 u3 u4 u5 u6 v1 v2 v3 v4 v5 v6 h hm hm' e0 e1 hr0_2 hc0_2 hn0_2 hr0_15 hc0_15 hn0_15 hr0_16 hc0_16 hn0_16 hr1_2 hc1_2 hn1_2 hr1_15 hc1_15 hn1_15 hr1_16 hc1_16 hn1_16 hnp hnq hG
  obtain ⟨WA, hWA⟩ : ∃ WA : World, WA = (w.alloc (.cells #[.bool a0_0, .string a0_1, .slice A0_2 n0_2 c0_2, .bool a0_3, .string a0_4, .bool a0_5, .string a0_6, .bool a0_7, .string a0_8, .bool a0_9, .string a0_10, .bool a0_11, .string a0_12, .bool a0_13, .string a0_14, .slice A0_15 n0_15 c0_15, .slice A0_16 n0_16 c0_16] 29)).alloc (.cells #[.bool a1_0, .string a1_1, .slice A1_2 n1_2 c1_2, .bool a1_3, .string a1_4, .bool a1_5, .string a1_6, .bool a1_7, .string a1_8, .bool a1_9, .string a1_10, .bool a1_11, .string a1_12, .bool a1_13, .string a1_14, .slice A1_15 n1_15 c1_15, .slice A1_16 n1_16 c1_16] 29) := ⟨_, rfl⟩
  have hs1 : (w.alloc (.cells #[.bool a0_0, .string a0_1, .slice A0_2 n0_2 c0_2, .bool a0_3, .string a0_4, .bool a0_5, .string a0_6, .bool a0_7, .string a0_8, .bool a0_9, .string a0_10, .bool a0_11, .string a0_12, .bool a0_13, .string a0_14, .slice A0_15 n0_15 c0_15, .slice A0_16 n0_16 c0_16] 29)).heap.size = w.heap.size + 1 := by simp
  have c98 : WA.heap[w.heap.size]? = some (.cells #[.bool a0_0, .string a0_1, .slice A0_2 n0_2 c0_2, .bool a0_3, .string a0_4, .bool a0_5, .string a0_6, .bool a0_7, .string a0_8, .bool a0_9, .string a0_10, .bool a0_11, .string a0_12, .bool a0_13, .string a0_14, .slice A0_15 n0_15 c0_15, .slice A0_16 n0_16 c0_16] 29 (0, 0)) := by rw [hWA]; exact blk_alloc (blk_new w _) _
  have c97 : WA.heap[w.heap.size + 1]? = some (.cells #[.bool a1_0, .string a1_1, .slice A1_2 n1_2 c1_2, .bool a1_3, .string a1_4, .bool a1_5, .string a1_6, .bool a1_7, .string a1_8, .bool a1_9, .string a1_10, .bool a1_11, .string a1_12, .bool a1_13, .string a1_14, .slice A1_15 n1_15 c1_15, .slice A1_16 n1_16 c1_16] 29 (0, 0)) := by
   have := blk_new (w.alloc (.cells #[.bool a0_0, .string a0_1, .slice A0_2 n0_2 c0_2, .bool a0_3, .string a0_4, .bool a0_5, .string a0_6, .bool a0_7, .string a0_8, .bool a0_9, .string a0_10, .bool a0_11, .string a0_12, .bool a0_13, .string a0_14, .slice A0_15 n0_15 c0_15, .slice A0_16 n0_16 c0_16] 29)) (.cells #[.bool a1_0, .string a1_1, .slice A1_2 n1_2 c1_2, .bool a1_3, .string a1_4, .bool a1_5, .string a1_6, .bool a1_7, .string a1_8, .bool a1_9, .string a1_10, .bool a1_11, .string a1_12, .bool a1_13, .string a1_14, .slice A1_15 n1_15 c1_15, .slice A1_16 n1_16 c1_16] 29)
   rw [hs1] at this
   rw [hWA]
   exact this
  have c99 : Below w.heap.size w WA := by rw [hWA]; exact ((Below.refl _ w).alloc (Nat.le_refl _) _).alloc (by simp) _
  have c96 : WA.drew.heap[w.heap.size]? = some (.cells #[.bool a0_0, .string a0_1, .slice A0_2 n0_2 c0_2, .bool a0_3, .string a0_4, .bool a0_5, .string a0_6, .bool a0_7, .string a0_8, .bool a0_9, .string a0_10, .bool a0_11, .string a0_12, .bool a0_13, .string a0_14, .slice A0_15 n0_15 c0_15, .slice A0_16 n0_16 c0_16] 29 (0, 0)) := c98
  have c95 : WA.drew.heap[w.heap.size + 1]? = some (.cells #[.bool a1_0, .string a1_1, .slice A1_2 n1_2 c1_2, .bool a1_3, .string a1_4, .bool a1_5, .string a1_6, .bool a1_7, .string a1_8, .bool a1_9, .string a1_10, .bool a1_11, .string a1_12, .bool a1_13, .string a1_14, .slice A1_15 n1_15 c1_15, .slice A1_16 n1_16 c1_16] 29 (0, 0)) := c97
  clear hs1
  have HWA := Aside0.mk hWA
  clear hWA
  go_enter Tryz.func7, Tryz.ntmps7
  go_wp2
  rw [← HWA.out]
  clear HWA
  go_region_held3 (fun w' => (w'.cell? ⟨w.heap.size, 0, none⟩ = some (.bool a0_0) ∧ w'.cell? ⟨w.heap.size, 1, none⟩ = some (.string a0_1) ∧ w'.cell? ⟨w.heap.size, 2, none⟩ = some (.slice A0_2 n0_2 c0_2) ∧ w'.cell? ⟨w.heap.size, 3, none⟩ = some (.bool a0_3) ∧ w'.cell? ⟨w.heap.size, 4, none⟩ = some (.string a0_4) ∧ w'.cell? ⟨w.heap.size, 5, none⟩ = some (.bool a0_5) ∧ w'.cell? ⟨w.heap.size, 6, none⟩ = some (.string a0_6) ∧ w'.cell? ⟨w.heap.size, 7, none⟩ = some (.bool a0_7) ∧ w'.cell? ⟨w.heap.size, 8, none⟩ = some (.string a0_8) ∧ w'.cell? ⟨w.heap.size, 9, none⟩ = some (.bool a0_9) ∧ w'.cell? ⟨w.heap.size, 10, none⟩ = some (.string a0_10) ∧ w'.cell? ⟨w.heap.size, 11, none⟩ = some (.bool a0_11) ∧ w'.cell? ⟨w.heap.size, 12, none⟩ = some (.string a0_12) ∧ w'.cell? ⟨w.heap.size, 13, none⟩ = some (.bool a0_13) ∧ w'.cell? ⟨w.heap.size, 14, none⟩ = some (.string a0_14) ∧ w'.cell? ⟨w.heap.size, 15, none⟩ = some (.slice A0_15 n0_15 c0_15) ∧ w'.cell? ⟨w.heap.size, 16, none⟩ = some (.slice A0_16 n0_16 c0_16)) ∧ (w'.cell? ⟨w.heap.size + 1, 0, none⟩ = some (.bool a1_0) ∧ w'.cell? ⟨w.heap.size + 1, 1, none⟩ = some (.string a1_1) ∧ w'.cell? ⟨w.heap.size + 1, 2, none⟩ = some (.slice A1_2 n1_2 c1_2) ∧ w'.cell? ⟨w.heap.size + 1, 3, none⟩ = some (.bool a1_3) ∧ w'.cell? ⟨w.heap.size + 1, 4, none⟩ = some (.string a1_4) ∧ w'.cell? ⟨w.heap.size + 1, 5, none⟩ = some (.bool a1_5) ∧ w'.cell? ⟨w.heap.size + 1, 6, none⟩ = some (.string a1_6) ∧ w'.cell? ⟨w.heap.size + 1, 7, none⟩ = some (.bool a1_7) ∧ w'.cell? ⟨w.heap.size + 1, 8, none⟩ = some (.string a1_8) ∧ w'.cell? ⟨w.heap.size + 1, 9, none⟩ = some (.bool a1_9) ∧ w'.cell? ⟨w.heap.size + 1, 10, none⟩ = some (.string a1_10) ∧ w'.cell? ⟨w.heap.size + 1, 11, none⟩ = some (.bool a1_11) ∧ w'.cell? ⟨w.heap.size + 1, 12, none⟩ = some (.string a1_12) ∧ w'.cell? ⟨w.heap.size + 1, 13, none⟩ = some (.bool a1_13) ∧ w'.cell? ⟨w.heap.size + 1, 14, none⟩ = some (.string a1_14) ∧ w'.cell? ⟨w.heap.size + 1, 15, none⟩ = some (.slice A1_15 n1_15 c1_15) ∧ w'.cell? ⟨w.heap.size + 1, 16, none⟩ = some (.slice A1_16 n1_16 c1_16))) (first | (with_reducible refine ⟨py_S17 (t := 29) ?_, py_S17 (t := 29) ?_⟩ <;> with_reducible assumption))
   (first
    | (go_at_call 19; (with_reducible refine (HP.out _ ?_).mono ?_); (first | (with_reducible assumption) | exact c99 | exact below_drew c99); rintro e wP ⟨⟨eo, po, qo, dq, ra, rc, rfl, oP, bP⟩⟩; have YP := py_keep bP (g := w.heap.size) (o := .cells #[.bool a0_0, .string a0_1, .slice A0_2 n0_2 c0_2, .bool a0_3, .string a0_4, .bool a0_5, .string a0_6, .bool a0_7, .string a0_8, .bool a0_9, .string a0_10, .bool a0_11, .string a0_12, .bool a0_13, .string a0_14, .slice A0_15 n0_15 c0_15, .slice A0_16 n0_16 c0_16] 29 (0, 0)) (by first | (with_reducible assumption) | exact c98); have RP := py_keep bP (g := w.heap.size + 1) (o := .cells #[.bool a1_0, .string a1_1, .slice A1_2 n1_2 c1_2, .bool a1_3, .string a1_4, .bool a1_5, .string a1_6, .bool a1_7, .string a1_8, .bool a1_9, .string a1_10, .bool a1_11, .string a1_12, .bool a1_13, .string a1_14, .slice A1_15 n1_15 c1_15, .slice A1_16 n1_16 c1_16] 29 (0, 0)) (by first | (with_reducible assumption) | exact c97); have BP : Below w.heap.size w wP := py_next (by first | (with_reducible assumption) | exact c99 | exact below_drew c99) bP)
    | (go_at_call 19; (with_reducible refine (HQ.out _ ?_).mono ?_); (first | (with_reducible assumption) | exact c99 | exact below_drew c99); rintro e wQ ⟨⟨eo', po', qo', dq', ra', rc', rfl, oQ, bQ⟩⟩; have YQ := py_keep bQ (g := w.heap.size) (o := .cells #[.bool a0_0, .string a0_1, .slice A0_2 n0_2 c0_2, .bool a0_3, .string a0_4, .bool a0_5, .string a0_6, .bool a0_7, .string a0_8, .bool a0_9, .string a0_10, .bool a0_11, .string a0_12, .bool a0_13, .string a0_14, .slice A0_15 n0_15 c0_15, .slice A0_16 n0_16 c0_16] 29 (0, 0)) (by first | (with_reducible assumption) | exact c98); have RQ := py_keep bQ (g := w.heap.size + 1) (o := .cells #[.bool a1_0, .string a1_1, .slice A1_2 n1_2 c1_2, .bool a1_3, .string a1_4, .bool a1_5, .string a1_6, .bool a1_7, .string a1_8, .bool a1_9, .string a1_10, .bool a1_11, .string a1_12, .bool a1_13, .string a1_14, .slice A1_15 n1_15 c1_15, .slice A1_16 n1_16 c1_16] 29 (0, 0)) (by first | (with_reducible assumption) | exact c97); have BQ : Below w.heap.size w wQ := py_next (by first | (with_reducible assumption) | exact c99 | exact below_drew c99) bQ; have oP := PvO.below oP bQ)
    | (go_at_call 18; (with_reducible refine (HC.out _ _ _ _ _ _ _ _ _ _ _ _ _ ?_ ?_ ?_).mono ?_); (with_reducible exact ⟨_, oP⟩); (with_reducible exact ⟨_, oQ⟩); (with_reducible exact BQ); rintro e wC ⟨rfl, bC⟩; have YC := py_keep bC YQ; have RC := py_keep bC RQ; have BC := py_next BQ bC))
  clear HP HQ HC oP oQ YP YQ YC RP RQ RC BP BQ bP bQ bC c95 c96 c97 c98 c99
  go_wp2
  go_ret
  exact ⟨rfl, BC⟩

end Go.Proofs.YtipfmkfpaglkkaaGreatDoor.Z
